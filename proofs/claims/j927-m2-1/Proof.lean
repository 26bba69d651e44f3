import JvmDerived
import JvmDerived.Pilot.@@N@@Statement
import JvmDerived.Pilot.@@N@@Code
set_option linter.unusedVariables false
set_option linter.unusedSimpArgs false
namespace Jvm.Pilot.@@N@@
open Jvm Jvm.ClassFile Sem Op Lib Jvm.Free Jvm.Stand Jvm.LawKit Jvm.RoadKit Bundle Jvm.Pilot.@@N@@.Jvm.D

section Own
variable {p : Program} {l : Launch} {e : Env} {R : Room} {s : State} {m : MethodId} {args : Array Value} {below : List Frame} {meth : Method} {c : Code} {T : State} {locs : List Loc} {cells slots : Nat} {Qo : Option Value → Heap → List Loc → Prop} {C N : Nat}
/-- the run goes on from U to a return that answers Qo -/
def own_Done (p : Program) (e : Env) (below : List Frame) (s : State) (Qo : Option Value → Heap → List Loc → Prop) (C N : Nat) (U : State) : Prop :=
  ∃ s₂ o, Steps p.tables e below U s₂ ∧ s₂.status = .running ∧ Ended s₂ below o ∧ (∃ v L, o = .returned v ∧ Qo v s₂.heap L ∧ FrameEnd s o s₂ L C N)
theorem own_go {U U' : State} (h : ∀ t, Steps p.tables e below U' t → Steps p.tables e below U t) (d : own_Done p e below s Qo C N U') : own_Done p e below s Qo C N U := by
  obtain ⟨s₂, o, h1, h2⟩ := d
  exact ⟨s₂, o, h _ h1, h2⟩
theorem own_join {U U' : State} (h : own_Done p e below s Qo C N U' → own_Done p e below s Qo C N U) (d : own_Done p e below s Qo C N U') : own_Done p e below s Qo C N U := h d
theorem own_sta_keep {Z : State} {h h' : Heap} {C n d : String} {v : Value} (F : Sta Z h C n d v) (K : Keep h h' []) : Sta Z h' C n d v := by
  obtain ⟨cf, i, k, f, st, cell, h1, h2, h3, h4, h5, r⟩ := F
  exact ⟨cf, i, k, f, st, cell, h1, h2, h3, h4, K.2.1 st cell h5 (fun q => nomatch q), r⟩
theorem own_at {c : Cell} {z j : Int32} {vs : List Value} {d v : Value} {i : Nat} (S : c.slots.size = z.toNatClampNeg) (H : Has c vs d) (q : ¬ j < 0 ∧ j < z) (hj : j.toNatClampNeg = i) (hv : vs.getD i d = v) : c.slots[j.toNatClampNeg]? = some v := by
  have h := inb_of S q
  rw [H _ (Nat.lt_of_not_le fun k => h (Or.inr k)), hj, hv]
/-- an array of ints, bytes, chars .. by what its places hold -/
def own_Arf (Z : State) (h : Heap) (a : Addr) (k : ClassId) (ty : FieldType) (n : Int32) (f : Int32 → Int32) : Prop :=
  ∃ c : Cell, Arr Z h a c ty ∧ c.cls = k ∧ c.slots.size = n.toNatClampNeg ∧ ¬ n < 0 ∧ ∀ j : Int32, ¬ j < 0 → j < n → c.slots[j.toNatClampNeg]? = some (.int (f j))
section Arf
variable {Z : State} {h h' : Heap} {a b : Addr} {k : ClassId} {ty : FieldType} {n : Int32} {f : Int32 → Int32}
theorem own_Arf.lt (F : own_Arf Z h a k ty n f) : a < h.size := by obtain ⟨c, A, -⟩ := F; exact A.lt
theorem own_Arf.ext (F : own_Arf Z h a k ty n f) (E : Ext h h') : own_Arf Z h' a k ty n f := by obtain ⟨c, A, r⟩ := F; exact ⟨c, A.ext E, r⟩
theorem own_Arf.other {sl : Nat} {v : Value} (F : own_Arf Z h b k ty n f) (W : Wr h h' a sl v) (q : b ≠ a) : own_Arf Z h' b k ty n f := by obtain ⟨c, A, r⟩ := F; exact ⟨c, A.other W q, r⟩
theorem own_Arf.keep {ws : List Addr} (F : own_Arf Z h a k ty n f) (K : Keep h h' ws) (q : a ∉ ws) : own_Arf Z h' a k ty n f := by obtain ⟨c, A, r⟩ := F; exact ⟨c, ⟨K.2.1 a c A.1 q, A.2⟩, r⟩
theorem own_Arf.new (A : Arr Z h a (newA k ty n) ty) (q : ¬ n < 0) (hd : defaultValue ty = .int 0) : own_Arf Z h a k ty n (fun _ => (0 : Int32)) :=
  ⟨_, A, rfl, sz_new _ _ _, q, fun j h1 h2 => by
    have h3 := inb_of (sz_new k ty n) (z := n) (j := j) ⟨h1, h2⟩
    rw [sz_new] at h3
    rw [get_new h3, hd]⟩
theorem own_Arf.set {c : Cell} {j v : Int32} (A : Arr Z h a c ty) (q1 : c.cls = k) (S : c.slots.size = n.toNatClampNeg) (q3 : ¬ n < 0) (H : ∀ j : Int32, ¬ j < 0 → j < n → c.slots[j.toNatClampNeg]? = some (.int (f j))) (hj : ¬ j < 0 ∧ j < n) (W : Wr h h' a j.toNatClampNeg (.int v)) :
    own_Arf Z h' a k ty n (fun i => if i = j then v else f i) :=
  ⟨c.setSlot j.toNatClampNeg (.int v), A.same W, q1, by rw [sz_set]; exact S, q3, fun i h1 h2 => by
    by_cases e : i = j
    · rw [get_hit (inb_of S hj) e]; simp only [if_pos e]
    · rw [get_miss hj.1 h1 e, H i h1 h2]; simp only [if_neg e]⟩
end Arf
theorem own_ret (X : Stand p l e R s m args below meth c T locs cells slots) {v : Option Value} {g : JFrame} (hlk : meth.locks = false) (hv : meth.sig.returnType = none → v = none) (hC : cells ≤ C) (hN : slots ≤ N)
    (st : ∀ fs, (∀ (f : JFrame) (acts : List Action), f.method = m → f.locked = none → f.entered = [] → (doReturn e (T.setTop f) acts v).1 = T.setFrames fs) → Steps p.tables e below (T.setTop g) (T.setFrames fs)) (hQ : Qo v T.heap locs) : own_Done p e below s Qo C N (T.setTop g) := by
  obtain ⟨fs, hr, hrun, hended, hW, hsame⟩ := X.leave (v := v) hv hlk
  exact ⟨_, _, st fs hr, hrun, hended, _, _, rfl, hQ, ⟨_, rfl⟩, hW, hsame.mono hC hN⟩
theorem own_retI (X : Stand p l e R s m args below meth c T locs cells slots) (hx : p.tables.exec = Jvm.exec) {pc : Nat} {Ls : Array Slot} {z : Int32} {rest : List Value} (hret : meth.sig.returnType = some .int) (hd : decode c.code pc = .ok (.ireturn, 1)) {fs : List Frame}
    (hl : ∀ (f : JFrame) (acts : List Action), f.method = m → f.locked = none → f.entered = [] → (doReturn e (T.setTop f) acts (some (.int z))).1 = T.setFrames fs) : Steps p.tables e below (T.setTop (mkF m pc Ls (.int z :: rest))) (T.setFrames fs) := by
  exact retOut X hx hret rfl (Or.inl ⟨rfl, Or.inl rfl, z, rfl⟩) hd hl
theorem own_retJ (X : Stand p l e R s m args below meth c T locs cells slots) (hx : p.tables.exec = Jvm.exec) {pc : Nat} {Ls : Array Slot} {z : Int64} {rest : List Value} (hret : meth.sig.returnType = some .long) (hd : decode c.code pc = .ok (.lreturn, 1)) {fs : List Frame}
    (hl : ∀ (f : JFrame) (acts : List Action), f.method = m → f.locked = none → f.entered = [] → (doReturn e (T.setTop f) acts (some (.long z))).1 = T.setFrames fs) : Steps p.tables e below (T.setTop (mkF m pc Ls (.long z :: rest))) (T.setFrames fs) := by
  exact retOut X hx hret rfl (Or.inr (Or.inl ⟨rfl, rfl, z, rfl⟩)) hd hl
theorem own_retR (X : Stand p l e R s m args below meth c T locs cells slots) (hx : p.tables.exec = Jvm.exec) {pc : Nat} {Ls : Array Slot} {w : Value} {t : FieldType} {rest : List Value} (hret : meth.sig.returnType = some t) (ht : t.isReference = true) (hw : w.isRef = true) (hn : narrow t w = w) (hd : decode c.code pc = .ok (.areturn, 1)) {fs : List Frame}
    (hl : ∀ (f : JFrame) (acts : List Action), f.method = m → f.locked = none → f.entered = [] → (doReturn e (T.setTop f) acts (some w)).1 = T.setFrames fs) : Steps p.tables e below (T.setTop (mkF m pc Ls (w :: rest))) (T.setFrames fs) := by
  exact retOut X hx hret hn (Or.inr (Or.inr (Or.inr (Or.inr ⟨rfl, ht, hw⟩)))) hd hl
/-- the same where Strings may be interned meanwhile -/
def own_DoneW (p : Program) (e : Env) (below : List Frame) (s : State) (Z : State) (EL : List (String × Nat)) (Qo : Option Value → Heap → List Loc → Prop) (C N : Nat) (U : State) : Prop :=
  ∃ s₂ o, Steps p.tables e below U s₂ ∧ s₂.status = .running ∧ Ended s₂ below o ∧ (∃ v L, o = .returned v ∧ Qo v s₂.heap L ∧ CHr Z EL s.vm s.heap s₂.vm s₂.heap ∧ ReturnedEndW s o s₂ L C N)
theorem own_goW {Z : State} {EL : List (String × Nat)} {U U' : State} (h : ∀ t, Steps p.tables e below U' t → Steps p.tables e below U t) (d : own_DoneW p e below s Z EL Qo C N U') : own_DoneW p e below s Z EL Qo C N U := by
  obtain ⟨s₂, o, h1, h2⟩ := d
  exact ⟨s₂, o, h _ h1, h2⟩
theorem own_joinW {Z : State} {EL : List (String × Nat)} {U U' : State} (h : own_DoneW p e below s Z EL Qo C N U' → own_DoneW p e below s Z EL Qo C N U) (d : own_DoneW p e below s Z EL Qo C N U') : own_DoneW p e below s Z EL Qo C N U := h d
theorem own_retW {Z : State} {EL : List (String × Nat)} {vm₁ : Vm} (X : Stand p l e R (s.setVm vm₁) m args below meth c T locs cells slots) {n : Nat} (hS : s.Since vm₁ n) (hn : n ≤ T.heap.size) (hC : CHr Z EL s.vm s.heap T.vm T.heap) {v : Option Value} {g : JFrame} (hlk : meth.locks = false) (hv : meth.sig.returnType = none → v = none) (hCc : cells ≤ C) (hN : slots ≤ N)
    (st : ∀ fs, (∀ (f : JFrame) (acts : List Action), f.method = m → f.locked = none → f.entered = [] → (doReturn e (T.setTop f) acts v).1 = T.setFrames fs) → Steps p.tables e below (T.setTop g) (T.setFrames fs)) (hQ : Qo v T.heap locs) : own_DoneW p e below s Z EL Qo C N (T.setTop g) := by
  obtain ⟨fs, hr, hrun, hended, hE⟩ := X.leaveW hS hn (v := v) hv hlk
  exact ⟨_, _, st fs hr, hrun, hended, _, _, rfl, hQ, hC, hE.1, hE.2.1, hE.2.2.1, hE.2.2.2.mono hCc hN⟩
end Own

theorem d1_0 : decode prog_113_method_3_code 0 = .ok (.ldc2_w 19, 3) := by decide +kernel
theorem d1_3 : decode prog_113_method_3_code 3 = .ok (.lload_n 0, 1) := by decide +kernel
theorem d1_4 : decode prog_113_method_3_code 4 = .ok (.lload_n 2, 1) := by decide +kernel
theorem d1_5 : decode prog_113_method_3_code 5 = .ok (.lmul, 1) := by decide +kernel
theorem d1_6 : decode prog_113_method_3_code 6 = .ok (.ladd, 1) := by decide +kernel
theorem d1_7 : decode prog_113_method_3_code 7 = .ok (.ldc2_w 21, 3) := by decide +kernel
theorem d1_10 : decode prog_113_method_3_code 10 = .ok (.ladd, 1) := by decide +kernel
theorem d1_11 : decode prog_113_method_3_code 11 = .ok (.ldc2_w 23, 3) := by decide +kernel
theorem d1_14 : decode prog_113_method_3_code 14 = .ok (.ldiv, 1) := by decide +kernel
theorem d1_15 : decode prog_113_method_3_code 15 = .ok (.ldc2_w 23, 3) := by decide +kernel
theorem d1_18 : decode prog_113_method_3_code 18 = .ok (.lmul, 1) := by decide +kernel
theorem d1_19 : decode prog_113_method_3_code 19 = .ok (.lstore 4, 2) := by decide +kernel
theorem d1_21 : decode prog_113_method_3_code 21 = .ok (.lload 4, 2) := by decide +kernel
theorem d1_23 : decode prog_113_method_3_code 23 = .ok (.ldc2_w 25, 3) := by decide +kernel
theorem d1_26 : decode prog_113_method_3_code 26 = .ok (.lcmp, 1) := by decide +kernel
theorem d1_27 : decode prog_113_method_3_code 27 = .ok (.ifCond .ge 8, 3) := by decide +kernel
theorem d1_30 : decode prog_113_method_3_code 30 = .ok (.lload 4, 2) := by decide +kernel
theorem d1_32 : decode prog_113_method_3_code 32 = .ok (.goto 9, 3) := by decide +kernel
theorem d1_35 : decode prog_113_method_3_code 35 = .ok (.ldc2_w 27, 3) := by decide +kernel
theorem d1_38 : decode prog_113_method_3_code 38 = .ok (.lload 4, 2) := by decide +kernel
theorem d1_40 : decode prog_113_method_3_code 40 = .ok (.lmul, 1) := by decide +kernel
theorem d1_41 : decode prog_113_method_3_code 41 = .ok (.lreturn, 1) := by decide +kernel
theorem own_pn0 : plainName "com/example/tracewarden/tracewarden/io/JavaHeap" = true := by first | (simp [plainName, overriddenIn]; done) | decide +kernel
theorem own_ef1 (m : MethodId) (x0 : Int64) (x1 : Int64) : entryFrame m #[(.long x0), (.long x1)] 6 = mkF m 0 #[.val (.long x0), .second, .val (.long x1), .second, .unset, .unset] [] := by first | (simp [entryFrame, mkF, argsToLocals, Value.category]; done) | rfl
def f_1 (q0 : Int64) (q1 : Int64) : Int64 := (if (((((24 : Int64) + (q0 * q1)) + (7 : Int64)) / (8 : Int64)) * (8 : Int64)) < (524288 : Int64) then (((((24 : Int64) + (q0 * q1)) + (7 : Int64)) / (8 : Int64)) * (8 : Int64)) else ((2 : Int64) * (((((24 : Int64) + (q0 * q1)) + (7 : Int64)) / (8 : Int64)) * (8 : Int64))))
def Q1 (Z : State) (q0 : Int64) (q1 : Int64) (h0 : Heap) (n0 : Nat) (v : Option Value) (h : Heap) (L : List Loc) : Prop := v = some (.long (f_1 q0 q1)) ∧ Fr n0 L ∧ h = h0
set_option maxRecDepth 65536 in
set_option maxHeartbeats 40000000 in
theorem rm1 (l : Launch) (Z : State) (aw : Array Value) (hw : ∀ d ∈ tables_1, d.before aw Z = true) (ws : List Jvm.Cond) (q0 : Int64) (q1 : Int64) (h0 : Heap) (n0 : Nat) (Z0 : n0 ≤ h0.size) :
    MetFree l (⟨"com/example/tracewarden/tracewarden/io/JavaHeap", "arrayBytes", "(JJ)J"⟩ : MethodName) (head1 (Jvm.Cond.code (⟨"com/example/tracewarden/tracewarden/io/JavaHeap", "arrayBytes", "(JJ)J"⟩ : MethodName) prog_113_method_3_code 6 (some .long) :: ws) ({ frames := 0, cells := 0, slots := 0, locals := 0 } : Room)) (fun a U => a = #[(.long q0), (.long q1)] ∧ Z.Warmed39 U.vm ∧ U.heap = h0) (fun _ _ _ _ _ => True) (fun _ U o U' => ∃ v L, o = .returned v ∧ (Q1 Z q0 q1 h0 n0) v U'.heap L ∧ FrameEnd U o U' L ({ frames := 0, cells := 0, slots := 0, locals := 0 } : Room).cells ({ frames := 0, cells := 0, slots := 0, locals := 0 } : Room).slots) := by
  refine MetFree.of_bodySF (plainFor_of_name own_pn0) hisR ?_
  intro p e s m args below meth c s₁ Bd hml0 hP hK
  obtain ⟨rfl, hZ, hh⟩ := hP
  have hx := Bd.exec
  have hby := Bd.bytes
  have hml : c.maxLocals = 6 := hml0
  have hown : s.vm.findClass "com/example/tracewarden/tracewarden/io/JavaHeap" = some m.cls := findClass_of_methodNamed Bd.named
  have hnm := (name_of_methodNamed Bd.named Bd.method).1
  have hlk : meth.locks = false := BodyLoose.notSynchronized (by assumption)
  have X0 : Stand p l e ({ frames := 0, cells := 0, slots := 0, locals := 0 } : Room) s m #[(.long q0), (.long q1)] below meth c s₁ [] 0 0 := Stand.of_body Bd
  have e0 : s₁.heap = h0 := by rw [← hh, Bd.state]; rfl
  have N0 := Fr.nil n0
  show own_Done p e below s (Q1 Z q0 q1 h0 n0) ({ frames := 0, cells := 0, slots := 0, locals := 0 } : Room).cells ({ frames := 0, cells := 0, slots := 0, locals := 0 } : Room).slots (s₁.setTop (entryFrame m #[(.long q0), (.long q1)] 6))
  refine own_go (U' := s₁.setTop (mkF m 0 #[.val (.long q0), .second, .val (.long q1), .second, .unset, .unset] [])) (fun _ k => castTop (own_ef1 m q0 q1) k) ?_
  refine own_go (U' := s₁.setTop (mkF m 3 #[.val (.long q0), .second, .val (.long q1), .second, .unset, .unset] [(.long (24 : Int64))])) (fun _ k => X0.ldc2Long hx hown (mvT hZ (hw _ (List.mem_of_getElem? (i := 8) rfl))) (g := (mkF m 0 #[.val (.long q0), .second, .val (.long q1), .second, .unset, .unset] [])) rfl (hb hby d1_0) _ k) ?_
  refine own_go (U' := s₁.setTop (mkF m 4 #[.val (.long q0), .second, .val (.long q1), .second, .unset, .unset] [(.long q0), (.long (24 : Int64))])) (fun _ k => XS.lloadN X0.here hx rfl (hb hby d1_3) rfl k) ?_
  refine own_go (U' := s₁.setTop (mkF m 5 #[.val (.long q0), .second, .val (.long q1), .second, .unset, .unset] [(.long q1), (.long q0), (.long (24 : Int64))])) (fun _ k => XS.lloadN X0.here hx rfl (hb hby d1_4) rfl k) ?_
  refine own_go (U' := s₁.setTop (mkF m 6 #[.val (.long q0), .second, .val (.long q1), .second, .unset, .unset] [(.long (q0 * q1)), (.long (24 : Int64))])) (fun _ k => XS.lmul X0.here hx rfl (hb hby d1_5) rfl k) ?_
  refine own_go (U' := s₁.setTop (mkF m 7 #[.val (.long q0), .second, .val (.long q1), .second, .unset, .unset] [(.long ((24 : Int64) + (q0 * q1)))])) (fun _ k => XS.ladd X0.here hx rfl (hb hby d1_6) rfl k) ?_
  refine own_go (U' := s₁.setTop (mkF m 10 #[.val (.long q0), .second, .val (.long q1), .second, .unset, .unset] [(.long (7 : Int64)), (.long ((24 : Int64) + (q0 * q1)))])) (fun _ k => X0.ldc2Long hx hown (mvT hZ (hw _ (List.mem_of_getElem? (i := 9) rfl))) (g := (mkF m 7 #[.val (.long q0), .second, .val (.long q1), .second, .unset, .unset] [(.long ((24 : Int64) + (q0 * q1)))])) rfl (hb hby d1_7) _ k) ?_
  refine own_go (U' := s₁.setTop (mkF m 11 #[.val (.long q0), .second, .val (.long q1), .second, .unset, .unset] [(.long (((24 : Int64) + (q0 * q1)) + (7 : Int64)))])) (fun _ k => XS.ladd X0.here hx rfl (hb hby d1_10) rfl k) ?_
  refine own_go (U' := s₁.setTop (mkF m 14 #[.val (.long q0), .second, .val (.long q1), .second, .unset, .unset] [(.long (8 : Int64)), (.long (((24 : Int64) + (q0 * q1)) + (7 : Int64)))])) (fun _ k => X0.ldc2Long hx hown (mvT hZ (hw _ (List.mem_of_getElem? (i := 10) rfl))) (g := (mkF m 11 #[.val (.long q0), .second, .val (.long q1), .second, .unset, .unset] [(.long (((24 : Int64) + (q0 * q1)) + (7 : Int64)))])) rfl (hb hby d1_11) _ k) ?_
  refine own_go (U' := s₁.setTop (mkF m 15 #[.val (.long q0), .second, .val (.long q1), .second, .unset, .unset] [(.long ((((24 : Int64) + (q0 * q1)) + (7 : Int64)) / (8 : Int64)))])) (fun _ k => XS.ldiv X0.here hx rfl (hb hby d1_14) rfl (by decide) k) ?_
  refine own_go (U' := s₁.setTop (mkF m 18 #[.val (.long q0), .second, .val (.long q1), .second, .unset, .unset] [(.long (8 : Int64)), (.long ((((24 : Int64) + (q0 * q1)) + (7 : Int64)) / (8 : Int64)))])) (fun _ k => X0.ldc2Long hx hown (mvT hZ (hw _ (List.mem_of_getElem? (i := 10) rfl))) (g := (mkF m 15 #[.val (.long q0), .second, .val (.long q1), .second, .unset, .unset] [(.long ((((24 : Int64) + (q0 * q1)) + (7 : Int64)) / (8 : Int64)))])) rfl (hb hby d1_15) _ k) ?_
  refine own_go (U' := s₁.setTop (mkF m 19 #[.val (.long q0), .second, .val (.long q1), .second, .unset, .unset] [(.long (((((24 : Int64) + (q0 * q1)) + (7 : Int64)) / (8 : Int64)) * (8 : Int64)))])) (fun _ k => XS.lmul X0.here hx rfl (hb hby d1_18) rfl k) ?_
  refine own_go (U' := s₁.setTop (mkF m 21 #[.val (.long q0), .second, .val (.long q1), .second, .val (.long (((((24 : Int64) + (q0 * q1)) + (7 : Int64)) / (8 : Int64)) * (8 : Int64))), .second] [])) (fun _ k => XS.lstore X0.here hx rfl (hb hby d1_19) rfl (l' := #[.val (.long q0), .second, .val (.long q1), .second, .val (.long (((((24 : Int64) + (q0 * q1)) + (7 : Int64)) / (8 : Int64)) * (8 : Int64))), .second]) rfl k) ?_
  refine own_go (U' := s₁.setTop (mkF m 23 #[.val (.long q0), .second, .val (.long q1), .second, .val (.long (((((24 : Int64) + (q0 * q1)) + (7 : Int64)) / (8 : Int64)) * (8 : Int64))), .second] [(.long (((((24 : Int64) + (q0 * q1)) + (7 : Int64)) / (8 : Int64)) * (8 : Int64)))])) (fun _ k => XS.lload X0.here hx rfl (hb hby d1_21) rfl k) ?_
  refine own_go (U' := s₁.setTop (mkF m 26 #[.val (.long q0), .second, .val (.long q1), .second, .val (.long (((((24 : Int64) + (q0 * q1)) + (7 : Int64)) / (8 : Int64)) * (8 : Int64))), .second] [(.long (524288 : Int64)), (.long (((((24 : Int64) + (q0 * q1)) + (7 : Int64)) / (8 : Int64)) * (8 : Int64)))])) (fun _ k => X0.ldc2Long hx hown (mvT hZ (hw _ (List.mem_of_getElem? (i := 11) rfl))) (g := (mkF m 23 #[.val (.long q0), .second, .val (.long q1), .second, .val (.long (((((24 : Int64) + (q0 * q1)) + (7 : Int64)) / (8 : Int64)) * (8 : Int64))), .second] [(.long (((((24 : Int64) + (q0 * q1)) + (7 : Int64)) / (8 : Int64)) * (8 : Int64)))])) rfl (hb hby d1_23) _ k) ?_
  refine own_go (U' := s₁.setTop (mkF m 27 #[.val (.long q0), .second, .val (.long q1), .second, .val (.long (((((24 : Int64) + (q0 * q1)) + (7 : Int64)) / (8 : Int64)) * (8 : Int64))), .second] [(.int (lcmpW (((((24 : Int64) + (q0 * q1)) + (7 : Int64)) / (8 : Int64)) * (8 : Int64)) (524288 : Int64)))])) (fun _ k => XS.lcmp X0.here hx rfl (hb hby d1_26) rfl k) ?_
  obtain ⟨z27, hz27⟩ : ∃ z : Int64, z = (if (((((24 : Int64) + (q0 * q1)) + (7 : Int64)) / (8 : Int64)) * (8 : Int64)) < (524288 : Int64) then (((((24 : Int64) + (q0 * q1)) + (7 : Int64)) / (8 : Int64)) * (8 : Int64)) else ((2 : Int64) * (((((24 : Int64) + (q0 * q1)) + (7 : Int64)) / (8 : Int64)) * (8 : Int64)))) := ⟨_, rfl⟩
  refine own_join (U' := s₁.setTop (mkF m 41 #[.val (.long q0), .second, .val (.long q1), .second, .val (.long (((((24 : Int64) + (q0 * q1)) + (7 : Int64)) / (8 : Int64)) * (8 : Int64))), .second] [(.long z27)])) (fun J27_1 => ?_) ?_
  · by_cases hc27_2 : (((((24 : Int64) + (q0 * q1)) + (7 : Int64)) / (8 : Int64)) * (8 : Int64)) < (524288 : Int64)
    · refine own_go (U' := s₁.setTop (mkF m 30 #[.val (.long q0), .second, .val (.long q1), .second, .val (.long (((((24 : Int64) + (q0 * q1)) + (7 : Int64)) / (8 : Int64)) * (8 : Int64))), .second] [])) (fun _ k => XS.ifNo X0.here hx rfl (hb hby d1_27) rfl ((if0 _ _).trans (tlt ((lw_lt _ _).mpr hc27_2)).2.1) k) ?_
      refine own_go (U' := s₁.setTop (mkF m 32 #[.val (.long q0), .second, .val (.long q1), .second, .val (.long (((((24 : Int64) + (q0 * q1)) + (7 : Int64)) / (8 : Int64)) * (8 : Int64))), .second] [(.long (((((24 : Int64) + (q0 * q1)) + (7 : Int64)) / (8 : Int64)) * (8 : Int64)))])) (fun _ k => XS.lload X0.here hx rfl (hb hby d1_30) rfl k) ?_
      refine own_go (U' := s₁.setTop (mkF m 41 #[.val (.long q0), .second, .val (.long q1), .second, .val (.long (((((24 : Int64) + (q0 * q1)) + (7 : Int64)) / (8 : Int64)) * (8 : Int64))), .second] [(.long (((((24 : Int64) + (q0 * q1)) + (7 : Int64)) / (8 : Int64)) * (8 : Int64)))])) (fun _ k => XS.goto X0.here hx rfl (pc0 := 32) (pc' := 41) rfl (hb hby d1_32) (by decide) (by decide) k) ?_
      simp only [if_pos hc27_2] at hz27
      subst hz27
      exact J27_1
    · refine own_go (U' := s₁.setTop (mkF m 35 #[.val (.long q0), .second, .val (.long q1), .second, .val (.long (((((24 : Int64) + (q0 * q1)) + (7 : Int64)) / (8 : Int64)) * (8 : Int64))), .second] [])) (fun _ k => XS.ifYes X0.here hx rfl (pc0 := 27) (pc' := 35) rfl (hb hby d1_27) rfl ((if0 _ _).trans (flt (mt (lw_lt _ _).mp hc27_2)).2.1) (by decide) (by decide) k) ?_
      refine own_go (U' := s₁.setTop (mkF m 38 #[.val (.long q0), .second, .val (.long q1), .second, .val (.long (((((24 : Int64) + (q0 * q1)) + (7 : Int64)) / (8 : Int64)) * (8 : Int64))), .second] [(.long (2 : Int64))])) (fun _ k => X0.ldc2Long hx hown (mvT hZ (hw _ (List.mem_of_getElem? (i := 12) rfl))) (g := (mkF m 35 #[.val (.long q0), .second, .val (.long q1), .second, .val (.long (((((24 : Int64) + (q0 * q1)) + (7 : Int64)) / (8 : Int64)) * (8 : Int64))), .second] [])) rfl (hb hby d1_35) _ k) ?_
      refine own_go (U' := s₁.setTop (mkF m 40 #[.val (.long q0), .second, .val (.long q1), .second, .val (.long (((((24 : Int64) + (q0 * q1)) + (7 : Int64)) / (8 : Int64)) * (8 : Int64))), .second] [(.long (((((24 : Int64) + (q0 * q1)) + (7 : Int64)) / (8 : Int64)) * (8 : Int64))), (.long (2 : Int64))])) (fun _ k => XS.lload X0.here hx rfl (hb hby d1_38) rfl k) ?_
      refine own_go (U' := s₁.setTop (mkF m 41 #[.val (.long q0), .second, .val (.long q1), .second, .val (.long (((((24 : Int64) + (q0 * q1)) + (7 : Int64)) / (8 : Int64)) * (8 : Int64))), .second] [(.long ((2 : Int64) * (((((24 : Int64) + (q0 * q1)) + (7 : Int64)) / (8 : Int64)) * (8 : Int64))))])) (fun _ k => XS.lmul X0.here hx rfl (hb hby d1_40) rfl k) ?_
      simp only [if_neg hc27_2] at hz27
      subst hz27
      exact J27_1
  · refine own_ret X0 (v := (some (.long z27))) hlk (fun h => by rw [Bd.returns] at h; cases h) (by decide) (by decide) (fun fs hr => own_retJ X0 hx Bd.returns (hb hby d1_41) hr) ?_
    show (Q1 Z q0 q1 h0 n0) _ s₁.heap _
    rw [e0]
    try subst hz27
    exact ⟨by first | (simp only [f_1]; done) | rfl | (simp [f_1]; done), N0, rfl⟩

set_option maxHeartbeats 4000000 in
theorem own_main {p0 p1 : Int32} {y7 y14 y24 y32 z38 z63 : Int64} (h7 : ((1 : Int32) + (p0 &&& (7 : Int32))).toInt64 = y7) (h14 : (p1.toInt64 &&& (2147483647 : Int64)) = y14) (h24 : (24 : Int64) + (y7 * y14) = y24) (h32 : y24 - (y24 / (8 : Int64)) * (8 : Int64) = y32)
    (h38 : z38 = if y32 = (0 : Int64) then y24 else y24 + ((8 : Int64) - y32)) (h63 : z63 = if z38 < (524288 : Int64) then z38 else z38 + z38) : f_1 y7 y14 = z63 := by
  have k0 : (0 : Int64).toInt = 0 := by decide
  have k8 : (8 : Int64).toInt = 8 := by decide
  have k7 : (7 : Int64).toInt = 7 := by decide
  have k24 : (24 : Int64).toInt = 24 := by decide
  have k2 : (2 : Int64).toInt = 2 := by decide
  have kL : (524288 : Int64).toInt = 524288 := by decide
  have k1 : (1 : Int32).toInt = 1 := by decide
  have a1 : (p0 &&& (7 : Int32)).toInt = p0.toInt % 8 := c_mask p0 7 3 (by decide) (by decide)
  have a2 := c_iadd (1 : Int32) (p0 &&& (7 : Int32))
  have a3 := rng32 ((1 : Int32) + (p0 &&& (7 : Int32)))
  have a4 : y7.toInt = ((1 : Int32) + (p0 &&& (7 : Int32))).toInt := by rw [← h7]; exact c_i2l _
  have a5 : y14.toInt = p1.toInt64.toInt % 2147483648 := by rw [← h14]; exact c_maskL _ 2147483647 31 (by decide) (by decide)
  have b7 : 1 ≤ y7.toInt ∧ y7.toInt ≤ 8 := by omega
  have b14 : 0 ≤ y14.toInt ∧ y14.toInt ≤ 2147483647 := by omega
  obtain ⟨P, hP⟩ : ∃ P, P = y7.toInt * y14.toInt := ⟨_, rfl⟩
  have bP0 : 0 ≤ P := by rw [hP]; exact Int.mul_nonneg (by omega) b14.1
  have bP1 : P ≤ 8 * 2147483647 := by rw [hP]; exact Int.mul_le_mul b7.2 b14.2 b14.1 (by decide)
  have m1 := c_lmul y7 y14
  have m2 := rng64 (y7 * y14)
  rw [← hP] at m1
  have m3 : (y7 * y14).toInt = P := by omega
  have n1 := c_ladd (24 : Int64) (y7 * y14)
  have n2 := rng64 ((24 : Int64) + (y7 * y14))
  have n3 : ((24 : Int64) + (y7 * y14)).toInt = 24 + P := by omega
  have v24 : y24.toInt = 24 + P := by rw [← h24]; exact n3
  have v32 : y32.toInt = (24 + P) % 8 := by
    have q := (c_lrem y24 (8 : Int64) 8 k8).1 (by omega)
    rw [h32] at q
    omega
  have o1 := c_ladd ((24 : Int64) + (y7 * y14)) (7 : Int64)
  have o2 := rng64 (((24 : Int64) + (y7 * y14)) + (7 : Int64))
  have o3 : (((24 : Int64) + (y7 * y14)) + (7 : Int64)).toInt = 31 + P := by omega
  have o4 := (c_ldiv (((24 : Int64) + (y7 * y14)) + (7 : Int64)) (8 : Int64) 8 k8 (by decide)).1 (by omega)
  have o5 := c_lmul ((((24 : Int64) + (y7 * y14)) + (7 : Int64)) / (8 : Int64)) (8 : Int64)
  rw [k8] at o5
  have o6 := rng64 (((((24 : Int64) + (y7 * y14)) + (7 : Int64)) / (8 : Int64)) * (8 : Int64))
  have o7 : (((((24 : Int64) + (y7 * y14)) + (7 : Int64)) / (8 : Int64)) * (8 : Int64)).toInt = (31 + P) / 8 * 8 := by omega
  have u1 := c_lsub (8 : Int64) y32
  have u2 := rng64 ((8 : Int64) - y32)
  have u3 := c_ladd y24 ((8 : Int64) - y32)
  have u4 := rng64 (y24 + ((8 : Int64) - y32))
  have v38 : z38.toInt = (31 + P) / 8 * 8 := by
    by_cases q : y32 = (0 : Int64)
    · rw [h38, if_pos q]
      have : y32.toInt = 0 := by rw [q]; exact k0
      omega
    · rw [h38, if_neg q]
      have : y32.toInt ≠ 0 := fun w => q (Int64.toInt_inj.mp (w.trans k0.symm))
      omega
  unfold f_1
  generalize ((((24 : Int64) + (y7 * y14)) + (7 : Int64)) / (8 : Int64)) * (8 : Int64) = E at *
  have e1 : E = z38 := Int64.toInt_inj.mp (o7.trans v38.symm)
  subst e1
  have w1 := c_lmul (2 : Int64) E
  rw [k2] at w1
  have w2 := rng64 ((2 : Int64) * E)
  have w3 := c_ladd E E
  have w4 := rng64 (E + E)
  rw [h63]
  by_cases q : E < (524288 : Int64)
  · rw [if_pos q, if_pos q]
  · rw [if_neg q, if_neg q]
    exact Int64.toInt_inj.mp (by omega)

theorem own_pd0 : parseMethodDescriptor "(JJ)J" = some ⟨[.long, .long], some .long⟩ := by decide +kernel
theorem own_pn1 : plainName "com/example/tracewarden/tracewarden/io/JavaHeapArrayBytesPinLaw" = true := by first | (simp [plainName, overriddenIn]; done) | decide +kernel
theorem own_ef0 (m : MethodId) (x0 : Int32) (x1 : Int32) : entryFrame m #[(.int x0), (.int x1)] maxLocals = mkF m 0 #[.val (.int x0), .val (.int x1), .unset, .unset, .unset, .unset, .unset, .unset, .unset, .unset, .unset, .unset, .unset, .unset] [] := by first | (simp [entryFrame, mkF, argsToLocals, Value.category, maxLocals]; done) | rfl
def Q0 (Z : State) (p0 : Int32) (p1 : Int32) (h0 : Heap) (n0 : Nat) (v : Option Value) (h : Heap) (L : List Loc) : Prop := v = some (.int 1) ∧ Fr n0 L
set_option maxRecDepth 65536 in
set_option maxHeartbeats 40000000 in
theorem rm0 (l : Launch) (Z : State) (aw : Array Value) (hw : ∀ d ∈ tables_1, d.before aw Z = true) (ws : List Jvm.Cond) (p0 : Int32) (p1 : Int32) (h0 : Heap) (n0 : Nat) (Z0 : n0 ≤ h0.size) :
    MetFree l x (head1 (Jvm.Cond.code x code maxLocals ret :: ws) room_1) (fun a U => a = #[(.int p0), (.int p1)] ∧ Z.Warmed39 U.vm ∧ U.heap = h0) (fun _ _ _ _ _ => True) (fun _ U o U' => ∃ v L, o = .returned v ∧ (Q0 Z p0 p1 h0 n0) v U'.heap L ∧ FrameEnd U o U' L room_1.cells room_1.slots) := by
  refine MetFree.of_bodySF (plainFor_of_name own_pn1) hisR ?_
  intro p e s m args below meth c s₁ Bd hml0 hP hK
  obtain ⟨rfl, hZ, hh⟩ := hP
  have hx := Bd.exec
  have hby := Bd.bytes
  have hml : c.maxLocals = 14 := hml0
  have hown : s.vm.findClass "com/example/tracewarden/tracewarden/io/JavaHeapArrayBytesPinLaw" = some m.cls := findClass_of_methodNamed Bd.named
  have hnm := (name_of_methodNamed Bd.named Bd.method).1
  have hlk : meth.locks = false := BodyLoose.notSynchronized (by assumption)
  have X0 : Stand p l e room_1 s m #[(.int p0), (.int p1)] below meth c s₁ [] 0 0 := Stand.of_body Bd
  have e0 : s₁.heap = h0 := by rw [← hh, Bd.state]; rfl
  have N0 := Fr.nil n0
  show own_Done p e below s (Q0 Z p0 p1 h0 n0) room_1.cells room_1.slots (s₁.setTop (entryFrame m #[(.int p0), (.int p1)] maxLocals))
  refine own_go (U' := s₁.setTop (mkF m 0 #[.val (.int p0), .val (.int p1), .unset, .unset, .unset, .unset, .unset, .unset, .unset, .unset, .unset, .unset, .unset, .unset] [])) (fun _ k => castTop (own_ef0 m p0 p1) k) ?_
  refine own_go (U' := s₁.setTop (mkF m 1 #[.val (.int p0), .val (.int p1), .unset, .unset, .unset, .unset, .unset, .unset, .unset, .unset, .unset, .unset, .unset, .unset] [(.int (1 : Int32))])) (fun _ k => XS.iconst X0.here hx rfl (hb hby at_0) k) ?_
  refine own_go (U' := s₁.setTop (mkF m 2 #[.val (.int p0), .val (.int p1), .unset, .unset, .unset, .unset, .unset, .unset, .unset, .unset, .unset, .unset, .unset, .unset] [(.int p0), (.int (1 : Int32))])) (fun _ k => XS.iloadN X0.here hx rfl (hb hby at_1) rfl k) ?_
  refine own_go (U' := s₁.setTop (mkF m 4 #[.val (.int p0), .val (.int p1), .unset, .unset, .unset, .unset, .unset, .unset, .unset, .unset, .unset, .unset, .unset, .unset] [(.int (7 : Int32)), (.int p0), (.int (1 : Int32))])) (fun _ k => XS.bipush X0.here hx rfl (hb hby at_2) k) ?_
  refine own_go (U' := s₁.setTop (mkF m 5 #[.val (.int p0), .val (.int p1), .unset, .unset, .unset, .unset, .unset, .unset, .unset, .unset, .unset, .unset, .unset, .unset] [(.int (p0 &&& (7 : Int32))), (.int (1 : Int32))])) (fun _ k => XS.iand X0.here hx rfl (hb hby at_4) rfl k) ?_
  refine own_go (U' := s₁.setTop (mkF m 6 #[.val (.int p0), .val (.int p1), .unset, .unset, .unset, .unset, .unset, .unset, .unset, .unset, .unset, .unset, .unset, .unset] [(.int ((1 : Int32) + (p0 &&& (7 : Int32))))])) (fun _ k => XS.iadd X0.here hx rfl (hb hby at_5) rfl k) ?_
  refine own_go (U' := s₁.setTop (mkF m 7 #[.val (.int p0), .val (.int p1), .unset, .unset, .unset, .unset, .unset, .unset, .unset, .unset, .unset, .unset, .unset, .unset] [(.long (((1 : Int32) + (p0 &&& (7 : Int32))).toInt64))])) (fun _ k => XS.i2l X0.here hx rfl (hb hby at_6) rfl k) ?_
  generalize hy7 : (((1 : Int32) + (p0 &&& (7 : Int32))).toInt64) = y7
  refine own_go (U' := s₁.setTop (mkF m 8 #[.val (.int p0), .val (.int p1), .val (.long y7), .second, .unset, .unset, .unset, .unset, .unset, .unset, .unset, .unset, .unset, .unset] [])) (fun _ k => XS.lstoreN X0.here hx rfl (hb hby at_7) rfl (l' := #[.val (.int p0), .val (.int p1), .val (.long y7), .second, .unset, .unset, .unset, .unset, .unset, .unset, .unset, .unset, .unset, .unset]) rfl k) ?_
  refine own_go (U' := s₁.setTop (mkF m 9 #[.val (.int p0), .val (.int p1), .val (.long y7), .second, .unset, .unset, .unset, .unset, .unset, .unset, .unset, .unset, .unset, .unset] [(.int p1)])) (fun _ k => XS.iloadN X0.here hx rfl (hb hby at_8) rfl k) ?_
  refine own_go (U' := s₁.setTop (mkF m 10 #[.val (.int p0), .val (.int p1), .val (.long y7), .second, .unset, .unset, .unset, .unset, .unset, .unset, .unset, .unset, .unset, .unset] [(.long (p1.toInt64))])) (fun _ k => XS.i2l X0.here hx rfl (hb hby at_9) rfl k) ?_
  refine own_go (U' := s₁.setTop (mkF m 13 #[.val (.int p0), .val (.int p1), .val (.long y7), .second, .unset, .unset, .unset, .unset, .unset, .unset, .unset, .unset, .unset, .unset] [(.long (2147483647 : Int64)), (.long (p1.toInt64))])) (fun _ k => X0.ldc2Long hx hown (mvT hZ (hw _ (List.mem_of_getElem? (i := 0) rfl))) (g := (mkF m 10 #[.val (.int p0), .val (.int p1), .val (.long y7), .second, .unset, .unset, .unset, .unset, .unset, .unset, .unset, .unset, .unset, .unset] [(.long (p1.toInt64))])) rfl (hb hby at_10) _ k) ?_
  refine own_go (U' := s₁.setTop (mkF m 14 #[.val (.int p0), .val (.int p1), .val (.long y7), .second, .unset, .unset, .unset, .unset, .unset, .unset, .unset, .unset, .unset, .unset] [(.long ((p1.toInt64) &&& (2147483647 : Int64)))])) (fun _ k => XS.land X0.here hx rfl (hb hby at_13) rfl k) ?_
  generalize hy14 : ((p1.toInt64) &&& (2147483647 : Int64)) = y14
  refine own_go (U' := s₁.setTop (mkF m 16 #[.val (.int p0), .val (.int p1), .val (.long y7), .second, .val (.long y14), .second, .unset, .unset, .unset, .unset, .unset, .unset, .unset, .unset] [])) (fun _ k => XS.lstore X0.here hx rfl (hb hby at_14) rfl (l' := #[.val (.int p0), .val (.int p1), .val (.long y7), .second, .val (.long y14), .second, .unset, .unset, .unset, .unset, .unset, .unset, .unset, .unset]) rfl k) ?_
  refine own_go (U' := s₁.setTop (mkF m 19 #[.val (.int p0), .val (.int p1), .val (.long y7), .second, .val (.long y14), .second, .unset, .unset, .unset, .unset, .unset, .unset, .unset, .unset] [(.long (24 : Int64))])) (fun _ k => X0.ldc2Long hx hown (mvT hZ (hw _ (List.mem_of_getElem? (i := 1) rfl))) (g := (mkF m 16 #[.val (.int p0), .val (.int p1), .val (.long y7), .second, .val (.long y14), .second, .unset, .unset, .unset, .unset, .unset, .unset, .unset, .unset] [])) rfl (hb hby at_16) _ k) ?_
  refine own_go (U' := s₁.setTop (mkF m 20 #[.val (.int p0), .val (.int p1), .val (.long y7), .second, .val (.long y14), .second, .unset, .unset, .unset, .unset, .unset, .unset, .unset, .unset] [(.long y7), (.long (24 : Int64))])) (fun _ k => XS.lloadN X0.here hx rfl (hb hby at_19) rfl k) ?_
  refine own_go (U' := s₁.setTop (mkF m 22 #[.val (.int p0), .val (.int p1), .val (.long y7), .second, .val (.long y14), .second, .unset, .unset, .unset, .unset, .unset, .unset, .unset, .unset] [(.long y14), (.long y7), (.long (24 : Int64))])) (fun _ k => XS.lload X0.here hx rfl (hb hby at_20) rfl k) ?_
  refine own_go (U' := s₁.setTop (mkF m 23 #[.val (.int p0), .val (.int p1), .val (.long y7), .second, .val (.long y14), .second, .unset, .unset, .unset, .unset, .unset, .unset, .unset, .unset] [(.long (y7 * y14)), (.long (24 : Int64))])) (fun _ k => XS.lmul X0.here hx rfl (hb hby at_22) rfl k) ?_
  refine own_go (U' := s₁.setTop (mkF m 24 #[.val (.int p0), .val (.int p1), .val (.long y7), .second, .val (.long y14), .second, .unset, .unset, .unset, .unset, .unset, .unset, .unset, .unset] [(.long ((24 : Int64) + (y7 * y14)))])) (fun _ k => XS.ladd X0.here hx rfl (hb hby at_23) rfl k) ?_
  generalize hy24 : ((24 : Int64) + (y7 * y14)) = y24
  refine own_go (U' := s₁.setTop (mkF m 26 #[.val (.int p0), .val (.int p1), .val (.long y7), .second, .val (.long y14), .second, .val (.long y24), .second, .unset, .unset, .unset, .unset, .unset, .unset] [])) (fun _ k => XS.lstore X0.here hx rfl (hb hby at_24) rfl (l' := #[.val (.int p0), .val (.int p1), .val (.long y7), .second, .val (.long y14), .second, .val (.long y24), .second, .unset, .unset, .unset, .unset, .unset, .unset]) rfl k) ?_
  refine own_go (U' := s₁.setTop (mkF m 28 #[.val (.int p0), .val (.int p1), .val (.long y7), .second, .val (.long y14), .second, .val (.long y24), .second, .unset, .unset, .unset, .unset, .unset, .unset] [(.long y24)])) (fun _ k => XS.lload X0.here hx rfl (hb hby at_26) rfl k) ?_
  refine own_go (U' := s₁.setTop (mkF m 31 #[.val (.int p0), .val (.int p1), .val (.long y7), .second, .val (.long y14), .second, .val (.long y24), .second, .unset, .unset, .unset, .unset, .unset, .unset] [(.long (8 : Int64)), (.long y24)])) (fun _ k => X0.ldc2Long hx hown (mvT hZ (hw _ (List.mem_of_getElem? (i := 2) rfl))) (g := (mkF m 28 #[.val (.int p0), .val (.int p1), .val (.long y7), .second, .val (.long y14), .second, .val (.long y24), .second, .unset, .unset, .unset, .unset, .unset, .unset] [(.long y24)])) rfl (hb hby at_28) _ k) ?_
  refine own_go (U' := s₁.setTop (mkF m 32 #[.val (.int p0), .val (.int p1), .val (.long y7), .second, .val (.long y14), .second, .val (.long y24), .second, .unset, .unset, .unset, .unset, .unset, .unset] [(.long (y24 - (y24 / (8 : Int64)) * (8 : Int64)))])) (fun _ k => XS.lrem X0.here hx rfl (hb hby at_31) rfl (by decide) k) ?_
  generalize hy32 : (y24 - (y24 / (8 : Int64)) * (8 : Int64)) = y32
  refine own_go (U' := s₁.setTop (mkF m 34 #[.val (.int p0), .val (.int p1), .val (.long y7), .second, .val (.long y14), .second, .val (.long y24), .second, .val (.long y32), .second, .unset, .unset, .unset, .unset] [])) (fun _ k => XS.lstore X0.here hx rfl (hb hby at_32) rfl (l' := #[.val (.int p0), .val (.int p1), .val (.long y7), .second, .val (.long y14), .second, .val (.long y24), .second, .val (.long y32), .second, .unset, .unset, .unset, .unset]) rfl k) ?_
  refine own_go (U' := s₁.setTop (mkF m 36 #[.val (.int p0), .val (.int p1), .val (.long y7), .second, .val (.long y14), .second, .val (.long y24), .second, .val (.long y32), .second, .unset, .unset, .unset, .unset] [(.long y32)])) (fun _ k => XS.lload X0.here hx rfl (hb hby at_34) rfl k) ?_
  refine own_go (U' := s₁.setTop (mkF m 37 #[.val (.int p0), .val (.int p1), .val (.long y7), .second, .val (.long y14), .second, .val (.long y24), .second, .val (.long y32), .second, .unset, .unset, .unset, .unset] [(.long (0 : Int64)), (.long y32)])) (fun _ k => XS.lconst X0.here hx rfl (hb hby at_36) k) ?_
  refine own_go (U' := s₁.setTop (mkF m 38 #[.val (.int p0), .val (.int p1), .val (.long y7), .second, .val (.long y14), .second, .val (.long y24), .second, .val (.long y32), .second, .unset, .unset, .unset, .unset] [(.int (lcmpW y32 (0 : Int64)))])) (fun _ k => XS.lcmp X0.here hx rfl (hb hby at_37) rfl k) ?_
  obtain ⟨z38, hz38⟩ : ∃ z : Int64, z = (if y32 = (0 : Int64) then y24 else (y24 + ((8 : Int64) - y32))) := ⟨_, rfl⟩
  refine own_join (U' := s₁.setTop (mkF m 55 #[.val (.int p0), .val (.int p1), .val (.long y7), .second, .val (.long y14), .second, .val (.long y24), .second, .val (.long y32), .second, .unset, .unset, .unset, .unset] [(.long z38)])) (fun J38_3 => ?_) ?_
  · by_cases hc38_4 : y32 = (0 : Int64)
    · refine own_go (U' := s₁.setTop (mkF m 41 #[.val (.int p0), .val (.int p1), .val (.long y7), .second, .val (.long y14), .second, .val (.long y24), .second, .val (.long y32), .second, .unset, .unset, .unset, .unset] [])) (fun _ k => XS.ifNo X0.here hx rfl (hb hby at_38) rfl ((if0 _ _).trans (teq ((lw_eq _ _).mpr hc38_4)).2) k) ?_
      refine own_go (U' := s₁.setTop (mkF m 43 #[.val (.int p0), .val (.int p1), .val (.long y7), .second, .val (.long y14), .second, .val (.long y24), .second, .val (.long y32), .second, .unset, .unset, .unset, .unset] [(.long y24)])) (fun _ k => XS.lload X0.here hx rfl (hb hby at_41) rfl k) ?_
      refine own_go (U' := s₁.setTop (mkF m 55 #[.val (.int p0), .val (.int p1), .val (.long y7), .second, .val (.long y14), .second, .val (.long y24), .second, .val (.long y32), .second, .unset, .unset, .unset, .unset] [(.long y24)])) (fun _ k => XS.goto X0.here hx rfl (pc0 := 43) (pc' := 55) rfl (hb hby at_43) (by decide) (by decide) k) ?_
      simp only [if_pos hc38_4] at hz38
      subst hz38
      exact J38_3
    · refine own_go (U' := s₁.setTop (mkF m 46 #[.val (.int p0), .val (.int p1), .val (.long y7), .second, .val (.long y14), .second, .val (.long y24), .second, .val (.long y32), .second, .unset, .unset, .unset, .unset] [])) (fun _ k => XS.ifYes X0.here hx rfl (pc0 := 38) (pc' := 46) rfl (hb hby at_38) rfl ((if0 _ _).trans (feq (mt (lw_eq _ _).mp hc38_4)).2) (by decide) (by decide) k) ?_
      refine own_go (U' := s₁.setTop (mkF m 48 #[.val (.int p0), .val (.int p1), .val (.long y7), .second, .val (.long y14), .second, .val (.long y24), .second, .val (.long y32), .second, .unset, .unset, .unset, .unset] [(.long y24)])) (fun _ k => XS.lload X0.here hx rfl (hb hby at_46) rfl k) ?_
      refine own_go (U' := s₁.setTop (mkF m 51 #[.val (.int p0), .val (.int p1), .val (.long y7), .second, .val (.long y14), .second, .val (.long y24), .second, .val (.long y32), .second, .unset, .unset, .unset, .unset] [(.long (8 : Int64)), (.long y24)])) (fun _ k => X0.ldc2Long hx hown (mvT hZ (hw _ (List.mem_of_getElem? (i := 2) rfl))) (g := (mkF m 48 #[.val (.int p0), .val (.int p1), .val (.long y7), .second, .val (.long y14), .second, .val (.long y24), .second, .val (.long y32), .second, .unset, .unset, .unset, .unset] [(.long y24)])) rfl (hb hby at_48) _ k) ?_
      refine own_go (U' := s₁.setTop (mkF m 53 #[.val (.int p0), .val (.int p1), .val (.long y7), .second, .val (.long y14), .second, .val (.long y24), .second, .val (.long y32), .second, .unset, .unset, .unset, .unset] [(.long y32), (.long (8 : Int64)), (.long y24)])) (fun _ k => XS.lload X0.here hx rfl (hb hby at_51) rfl k) ?_
      refine own_go (U' := s₁.setTop (mkF m 54 #[.val (.int p0), .val (.int p1), .val (.long y7), .second, .val (.long y14), .second, .val (.long y24), .second, .val (.long y32), .second, .unset, .unset, .unset, .unset] [(.long ((8 : Int64) - y32)), (.long y24)])) (fun _ k => XS.lsub X0.here hx rfl (hb hby at_53) rfl k) ?_
      refine own_go (U' := s₁.setTop (mkF m 55 #[.val (.int p0), .val (.int p1), .val (.long y7), .second, .val (.long y14), .second, .val (.long y24), .second, .val (.long y32), .second, .unset, .unset, .unset, .unset] [(.long (y24 + ((8 : Int64) - y32)))])) (fun _ k => XS.ladd X0.here hx rfl (hb hby at_54) rfl k) ?_
      simp only [if_neg hc38_4] at hz38
      subst hz38
      exact J38_3
  · refine own_go (U' := s₁.setTop (mkF m 57 #[.val (.int p0), .val (.int p1), .val (.long y7), .second, .val (.long y14), .second, .val (.long y24), .second, .val (.long y32), .second, .val (.long z38), .second, .unset, .unset] [])) (fun _ k => XS.lstore X0.here hx rfl (hb hby at_55) rfl (l' := #[.val (.int p0), .val (.int p1), .val (.long y7), .second, .val (.long y14), .second, .val (.long y24), .second, .val (.long y32), .second, .val (.long z38), .second, .unset, .unset]) rfl k) ?_
    refine own_go (U' := s₁.setTop (mkF m 59 #[.val (.int p0), .val (.int p1), .val (.long y7), .second, .val (.long y14), .second, .val (.long y24), .second, .val (.long y32), .second, .val (.long z38), .second, .unset, .unset] [(.long z38)])) (fun _ k => XS.lload X0.here hx rfl (hb hby at_57) rfl k) ?_
    refine own_go (U' := s₁.setTop (mkF m 62 #[.val (.int p0), .val (.int p1), .val (.long y7), .second, .val (.long y14), .second, .val (.long y24), .second, .val (.long y32), .second, .val (.long z38), .second, .unset, .unset] [(.long (524288 : Int64)), (.long z38)])) (fun _ k => X0.ldc2Long hx hown (mvT hZ (hw _ (List.mem_of_getElem? (i := 3) rfl))) (g := (mkF m 59 #[.val (.int p0), .val (.int p1), .val (.long y7), .second, .val (.long y14), .second, .val (.long y24), .second, .val (.long y32), .second, .val (.long z38), .second, .unset, .unset] [(.long z38)])) rfl (hb hby at_59) _ k) ?_
    refine own_go (U' := s₁.setTop (mkF m 63 #[.val (.int p0), .val (.int p1), .val (.long y7), .second, .val (.long y14), .second, .val (.long y24), .second, .val (.long y32), .second, .val (.long z38), .second, .unset, .unset] [(.int (lcmpW z38 (524288 : Int64)))])) (fun _ k => XS.lcmp X0.here hx rfl (hb hby at_62) rfl k) ?_
    obtain ⟨z63, hz63⟩ : ∃ z : Int64, z = (if z38 < (524288 : Int64) then z38 else (z38 + z38)) := ⟨_, rfl⟩
    refine own_join (U' := s₁.setTop (mkF m 76 #[.val (.int p0), .val (.int p1), .val (.long y7), .second, .val (.long y14), .second, .val (.long y24), .second, .val (.long y32), .second, .val (.long z38), .second, .unset, .unset] [(.long z63)])) (fun J63_5 => ?_) ?_
    · by_cases hc63_6 : z38 < (524288 : Int64)
      · refine own_go (U' := s₁.setTop (mkF m 66 #[.val (.int p0), .val (.int p1), .val (.long y7), .second, .val (.long y14), .second, .val (.long y24), .second, .val (.long y32), .second, .val (.long z38), .second, .unset, .unset] [])) (fun _ k => XS.ifNo X0.here hx rfl (hb hby at_63) rfl ((if0 _ _).trans (tlt ((lw_lt _ _).mpr hc63_6)).2.1) k) ?_
        refine own_go (U' := s₁.setTop (mkF m 68 #[.val (.int p0), .val (.int p1), .val (.long y7), .second, .val (.long y14), .second, .val (.long y24), .second, .val (.long y32), .second, .val (.long z38), .second, .unset, .unset] [(.long z38)])) (fun _ k => XS.lload X0.here hx rfl (hb hby at_66) rfl k) ?_
        refine own_go (U' := s₁.setTop (mkF m 76 #[.val (.int p0), .val (.int p1), .val (.long y7), .second, .val (.long y14), .second, .val (.long y24), .second, .val (.long y32), .second, .val (.long z38), .second, .unset, .unset] [(.long z38)])) (fun _ k => XS.goto X0.here hx rfl (pc0 := 68) (pc' := 76) rfl (hb hby at_68) (by decide) (by decide) k) ?_
        simp only [if_pos hc63_6] at hz63
        subst hz63
        exact J63_5
      · refine own_go (U' := s₁.setTop (mkF m 71 #[.val (.int p0), .val (.int p1), .val (.long y7), .second, .val (.long y14), .second, .val (.long y24), .second, .val (.long y32), .second, .val (.long z38), .second, .unset, .unset] [])) (fun _ k => XS.ifYes X0.here hx rfl (pc0 := 63) (pc' := 71) rfl (hb hby at_63) rfl ((if0 _ _).trans (flt (mt (lw_lt _ _).mp hc63_6)).2.1) (by decide) (by decide) k) ?_
        refine own_go (U' := s₁.setTop (mkF m 73 #[.val (.int p0), .val (.int p1), .val (.long y7), .second, .val (.long y14), .second, .val (.long y24), .second, .val (.long y32), .second, .val (.long z38), .second, .unset, .unset] [(.long z38)])) (fun _ k => XS.lload X0.here hx rfl (hb hby at_71) rfl k) ?_
        refine own_go (U' := s₁.setTop (mkF m 75 #[.val (.int p0), .val (.int p1), .val (.long y7), .second, .val (.long y14), .second, .val (.long y24), .second, .val (.long y32), .second, .val (.long z38), .second, .unset, .unset] [(.long z38), (.long z38)])) (fun _ k => XS.lload X0.here hx rfl (hb hby at_73) rfl k) ?_
        refine own_go (U' := s₁.setTop (mkF m 76 #[.val (.int p0), .val (.int p1), .val (.long y7), .second, .val (.long y14), .second, .val (.long y24), .second, .val (.long y32), .second, .val (.long z38), .second, .unset, .unset] [(.long (z38 + z38))])) (fun _ k => XS.ladd X0.here hx rfl (hb hby at_75) rfl k) ?_
        simp only [if_neg hc63_6] at hz63
        subst hz63
        exact J63_5
    · refine own_go (U' := s₁.setTop (mkF m 78 #[.val (.int p0), .val (.int p1), .val (.long y7), .second, .val (.long y14), .second, .val (.long y24), .second, .val (.long y32), .second, .val (.long z38), .second, .val (.long z63), .second] [])) (fun _ k => XS.lstore X0.here hx rfl (hb hby at_76) rfl (l' := #[.val (.int p0), .val (.int p1), .val (.long y7), .second, .val (.long y14), .second, .val (.long y24), .second, .val (.long y32), .second, .val (.long z38), .second, .val (.long z63), .second]) rfl k) ?_
      refine own_go (U' := s₁.setTop (mkF m 79 #[.val (.int p0), .val (.int p1), .val (.long y7), .second, .val (.long y14), .second, .val (.long y24), .second, .val (.long y32), .second, .val (.long z38), .second, .val (.long z63), .second] [(.long y7)])) (fun _ k => XS.lloadN X0.here hx rfl (hb hby at_78) rfl k) ?_
      refine own_go (U' := s₁.setTop (mkF m 81 #[.val (.int p0), .val (.int p1), .val (.long y7), .second, .val (.long y14), .second, .val (.long y24), .second, .val (.long y32), .second, .val (.long z38), .second, .val (.long z63), .second] [(.long y14), (.long y7)])) (fun _ k => XS.lload X0.here hx rfl (hb hby at_79) rfl k) ?_
      obtain ⟨_, _, ⟨T7, L7, k7, n7⟩, -, X7, ⟨Lc7, hQ7, l7, y7, z7⟩, st7⟩ := Jvm.LawKit.callS X0 hx (y := (⟨"com/example/tracewarden/tracewarden/io/JavaHeap", "arrayBytes", "(JJ)J"⟩ : MethodName)) hown (mvT hZ (hw _ (List.mem_of_getElem? (i := 4) rfl))) (mvT hZ (hw _ (List.mem_of_getElem? (i := 5) rfl))) (mvT hZ (hw _ (List.mem_of_getElem? (i := 6) rfl))) (mvT hZ (hw _ (List.mem_of_getElem? (i := 7) rfl))) (by decide) (backOf (W := 0) (rm1 l Z aw hw [] y7 y14 h0 n0 Z0 ) hZ (hw _ (List.mem_of_getElem? (i := 7) rfl)) (hw _ (List.mem_of_getElem? (i := 6) rfl)) (by decide) (by decide)) (g := (mkF m 81 #[.val (.int p0), .val (.int p1), .val (.long y7), .second, .val (.long y14), .second, .val (.long y24), .second, .val (.long y32), .second, .val (.long z38), .second, .val (.long z63), .second] [(.long y14), (.long y7)])) rfl (by rw [hml]; rfl) (argsL := [(.long y7), (.long y14)]) (rest := []) (lenOf own_pd0 rfl) rfl (by show 2 * 0 + _ ≤ _; exact Nat.le_of_eq rfl) (hb hby at_81) (fun _ _ => ⟨rfl, e0, (by decide : 0 + 0 ≤ _), (by decide : 0 + 0 ≤ _)⟩)
      dsimp only [Pt.U, Pt.locs, Pt.cells, Pt.slots] at X7 l7 y7 z7 st7 hQ7
      subst l7 y7 z7
      obtain ⟨rfl, N7q, e7⟩ := hQ7
      have N7 := Fr.app N0 N7q
      refine own_go (U' := T7.setTop (mkF m 84 #[.val (.int p0), .val (.int p1), .val (.long y7), .second, .val (.long y14), .second, .val (.long y24), .second, .val (.long y32), .second, .val (.long z38), .second, .val (.long z63), .second] [(.long (f_1 y7 y14))])) (fun _ k => st7 _ k) ?_
      refine own_go (U' := T7.setTop (mkF m 86 #[.val (.int p0), .val (.int p1), .val (.long y7), .second, .val (.long y14), .second, .val (.long y24), .second, .val (.long y32), .second, .val (.long z38), .second, .val (.long z63), .second] [(.long z63), (.long (f_1 y7 y14))])) (fun _ k => XS.lload X7.here hx rfl (hb hby at_84) rfl k) ?_
      refine own_go (U' := T7.setTop (mkF m 87 #[.val (.int p0), .val (.int p1), .val (.long y7), .second, .val (.long y14), .second, .val (.long y24), .second, .val (.long y32), .second, .val (.long z38), .second, .val (.long z63), .second] [(.int (lcmpW (f_1 y7 y14) z63))])) (fun _ k => XS.lcmp X7.here hx rfl (hb hby at_86) rfl k) ?_
      have hc87_8 : (f_1 y7 y14) = z63 := own_main hy7 hy14 hy24 hy32 hz38 hz63
      refine own_go (U' := T7.setTop (mkF m 90 #[.val (.int p0), .val (.int p1), .val (.long y7), .second, .val (.long y14), .second, .val (.long y24), .second, .val (.long y32), .second, .val (.long z38), .second, .val (.long z63), .second] [])) (fun _ k => XS.ifNo X7.here hx rfl (hb hby at_87) rfl ((if0 _ _).trans (teq ((lw_eq _ _).mpr hc87_8)).2) k) ?_
      refine own_go (U' := T7.setTop (mkF m 91 #[.val (.int p0), .val (.int p1), .val (.long y7), .second, .val (.long y14), .second, .val (.long y24), .second, .val (.long y32), .second, .val (.long z38), .second, .val (.long z63), .second] [(.int (1 : Int32))])) (fun _ k => XS.iconst X7.here hx rfl (hb hby at_90) k) ?_
      refine own_go (U' := T7.setTop (mkF m 95 #[.val (.int p0), .val (.int p1), .val (.long y7), .second, .val (.long y14), .second, .val (.long y24), .second, .val (.long y32), .second, .val (.long z38), .second, .val (.long z63), .second] [(.int (1 : Int32))])) (fun _ k => XS.goto X7.here hx rfl (pc0 := 91) (pc' := 95) rfl (hb hby at_91) (by decide) (by decide) k) ?_
      refine own_ret X7 (v := (some (.int (1 : Int32)))) hlk (fun h => by rw [Bd.returns] at h; cases h) (by decide) (by decide) (fun fs hr => retN X7 hx (t := .boolean) Bd.returns (by simp) (hb hby at_95) hr) ?_
      show (Q0 Z p0 p1 h0 n0) _ T7.heap _
      rw [e7]
      exact ⟨rfl, N7⟩
set_option maxRecDepth 65536 in
set_option maxHeartbeats 40000000 in
theorem comes_1 {Post : Tables → Env → Array Value → State → Outcome → State → Prop} (hpost : ∀ tb e args s v u, (limb_1_1.after args s (.returned v) u = true ∧ limb_1_2.after args s (.returned v) u = true ∧ True) → FrameEnd s (.returned v) u (Jvm.fieldLocs frame_1_writes args s ++ Jvm.arrayLocs frame_1_arrays args s ++ Jvm.staticLocs frame_1_statics s) 0 0 → Post tb e args s (.returned v) u) :
    ArmFor flags0 classFile x code maxLocals ret World_1 tables_1 room_1 Calls_1 rest_1 Pre_1 Post := by
  intro l hfl _ _ p e ha hc hk s m args below hf hA hF happ hP
  obtain ⟨hcalls, hrest, hpre⟩ := hP
  obtain ⟨-, -, -, hnamed, -, -, -, hat⟩ := (Spec.applies_iff hf).mp happ
  obtain ⟨hg, hn⟩ := and_e (Cond.before_iff.mp (show (Jvm.Cond.and given_1 narrow_1).before args s = true from hpre))
  obtain ⟨hcnt, hg0⟩ := and_e hg
  obtain ⟨hv0, hg1⟩ := and_e hg0
  have hv1 := hg1
  obtain ⟨w0, w1, rfl⟩ : ∃ w0 w1 : Value, args = #[w0, w1] := by
    have hs : args.size = 2 := by simpa [Cond.value, given_1] using hcnt
    obtain ⟨L⟩ := args
    match L, hs with
    | [w0, w1], _ => exact ⟨w0, w1, rfl⟩
  have hw := fun d (hd : d ∈ tables_1) => atoms_spec (ws := Jvm.Cond.code x code maxLocals ret :: tables_1) hat d (List.mem_cons_of_mem _ hd)
  have hfit : Fit s := fun {y c} hc i hi => by
    obtain ⟨ha, rfl⟩ := Array.getElem?_eq_some_iff.mp hc
    have q := List.all_eq_true.mp ((Array.all_eq_true_iff_forall_mem.mp hF) _ (Array.getElem_mem ha)) i (List.mem_range.mpr hi)
    simpa [Array.getElem?_eq_getElem hi] using q
  obtain ⟨i0, ei0⟩ := is_v hv0
  obtain rfl : w0 = (.int i0) := Option.some.inj ei0
  obtain ⟨i1, ei1⟩ := is_v hv1
  obtain rfl : w1 = (.int i1) := Option.some.inj ei1
  obtain ⟨n, o, h1, h2, h3, _, L, rfl, ⟨rfl, N⟩, hq⟩ := rm0 l s _ hw tables_1 i0 i1 s.heap s.heap.size (Nat.le_refl _)  p e ha hc hk s m _ below hf ((Spec.applies_iff_loose hf).mp happ).1 ⟨rfl, State.Warmed39.refl s, rfl⟩ trivial
  refine ⟨n, _, h1, h2, h3, hpost _ _ _ _ _ _ ⟨Cond.after_iff.mpr rfl, Cond.after_iff.mpr (eq_i res_at (Term.int_eval (1)) rfl), trivial⟩ ⟨hq.1, hq.2.1, (hq.2.2.sift fun y hy => Or.inr (N y hy)).mono (by decide) (by decide)⟩⟩
theorem main_1_1 : Claimed_1_1 := comes_1 fun _ _ _ _ _ _ h hF => ⟨h.1, hF⟩
theorem main_1_2 : Claimed_1_2 := comes_1 fun _ _ _ _ _ _ h hF => ⟨h.2.1, hF⟩
end Jvm.Pilot.@@N@@
namespace Jvm.Pilot.@@N@@
open Jvm Jvm.ClassFile Sem Op Lib Jvm.Free Jvm.Stand Jvm.Pilot.@@N@@.Jvm.D
/-! MADE BY PROGRAM (witnessworld.py) out of the Statement's table words and the real class files: 9 classes; the members and pool entries that the words name. The judged class is class 1, her method 1. -/
namespace start1
open Jvm.ClassFile
def u (s : String) : CpInfo := .utf8 (stringToUtf16 s)
/-- a pool by its gaps: so many unusable entries, then the entry; so many at the end -/
def gap : Nat → List CpInfo → List CpInfo
  | 0, r => r
  | n + 1, r => .unusable :: gap n r
def poolList (es : List (Nat × CpInfo)) (last : Nat) : List CpInfo := es.foldr (fun e r => gap e.1 (e.2 :: r)) (gap last [])
def pool (es : List (Nat × CpInfo)) (last : Nat) : Array CpInfo := ⟨poolList es last⟩
def fileOf (pool : Array CpInfo) (this : Nat) (attrs : Array Attribute := #[]) (ms : Array MethodInfo := #[]) (fl : Nat := 33) (sup : Nat := 0) (ifs : Array Nat := #[]) (fds : Array FieldInfo := #[]) : ClassFile where
  minorVersion := 0
  majorVersion := 65
  constantPool := pool
  accessFlags := fl
  thisClass := this
  superClass := sup
  interfaces := ifs
  fields := fds
  methods := ms
  attributes := attrs
def plain (name : String) (sup : Option ClassId) : Class where
  name := name
  kind := .ordinary
  loader := none
  accessFlags := 33
  super := sup
  interfaces := #[]
  cf := none
  fields := #[]
  methods := #[]
  instanceTypes := #[]
  staticTypes := #[]
  resolved := #[]
  callSites := []
  init := .initialized
  statics := none
  mirror := none

def pool0 : Array CpInfo := pool [(5, u "<init>"), (0, u "()V"), (1, .class_ 10), (1, u "java/lang/Object")] 113

def k0m0 : Method := { name := "<init>", desc := "()V", sig := { parameters := [], returnType := none }, accessFlags := 1, code := none }
/-- java/lang/Object -/
def k0 : Class := { plain "java/lang/Object" none with
  accessFlags := 33
  interfaces := #[]
  cf := some (fileOf pool0 8 #[] #[{ accessFlags := 1, nameIndex := 5, descriptorIndex := 6, attributes := #[] }] 33 0 #[] #[])
  fields := #[]
  methods := #[k0m0]
  instanceTypes := #[]
  staticTypes := #[]
  resolved := Array.replicate 124 none
  statics := none }

def pool1 : Array CpInfo := pool [(2, .class_ 4), (1, u "java/lang/Object"), (0, u "<init>"), (0, u "()V"), (0, .long 2147483647), (1, .long 24), (1, .long 8), (1, .long 524288), (1, .methodref 16 17), (0, .class_ 18), (0, .nameAndType 19 20), (0, u "com/example/tracewarden/tracewarden/io/JavaHeap"), (0, u "arrayBytes"), (0, u "(JJ)J"), (0, .class_ 22), (0, u "com/example/tracewarden/tracewarden/io/JavaHeapArrayBytesPinLaw"), (2, u "law"), (0, u "(II)Z")] 3

def k1m0 : Method := { name := "<init>", desc := "()V", sig := { parameters := [], returnType := none }, accessFlags := 2, code := none }
def k1c1 : Code := { maxStack := 6, maxLocals := 14, code := code, exceptionTable := #[], attributes := #[] }
def k1m1 : Method := { name := "law", desc := "(II)Z", sig := { parameters := [.int, .int], returnType := some .boolean }, accessFlags := 9, code := some k1c1 }
/-- com/example/tracewarden/tracewarden/io/JavaHeapArrayBytesPinLaw -/
def k1 : Class := { plain "com/example/tracewarden/tracewarden/io/JavaHeapArrayBytesPinLaw" (some 0) with
  accessFlags := 49
  interfaces := #[]
  cf := some (fileOf pool1 21 #[] #[{ accessFlags := 2, nameIndex := 5, descriptorIndex := 6, attributes := #[] }, { accessFlags := 9, nameIndex := 25, descriptorIndex := 26, attributes := #[] }] 49 2 #[] #[])
  fields := #[]
  methods := #[k1m0, k1m1]
  instanceTypes := #[]
  staticTypes := #[]
  resolved := Array.replicate 30 none
  statics := none }

def pool2 : Array CpInfo := pool [(2, .class_ 4), (1, u "java/lang/Object"), (0, u "<init>"), (0, u "()V"), (10, .class_ 18), (0, u "com/example/tracewarden/tracewarden/io/JavaHeap"), (0, .long 24), (1, .long 7), (1, .long 8), (1, .long 524288), (1, .long 2), (11, u "arrayBytes"), (0, u "(JJ)J"), (11, u "collectors"), (2, .class_ 57), (1, u "com/example/tracewarden/tracewarden/io/JavaHeap$Collectors"), (25, u "fullCollections"), (0, u "Lcom/example/tracewarden/tracewarden/io/FullCollections;"), (14, u "TOO_LITTLE_FREE"), (0, u "Ljava/lang/String;"), (13, u "Lcom/example/tracewarden/tracewarden/io/JavaHeap$Collectors;"), (54, u "TELLING_COLLECTOR_NAMES"), (0, u "Ljava/util/Set;"), (84, u "FREE_PARTS"), (0, u "J"), (3, u "ARRAY_HEADER_BYTES"), (0, u "LARGE_ARRAY_BYTES"), (0, u "STRING_BYTES")] 28

def k2m0 : Method := { name := "<init>", desc := "()V", sig := { parameters := [], returnType := none }, accessFlags := 2, code := none }
def k2c1 : Code := { maxStack := 6, maxLocals := 6, code := prog_113_method_3_code, exceptionTable := #[], attributes := #[] }
def k2m1 : Method := { name := "arrayBytes", desc := "(JJ)J", sig := { parameters := [.long, .long], returnType := some .long }, accessFlags := 9, code := some k2c1 }
/-- com/example/tracewarden/tracewarden/io/JavaHeap -/
def k2 : Class := { plain "com/example/tracewarden/tracewarden/io/JavaHeap" (some 0) with
  accessFlags := 49
  interfaces := #[]
  cf := some (fileOf pool2 17 #[.nestMembers #[55]] #[{ accessFlags := 2, nameIndex := 5, descriptorIndex := 6, attributes := #[] }, { accessFlags := 9, nameIndex := 39, descriptorIndex := 40, attributes := #[] }] 49 2 #[] #[{ accessFlags := 26, nameIndex := 255, descriptorIndex := 256, attributes := #[] }, { accessFlags := 26, nameIndex := 169, descriptorIndex := 170, attributes := #[] }, { accessFlags := 74, nameIndex := 52, descriptorIndex := 114, attributes := #[] }, { accessFlags := 74, nameIndex := 83, descriptorIndex := 84, attributes := #[] }, { accessFlags := 26, nameIndex := 99, descriptorIndex := 100, attributes := #[] }, { accessFlags := 26, nameIndex := 260, descriptorIndex := 256, attributes := #[] }, { accessFlags := 26, nameIndex := 261, descriptorIndex := 256, attributes := #[] }, { accessFlags := 26, nameIndex := 262, descriptorIndex := 256, attributes := #[] }])
  fields := #[{ name := "FREE_PARTS", type := .long, accessFlags := 26, slot := 0, constantValue := 0 }, { name := "TELLING_COLLECTOR_NAMES", type := (.object "java/util/Set"), accessFlags := 26, slot := 1, constantValue := 0 }, { name := "collectors", type := (.object "com/example/tracewarden/tracewarden/io/JavaHeap$Collectors"), accessFlags := 74, slot := 2, constantValue := 0 }, { name := "fullCollections", type := (.object "com/example/tracewarden/tracewarden/io/FullCollections"), accessFlags := 74, slot := 3, constantValue := 0 }, { name := "TOO_LITTLE_FREE", type := (.object "java/lang/String"), accessFlags := 26, slot := 4, constantValue := 0 }, { name := "ARRAY_HEADER_BYTES", type := .long, accessFlags := 26, slot := 5, constantValue := 0 }, { name := "LARGE_ARRAY_BYTES", type := .long, accessFlags := 26, slot := 6, constantValue := 0 }, { name := "STRING_BYTES", type := .long, accessFlags := 26, slot := 7, constantValue := 0 }]
  methods := #[k2m0, k2m1]
  instanceTypes := #[]
  staticTypes := #[.long, (.object "java/util/Set"), (.object "com/example/tracewarden/tracewarden/io/JavaHeap$Collectors"), (.object "com/example/tracewarden/tracewarden/io/FullCollections"), (.object "java/lang/String"), .long, .long, .long]
  resolved := Array.replicate 291 none
  statics := none }

def pool3 : Array CpInfo := pool [(1, u "java/lang/Cloneable"), (0, .class_ 1), (0, u "java/lang/Object"), (0, .class_ 3)] 3

/-- java/lang/Cloneable -/
def k3 : Class := { plain "java/lang/Cloneable" (some 0) with
  accessFlags := 1537
  interfaces := #[]
  cf := some (fileOf pool3 2 #[] #[] 1537 4 #[] #[])
  fields := #[]
  methods := #[]
  instanceTypes := #[]
  staticTypes := #[]
  resolved := Array.replicate 8 none
  statics := none }

def pool4 : Array CpInfo := pool [(1, u "java/io/Serializable"), (0, .class_ 1), (0, u "java/lang/Object"), (0, .class_ 3)] 3

/-- java/io/Serializable -/
def k4 : Class := { plain "java/io/Serializable" (some 0) with
  accessFlags := 1537
  interfaces := #[]
  cf := some (fileOf pool4 2 #[] #[] 1537 4 #[] #[])
  fields := #[]
  methods := #[]
  instanceTypes := #[]
  staticTypes := #[]
  resolved := Array.replicate 8 none
  statics := none }

/-- the primitive byte -/
def k5 : Class := { plain "byte" none with kind := .primitive 'B', accessFlags := 0x411 }
/-- [B -/
def k6 : Class := { plain "[B" (some 0) with kind := .array 5 .byte, interfaces := #[3, 4], accessFlags := 1041 }

/-- the primitive int -/
def k7 : Class := { plain "int" none with kind := .primitive 'I', accessFlags := 0x411 }
/-- [I -/
def k8 : Class := { plain "[I" (some 0) with kind := .array 7 .int, interfaces := #[3, 4], accessFlags := 1041 }

def heap : Heap := #[]
def classes : Array Class := #[k0, k1, k2, k3, k4, k5, k6, k7, k8]
def interned : List (Array UInt16 × Addr) := []
def slotsUsed : Nat := 0
def theMethod : MethodId := ⟨1, 1⟩
def args0 : Array Value := #[.int 5, .int 300]
def aboutOver (below : List Frame) : State where
  vm := { classes := classes, interned := interned.toArray }
  heap := heap
  slotsUsed := slotsUsed
  threads := #[{ frames := .invoking theMethod args0 :: below }]
def below0 : List Frame := [.native { method := ⟨0, 0⟩, args := #[] }]
def about1 : State := aboutOver below0
def p0 : Program := .bare "" "" ""
def e0 : Env := launch0.env 0 0 0
theorem w_frames : about1.frames = Frame.invoking theMethod args0 :: below0 := rfl
set_option maxRecDepth 65536 in
theorem w_args : argsFit about1.vm theMethod args0 = true := by decide +kernel
set_option maxRecDepth 65536 in
theorem w_heap : heapFits about1 = true := by decide +kernel
set_option maxRecDepth 65536 in
theorem w_runnable : about1.curStatus? = some .runnable := by decide +kernel
set_option maxRecDepth 65536 in
theorem w_alone : about1.alone = true := by decide +kernel
set_option maxRecDepth 65536 in
theorem w_named : about1.methodNamed? x = some theMethod := by decide +kernel
set_option maxRecDepth 65536 in
theorem w_hears : about1.hears theMethod below0 = true := by decide +kernel
set_option maxRecDepth 65536 in
theorem w_ripe : about1.ripe theMethod args0 below0 = true := by decide +kernel
theorem w_running : about1.status = .running := rfl
set_option maxRecDepth 65536 in
theorem w_room : about1.hasRoom e0.platform room_1 = true :=
  launch0.hasRoom_least _ room_1 (by decide +kernel) (by decide +kernel) (by decide +kernel) (by decide +kernel) (by decide +kernel) (by decide +kernel)
theorem allAtoms_all (ts : List Jvm.Cond) (a : Array Jvm.Value) (st : Jvm.State) : (allAtoms ts).before a st = ts.all (fun c => c.before a st) := by
  induction ts with
  | nil => rfl
  | cons c t ih =>
    show (Jvm.Cond.and c (allAtoms t)).before a st = _
    rw [Jvm.Cond.before_and, ih, List.all_cons]
def words1 : List Jvm.Cond := Jvm.Cond.code x code maxLocals ret :: tables_1
/-- a 'code' word, met by the world's own term for the bytes: nothing is compared byte by byte -/
theorem code_word {y : MethodName} {bytes : ByteArray} {mx : Nat} {rt : Option FieldType} {a : Array Value} {s : State} {m : MethodId} {meth : Method} {c : Code} (h1 : s.methodNamed? y = some m) (h2 : s.vm.method? m = some meth) (h3 : meth.code = some c) (h4 : c.code = bytes)
    (h5 : (c.maxLocals == mx && c.exceptionTable.isEmpty && decide (c.maxStack ≤ mostOperands) && decide (meth.sig.returnType = rt) && !meth.locks && decide (parseMethodDescriptor y.desc = some meth.sig)) = true) : (Jvm.Cond.code y bytes mx rt).before a s = true := by
  simp only [Bool.and_eq_true, beq_iff_eq, Bool.not_eq_true', decide_eq_true_eq] at h5
  obtain ⟨⟨⟨⟨⟨g1, g2⟩, g3⟩, g4⟩, g5⟩, g6⟩ := h5
  simp [Cond.before, Cond.holds, Cond.value, h1, h2, h3, h4, g1, g2, g3, g4, g5, g6]
def isCode : Jvm.Cond → Bool
  | .code _ _ _ _ => true
  | _ => false
theorem all_split {L : List Jvm.Cond} {P : Jvm.Cond → Bool} (h1 : L.all (fun c => isCode c || P c) = true) (h2 : ∀ c ∈ L.filter isCode, P c = true) : L.all P = true := by
  refine List.all_eq_true.mpr fun c hc => ?_
  have h := List.all_eq_true.mp h1 c hc
  rcases Bool.eq_false_or_eq_true (isCode c) with hi | hi
  · exact h2 c (List.mem_filter.mpr ⟨hc, hi⟩)
  · simpa [hi] using h
set_option maxRecDepth 65536 in
theorem w_c0 : (Jvm.Cond.code x code maxLocals ret).before args0 about1 = true := code_word (m := ⟨1, 1⟩) (meth := k1m1) (c := k1c1) (by decide +kernel) rfl rfl rfl (by decide +kernel)
set_option maxRecDepth 65536 in
theorem w_c1 : (Jvm.Cond.code ({ cls := "com/example/tracewarden/tracewarden/io/JavaHeap", name := "arrayBytes", desc := "(JJ)J" } : Jvm.MethodName) prog_113_method_3_code (6 : Nat) (Option.some Jvm.ClassFile.FieldType.long)).before args0 about1 = true := code_word (m := ⟨2, 1⟩) (meth := k2m1) (c := k2c1) (by decide +kernel) rfl rfl rfl (by decide +kernel)
def codes1 : List Jvm.Cond := [Jvm.Cond.code x code maxLocals ret, Jvm.Cond.code ({ cls := "com/example/tracewarden/tracewarden/io/JavaHeap", name := "arrayBytes", desc := "(JJ)J" } : Jvm.MethodName) prog_113_method_3_code (6 : Nat) (Option.some Jvm.ClassFile.FieldType.long)]
set_option maxRecDepth 65536 in
theorem codes_eq : words1.filter isCode = codes1 := rfl
theorem w_codes : ∀ c ∈ words1.filter isCode, c.before args0 about1 = true := by
  rw [codes_eq]
  intro c hc
  simp only [codes1, List.mem_cons, List.not_mem_nil, or_false] at hc
  rcases hc with rfl | rfl
  · exact w_c0
  · exact w_c1
set_option maxRecDepth 65536 in
theorem w_t1 : words1.all (fun c => isCode c || c.before args0 about1) = true := by decide +kernel
theorem w_tables : (allAtoms (Jvm.Cond.code x code maxLocals ret :: tables_1)).before args0 about1 = true := by
  rw [allAtoms_all]
  show words1.all (fun c => c.before args0 about1) = true
  refine all_split ?_ w_codes
  rw [w_t1]
set_option maxRecDepth 65536 in
theorem w_case : (Jvm.Cond.and given_1 narrow_1).before args0 about1 = true := by decide +kernel
theorem w_applies : (headSpec (Jvm.Cond.code x code maxLocals ret :: tables_1) room_1).applies x e0.platform about1 = true :=
  (Spec.applies_iff w_frames).mpr ⟨w_running, w_runnable, w_alone, w_named, w_hears, w_ripe, w_room, w_tables⟩
theorem atStart : AtStart classFile x code maxLocals ret World_1 tables_1 room_1 Calls_1 rest_1 Pre_1 launch0 p0 e0 about1 theMethod args0 below0 :=
  ⟨lists_1, trivial, launch0.admits_env _ _ _, launch0.least_env, fairChoices_fair.cas, fairChoices_fair.clock, w_frames, w_args, w_heap, w_applies, trivial, trivial, w_case⟩
end start1
theorem witness_1 : WitnessClaimed_1 := ⟨start1.p0, start1.e0, start1.about1, start1.theMethod, start1.args0, start1.below0, start1.atStart⟩
end Jvm.Pilot.@@N@@
