import JvmDerived
import JvmDerived.Pilot.@@N@@Statement
import JvmDerived.Pilot.@@N@@Code
set_option linter.unusedVariables false
set_option linter.unusedSimpArgs false
namespace Jvm.Pilot.@@N@@
open Jvm Jvm.ClassFile Sem Op Lib Jvm.Free Jvm.Stand Jvm.LawKit Jvm.RoadKit Bundle Jvm.Pilot.@@N@@.Jvm.D

section Own
variable {p : Program} {l : Launch} {e : Env} {R : Room} {s : State} {m : MethodId} {args : Array Value} {below : List Frame} {meth : Method} {c : Code} {T : State} {locs : List Loc} {cells slots : Nat} {Qo : Option Value → Heap → List Loc → Prop} {C N : Nat}
/-- the run goes on from U to a return that answers Qo -/
def own_Done (p : Program) (e : Env) (below : List Frame) (s : State) (Qo : Option Value → Heap → List Loc → Prop) (C N : Nat) (U : State) : Prop :=
  ∃ s₂ o, Steps p.tables e below U s₂ ∧ s₂.status = .running ∧ Ended s₂ below o ∧ (∃ v L, o = .returned v ∧ Qo v s₂.heap L ∧ FrameEnd s o s₂ L C N)
theorem own_go {U U' : State} (h : ∀ t, Steps p.tables e below U' t → Steps p.tables e below U t) (d : own_Done p e below s Qo C N U') : own_Done p e below s Qo C N U := by
  obtain ⟨s₂, o, h1, h2⟩ := d
  exact ⟨s₂, o, h _ h1, h2⟩
theorem own_join {U U' : State} (h : own_Done p e below s Qo C N U' → own_Done p e below s Qo C N U) (d : own_Done p e below s Qo C N U') : own_Done p e below s Qo C N U := h d
theorem own_mem {d : Jvm.Cond} (i : Nat) (h : tables_1[i]? = some d) : d ∈ tables_1 := List.mem_of_getElem? h
theorem own_cell {T : State} {h : Heap} {a : Addr} {c : Cell} (e : T.heap = h) (q : h[a]? = some c) : T.heap[a]? = some c := by rw [e]; exact q
theorem own_sta_keep {Z : State} {h h' : Heap} {C n d : String} {v : Value} (F : Sta Z h C n d v) (K : Keep h h' []) : Sta Z h' C n d v := by
  obtain ⟨cf, i, k, f, st, cell, h1, h2, h3, h4, h5, r⟩ := F
  exact ⟨cf, i, k, f, st, cell, h1, h2, h3, h4, K.2.1 st cell h5 (fun q => nomatch q), r⟩
theorem own_ins_keep {Z : State} {h h' : Heap} {a : Addr} {C : String} {b : Bool} {ws : List Addr} (F : Ins Z h a C b) (K : Keep h h' ws) : Ins Z h' a C b := by
  obtain ⟨cell, cT, h1, h2, h3⟩ := F
  obtain ⟨c', q, r1, r2, -⟩ := K.2.2 a cell h1
  exact ⟨c', cT, q, h2, by rw [r1, r2]; exact h3⟩
theorem own_sta_keepX {Z : State} {h h' : Heap} {C n d : String} {v : Value} {ws : List Addr} (F : Sta Z h C n d v) (K : Keep h h' ws) (q : ∀ x ∈ ws, ∀ cell : Cell, h[x]? = some cell → cell.vm.isStatics = false) : Sta Z h' C n d v := by
  obtain ⟨cf, i, k, f, st, cell, h1, h2, h3, h4, h5, h6, h7⟩ := F
  exact ⟨cf, i, k, f, st, cell, h1, h2, h3, h4, K.2.1 st cell h5 (fun hm => by rw [q st hm cell h5] at h6; cases h6), h6, h7⟩
theorem own_safe_arv {Z : State} {EL : List (String × Nat)} {vm : Vm} {h : Heap} {a : Addr} {k : ClassId} {ty : FieldType} {z : Int32} {vs : List Value} {d : Value} (hal : Z.vm.Alike vm) (V : Arv Z h a k ty z vs d) (ht : ty ≠ .byte) : Safe Z EL vm h a := by
  obtain ⟨c, A, -⟩ := V
  exact Safe.arr hal A ht
theorem own_weak {p : Program} {l : Launch} {e : Env} {R : Room} {s : State} {m : MethodId} {args : Array Value} {below : List Frame} {meth : Method} {c : Code} {T : State} {locs : List Loc} {cells slots cells' slots' : Nat} (X : Stand p l e R s m args below meth c T locs cells slots) (hc : cells ≤ cells') (hs : slots ≤ slots') : Stand p l e R s m args below meth c T locs cells' slots' :=
  ⟨X.admits, X.cas, X.clock, X.frames, X.room, X.hears, X.method, X.code, X.here, X.tail, X.warmed, X.limits, X.bytes, X.same.mono hc hs⟩
theorem own_at {c : Cell} {z j : Int32} {vs : List Value} {d v : Value} {i : Nat} (S : c.slots.size = z.toNatClampNeg) (H : Has c vs d) (q : ¬ j < 0 ∧ j < z) (hj : j.toNatClampNeg = i) (hv : vs.getD i d = v) : c.slots[j.toNatClampNeg]? = some v := by
  have h := inb_of S q
  rw [H _ (Nat.lt_of_not_le fun k => h (Or.inr k)), hj, hv]
/-- an array of ints, bytes, chars .. by what its places hold -/
def own_Arf (Z : State) (h : Heap) (a : Addr) (k : ClassId) (ty : FieldType) (n : Int32) (f : Int32 → Int32) : Prop :=
  ∃ c : Cell, Arr Z h a c ty ∧ c.cls = k ∧ c.slots.size = n.toNatClampNeg ∧ ¬ n < 0 ∧ ∀ j : Int32, ¬ j < 0 → j < n → c.slots[j.toNatClampNeg]? = some (.int (f j))
section Arf
variable {Z : State} {h h' : Heap} {a b : Addr} {k : ClassId} {ty : FieldType} {n : Int32} {f : Int32 → Int32}
theorem own_Arf.lt (F : own_Arf Z h a k ty n f) : a < h.size := by obtain ⟨c, A, -⟩ := F; exact A.lt
theorem own_Arf.ext (F : own_Arf Z h a k ty n f) (E : Ext h h') : own_Arf Z h' a k ty n f := by obtain ⟨c, A, r⟩ := F; exact ⟨c, A.ext E, r⟩
theorem own_Arf.other {sl : Nat} {v : Value} (F : own_Arf Z h b k ty n f) (W : Wr h h' a sl v) (q : b ≠ a) : own_Arf Z h' b k ty n f := by obtain ⟨c, A, r⟩ := F; exact ⟨c, A.other W q, r⟩
theorem own_Arf.keep {ws : List Addr} (F : own_Arf Z h a k ty n f) (K : Keep h h' ws) (q : a ∉ ws) : own_Arf Z h' a k ty n f := by obtain ⟨c, A, r⟩ := F; exact ⟨c, ⟨K.2.1 a c A.1 q, A.2⟩, r⟩
theorem own_Arf.new (A : Arr Z h a (newA k ty n) ty) (q : ¬ n < 0) (hd : defaultValue ty = .int 0) : own_Arf Z h a k ty n (fun _ => (0 : Int32)) :=
  ⟨_, A, rfl, sz_new _ _ _, q, fun j h1 h2 => by
    have h3 := inb_of (sz_new k ty n) (z := n) (j := j) ⟨h1, h2⟩
    rw [sz_new] at h3
    rw [get_new h3, hd]⟩
theorem own_Arf.set {c : Cell} {j v : Int32} (A : Arr Z h a c ty) (q1 : c.cls = k) (S : c.slots.size = n.toNatClampNeg) (q3 : ¬ n < 0) (H : ∀ j : Int32, ¬ j < 0 → j < n → c.slots[j.toNatClampNeg]? = some (.int (f j))) (hj : ¬ j < 0 ∧ j < n) (W : Wr h h' a j.toNatClampNeg (.int v)) :
    own_Arf Z h' a k ty n (fun i => if i = j then v else f i) :=
  ⟨c.setSlot j.toNatClampNeg (.int v), A.same W, q1, by rw [sz_set]; exact S, q3, fun i h1 h2 => by
    by_cases e : i = j
    · rw [get_hit (inb_of S hj) e]; simp only [if_pos e]
    · rw [get_miss hj.1 h1 e, H i h1 h2]; simp only [if_neg e]⟩
end Arf
theorem own_ret (X : Stand p l e R s m args below meth c T locs cells slots) {v : Option Value} {g : JFrame} (hlk : meth.locks = false) (hv : meth.sig.returnType = none → v = none) (hC : cells ≤ C) (hN : slots ≤ N)
    (st : ∀ fs, (∀ (f : JFrame) (acts : List Action), f.method = m → f.locked = none → f.entered = [] → (doReturn e (T.setTop f) acts v).1 = T.setFrames fs) → Steps p.tables e below (T.setTop g) (T.setFrames fs)) (hQ : Qo v T.heap locs) : own_Done p e below s Qo C N (T.setTop g) := by
  obtain ⟨fs, hr, hrun, hended, hW, hsame⟩ := X.leave (v := v) hv hlk
  exact ⟨_, _, st fs hr, hrun, hended, _, _, rfl, hQ, ⟨_, rfl⟩, hW, hsame.mono hC hN⟩
theorem own_retI (X : Stand p l e R s m args below meth c T locs cells slots) (hx : p.tables.exec = Jvm.exec) {pc : Nat} {Ls : Array Slot} {z : Int32} {rest : List Value} (hret : meth.sig.returnType = some .int) (hd : decode c.code pc = .ok (.ireturn, 1)) {fs : List Frame}
    (hl : ∀ (f : JFrame) (acts : List Action), f.method = m → f.locked = none → f.entered = [] → (doReturn e (T.setTop f) acts (some (.int z))).1 = T.setFrames fs) : Steps p.tables e below (T.setTop (mkF m pc Ls (.int z :: rest))) (T.setFrames fs) := by
  exact retOut X hx hret rfl (Or.inl ⟨rfl, Or.inl rfl, z, rfl⟩) hd hl
theorem own_retJ (X : Stand p l e R s m args below meth c T locs cells slots) (hx : p.tables.exec = Jvm.exec) {pc : Nat} {Ls : Array Slot} {z : Int64} {rest : List Value} (hret : meth.sig.returnType = some .long) (hd : decode c.code pc = .ok (.lreturn, 1)) {fs : List Frame}
    (hl : ∀ (f : JFrame) (acts : List Action), f.method = m → f.locked = none → f.entered = [] → (doReturn e (T.setTop f) acts (some (.long z))).1 = T.setFrames fs) : Steps p.tables e below (T.setTop (mkF m pc Ls (.long z :: rest))) (T.setFrames fs) := by
  exact retOut X hx hret rfl (Or.inr (Or.inl ⟨rfl, rfl, z, rfl⟩)) hd hl
theorem own_retR (X : Stand p l e R s m args below meth c T locs cells slots) (hx : p.tables.exec = Jvm.exec) {pc : Nat} {Ls : Array Slot} {w : Value} {t : FieldType} {rest : List Value} (hret : meth.sig.returnType = some t) (ht : t.isReference = true) (hw : w.isRef = true) (hn : narrow t w = w) (hd : decode c.code pc = .ok (.areturn, 1)) {fs : List Frame}
    (hl : ∀ (f : JFrame) (acts : List Action), f.method = m → f.locked = none → f.entered = [] → (doReturn e (T.setTop f) acts (some w)).1 = T.setFrames fs) : Steps p.tables e below (T.setTop (mkF m pc Ls (w :: rest))) (T.setFrames fs) := by
  exact retOut X hx hret hn (Or.inr (Or.inr (Or.inr (Or.inr ⟨rfl, ht, hw⟩)))) hd hl
/-- the same where Strings may be interned meanwhile -/
def own_DoneW (p : Program) (e : Env) (below : List Frame) (s : State) (Z : State) (EL : List (String × Nat)) (Qo : Option Value → Heap → List Loc → Prop) (C N : Nat) (U : State) : Prop :=
  ∃ s₂ o, Steps p.tables e below U s₂ ∧ s₂.status = .running ∧ Ended s₂ below o ∧ (∃ v L, o = .returned v ∧ Qo v s₂.heap L ∧ CHr Z EL s.vm s.heap s₂.vm s₂.heap ∧ ReturnedEndW s o s₂ L C N)
theorem own_goW {Z : State} {EL : List (String × Nat)} {U U' : State} (h : ∀ t, Steps p.tables e below U' t → Steps p.tables e below U t) (d : own_DoneW p e below s Z EL Qo C N U') : own_DoneW p e below s Z EL Qo C N U := by
  obtain ⟨s₂, o, h1, h2⟩ := d
  exact ⟨s₂, o, h _ h1, h2⟩
theorem own_joinW {Z : State} {EL : List (String × Nat)} {U U' : State} (h : own_DoneW p e below s Z EL Qo C N U' → own_DoneW p e below s Z EL Qo C N U) (d : own_DoneW p e below s Z EL Qo C N U') : own_DoneW p e below s Z EL Qo C N U := h d
theorem own_retW {Z : State} {EL : List (String × Nat)} {vm₁ : Vm} (X : Stand p l e R (s.setVm vm₁) m args below meth c T locs cells slots) {n : Nat} (hS : s.Since vm₁ n) (hn : n ≤ T.heap.size) (hC : CHr Z EL s.vm s.heap T.vm T.heap) {v : Option Value} {g : JFrame} (hlk : meth.locks = false) (hv : meth.sig.returnType = none → v = none) (hCc : cells ≤ C) (hN : slots ≤ N)
    (st : ∀ fs, (∀ (f : JFrame) (acts : List Action), f.method = m → f.locked = none → f.entered = [] → (doReturn e (T.setTop f) acts v).1 = T.setFrames fs) → Steps p.tables e below (T.setTop g) (T.setFrames fs)) (hQ : Qo v T.heap locs) : own_DoneW p e below s Z EL Qo C N (T.setTop g) := by
  obtain ⟨fs, hr, hrun, hended, hE⟩ := X.leaveW hS hn (v := v) hv hlk
  exact ⟨_, _, st fs hr, hrun, hended, _, _, rfl, hQ, hC, hE.1, hE.2.1, hE.2.2.1, hE.2.2.2.mono hCc hN⟩
end Own

theorem d1_0 : decode jdk_29_method_69_code 0 = .ok (.iload_n 0, 1) := by decide +kernel
theorem d1_1 : decode jdk_29_method_69_code 1 = .ok (.iload_n 1, 1) := by decide +kernel
theorem d1_2 : decode jdk_29_method_69_code 2 = .ok (.if_icmp .gt 7, 3) := by decide +kernel
theorem d1_9 : decode jdk_29_method_69_code 9 = .ok (.iload_n 1, 1) := by decide +kernel
theorem d1_10 : decode jdk_29_method_69_code 10 = .ok (.ireturn, 1) := by decide +kernel
theorem d1_5 : decode jdk_29_method_69_code 5 = .ok (.iload_n 0, 1) := by decide +kernel
theorem d1_6 : decode jdk_29_method_69_code 6 = .ok (.goto 4, 3) := by decide +kernel
theorem own_ef1 (m : MethodId) (x0 : Int32) (x1 : Int32) : entryFrame m #[(.int x0), (.int x1)] 2 = mkF m 0 #[.val (.int x0), .val (.int x1)] [] := by first | (simp [entryFrame, mkF, argsToLocals, Value.category]; done) | rfl
def f_1 (p0 : Int32) (p1 : Int32) : Int32 := (if p1 < p0 then p1 else p0)
def Q1 (Z : State) (p0 : Int32) (p1 : Int32) (h0 : Heap) (n0 : Nat) (v : Option Value) (h : Heap) (L : List Loc) : Prop := v = some (.int (f_1 p0 p1)) ∧ Fr n0 L ∧ h = h0
set_option maxRecDepth 65536 in
set_option maxHeartbeats 40000000 in
theorem rm1 (l : Launch) (Z : State) (aw : Array Value) (hw : ∀ d ∈ tables_1, d.before aw Z = true) (ws : List Jvm.Cond) (p0 : Int32) (p1 : Int32) (h0 : Heap) (n0 : Nat) (Z0 : n0 ≤ h0.size) :
    MetFree l (⟨"java/lang/Math", "min", "(II)I"⟩ : MethodName) (head1 (Jvm.Cond.code (⟨"java/lang/Math", "min", "(II)I"⟩ : MethodName) jdk_29_method_69_code 2 (some .int) :: ws) ({ frames := 0, cells := 0, slots := 0, locals := 0 } : Room)) (fun a U => a = #[(.int p0), (.int p1)] ∧ Z.Warmed39 U.vm ∧ U.heap = h0) (fun _ _ _ _ _ => True) (fun _ U o U' => ∃ v L, o = .returned v ∧ (Q1 Z p0 p1 h0 n0) v U'.heap L ∧ FrameEnd U o U' L ({ frames := 0, cells := 0, slots := 0, locals := 0 } : Room).cells ({ frames := 0, cells := 0, slots := 0, locals := 0 } : Room).slots) := by
  refine MetFree.of_bodySF (Jvm.Free.JP.mathPlain rfl (by decide +kernel)) hisR ?_
  intro p e s m args below meth c s₁ Bd hml0 hP hK
  obtain ⟨rfl, hZ, hh⟩ := hP
  have hx := Bd.exec
  have hby := Bd.bytes
  have hml : c.maxLocals = 2 := hml0
  have hown : s.vm.findClass "java/lang/Math" = some m.cls := findClass_of_methodNamed Bd.named
  have hnm := (name_of_methodNamed Bd.named Bd.method).1
  have hlk : meth.locks = false := BodyLoose.notSynchronized (by assumption)
  have X0 : Stand p l e ({ frames := 0, cells := 0, slots := 0, locals := 0 } : Room) s m #[(.int p0), (.int p1)] below meth c s₁ [] 0 0 := Stand.of_body Bd
  have e0 : s₁.heap = h0 := by rw [← hh, Bd.state]; rfl
  have N0 := Fr.nil n0
  show own_Done p e below s (Q1 Z p0 p1 h0 n0) ({ frames := 0, cells := 0, slots := 0, locals := 0 } : Room).cells ({ frames := 0, cells := 0, slots := 0, locals := 0 } : Room).slots (s₁.setTop (entryFrame m #[(.int p0), (.int p1)] 2))
  refine own_go (U' := s₁.setTop (mkF m 0 #[.val (.int p0), .val (.int p1)] [])) (fun _ k => castTop (own_ef1 m p0 p1) k) ?_
  refine own_go (U' := s₁.setTop (mkF m 2 #[.val (.int p0), .val (.int p1)] [(.int p1), (.int p0)])) (fun _ k => XS.iloadN X0.here hx rfl (hb hby d1_0) rfl (XS.iloadN X0.here hx rfl (hb hby d1_1) rfl k)) ?_
  by_cases hc2_1 : p1 < p0
  ·refine own_go (U' := s₁.setTop (mkF m 10 #[.val (.int p0), .val (.int p1)] [(.int p1)])) (fun _ k => XS.icmpYes X0.here hx rfl (pc0 := 2) (pc' := 9) rfl (hb hby d1_2) rfl (tlt hc2_1).2.2.1 (by decide) (by decide) (XS.iloadN X0.here hx rfl (hb hby d1_9) rfl k)) ?_
   refine own_ret X0 (v := (some (.int p1))) hlk (fun h => by rw [Bd.returns] at h; cases h) (by decide) (by decide) (fun fs hr => own_retI X0 hx Bd.returns (hb hby d1_10) hr) ?_
   show (Q1 Z p0 p1 h0 n0) _ s₁.heap _
   rw [e0]
   exact ⟨by first | (simp only [f_1, if_pos hc2_1]; done) | rfl | (simp [f_1, if_pos hc2_1]; done), N0, rfl⟩
  ·refine own_go (U' := s₁.setTop (mkF m 10 #[.val (.int p0), .val (.int p1)] [(.int p0)])) (fun _ k => XS.icmpNo X0.here hx rfl (hb hby d1_2) rfl (flt hc2_1).2.2.1 (XS.iloadN X0.here hx rfl (hb hby d1_5) rfl (XS.goto X0.here hx rfl (pc0 := 6) (pc' := 10) rfl (hb hby d1_6) (by decide) (by decide) k))) ?_
   refine own_ret X0 (v := (some (.int p0))) hlk (fun h => by rw [Bd.returns] at h; cases h) (by decide) (by decide) (fun fs hr => own_retI X0 hx Bd.returns (hb hby d1_10) hr) ?_
   show (Q1 Z p0 p1 h0 n0) _ s₁.heap _
   rw [e0]
   exact ⟨by first | (simp only [f_1, if_neg hc2_1]; done) | rfl | (simp [f_1, if_neg hc2_1]; done), N0, rfl⟩
theorem d2_0 : decode jdk_29_method_65_code 0 = .ok (.iload_n 0, 1) := by decide +kernel
theorem d2_1 : decode jdk_29_method_65_code 1 = .ok (.iload_n 1, 1) := by decide +kernel
theorem d2_2 : decode jdk_29_method_65_code 2 = .ok (.if_icmp .lt 7, 3) := by decide +kernel
theorem d2_9 : decode jdk_29_method_65_code 9 = .ok (.iload_n 1, 1) := by decide +kernel
theorem d2_10 : decode jdk_29_method_65_code 10 = .ok (.ireturn, 1) := by decide +kernel
theorem d2_5 : decode jdk_29_method_65_code 5 = .ok (.iload_n 0, 1) := by decide +kernel
theorem d2_6 : decode jdk_29_method_65_code 6 = .ok (.goto 4, 3) := by decide +kernel
theorem own_ef2 (m : MethodId) (x0 : Int32) (x1 : Int32) : entryFrame m #[(.int x0), (.int x1)] 2 = mkF m 0 #[.val (.int x0), .val (.int x1)] [] := by first | (simp [entryFrame, mkF, argsToLocals, Value.category]; done) | rfl
def f_2 (p0 : Int32) (p1 : Int32) : Int32 := (if p0 < p1 then p1 else p0)
def Q2 (Z : State) (p0 : Int32) (p1 : Int32) (h0 : Heap) (n0 : Nat) (v : Option Value) (h : Heap) (L : List Loc) : Prop := v = some (.int (f_2 p0 p1)) ∧ Fr n0 L ∧ h = h0
set_option maxRecDepth 65536 in
set_option maxHeartbeats 40000000 in
theorem rm2 (l : Launch) (Z : State) (aw : Array Value) (hw : ∀ d ∈ tables_1, d.before aw Z = true) (ws : List Jvm.Cond) (p0 : Int32) (p1 : Int32) (h0 : Heap) (n0 : Nat) (Z0 : n0 ≤ h0.size) :
    MetFree l (⟨"java/lang/Math", "max", "(II)I"⟩ : MethodName) (head1 (Jvm.Cond.code (⟨"java/lang/Math", "max", "(II)I"⟩ : MethodName) jdk_29_method_65_code 2 (some .int) :: ws) ({ frames := 0, cells := 0, slots := 0, locals := 0 } : Room)) (fun a U => a = #[(.int p0), (.int p1)] ∧ Z.Warmed39 U.vm ∧ U.heap = h0) (fun _ _ _ _ _ => True) (fun _ U o U' => ∃ v L, o = .returned v ∧ (Q2 Z p0 p1 h0 n0) v U'.heap L ∧ FrameEnd U o U' L ({ frames := 0, cells := 0, slots := 0, locals := 0 } : Room).cells ({ frames := 0, cells := 0, slots := 0, locals := 0 } : Room).slots) := by
  refine MetFree.of_bodySF (Jvm.Free.JP.mathPlain rfl (by decide +kernel)) hisR ?_
  intro p e s m args below meth c s₁ Bd hml0 hP hK
  obtain ⟨rfl, hZ, hh⟩ := hP
  have hx := Bd.exec
  have hby := Bd.bytes
  have hml : c.maxLocals = 2 := hml0
  have hown : s.vm.findClass "java/lang/Math" = some m.cls := findClass_of_methodNamed Bd.named
  have hnm := (name_of_methodNamed Bd.named Bd.method).1
  have hlk : meth.locks = false := BodyLoose.notSynchronized (by assumption)
  have X0 : Stand p l e ({ frames := 0, cells := 0, slots := 0, locals := 0 } : Room) s m #[(.int p0), (.int p1)] below meth c s₁ [] 0 0 := Stand.of_body Bd
  have e0 : s₁.heap = h0 := by rw [← hh, Bd.state]; rfl
  have N0 := Fr.nil n0
  show own_Done p e below s (Q2 Z p0 p1 h0 n0) ({ frames := 0, cells := 0, slots := 0, locals := 0 } : Room).cells ({ frames := 0, cells := 0, slots := 0, locals := 0 } : Room).slots (s₁.setTop (entryFrame m #[(.int p0), (.int p1)] 2))
  refine own_go (U' := s₁.setTop (mkF m 0 #[.val (.int p0), .val (.int p1)] [])) (fun _ k => castTop (own_ef2 m p0 p1) k) ?_
  refine own_go (U' := s₁.setTop (mkF m 2 #[.val (.int p0), .val (.int p1)] [(.int p1), (.int p0)])) (fun _ k => XS.iloadN X0.here hx rfl (hb hby d2_0) rfl (XS.iloadN X0.here hx rfl (hb hby d2_1) rfl k)) ?_
  by_cases hc2_2 : p0 < p1
  ·refine own_go (U' := s₁.setTop (mkF m 10 #[.val (.int p0), .val (.int p1)] [(.int p1)])) (fun _ k => XS.icmpYes X0.here hx rfl (pc0 := 2) (pc' := 9) rfl (hb hby d2_2) rfl (tlt hc2_2).1 (by decide) (by decide) (XS.iloadN X0.here hx rfl (hb hby d2_9) rfl k)) ?_
   refine own_ret X0 (v := (some (.int p1))) hlk (fun h => by rw [Bd.returns] at h; cases h) (by decide) (by decide) (fun fs hr => own_retI X0 hx Bd.returns (hb hby d2_10) hr) ?_
   show (Q2 Z p0 p1 h0 n0) _ s₁.heap _
   rw [e0]
   exact ⟨by first | (simp only [f_2, if_pos hc2_2]; done) | rfl | (simp [f_2, if_pos hc2_2]; done), N0, rfl⟩
  ·refine own_go (U' := s₁.setTop (mkF m 10 #[.val (.int p0), .val (.int p1)] [(.int p0)])) (fun _ k => XS.icmpNo X0.here hx rfl (hb hby d2_2) rfl (flt hc2_2).1 (XS.iloadN X0.here hx rfl (hb hby d2_5) rfl (XS.goto X0.here hx rfl (pc0 := 6) (pc' := 10) rfl (hb hby d2_6) (by decide) (by decide) k))) ?_
   refine own_ret X0 (v := (some (.int p0))) hlk (fun h => by rw [Bd.returns] at h; cases h) (by decide) (by decide) (fun fs hr => own_retI X0 hx Bd.returns (hb hby d2_10) hr) ?_
   show (Q2 Z p0 p1 h0 n0) _ s₁.heap _
   rw [e0]
   exact ⟨by first | (simp only [f_2, if_neg hc2_2]; done) | rfl | (simp [f_2, if_neg hc2_2]; done), N0, rfl⟩
theorem d4_0 : decode jdk_43_method_3_code 0 = .ok (.iload_n 0, 1) := by decide +kernel
theorem d4_1 : decode jdk_43_method_3_code 1 = .ok (.sipush 255, 3) := by decide +kernel
theorem d4_4 : decode jdk_43_method_3_code 4 = .ok (.if_icmp .gt 7, 3) := by decide +kernel
theorem d4_11 : decode jdk_43_method_3_code 11 = .ok (.iconst 0, 1) := by decide +kernel
theorem d4_12 : decode jdk_43_method_3_code 12 = .ok (.ireturn, 1) := by decide +kernel
theorem d4_7 : decode jdk_43_method_3_code 7 = .ok (.iconst 1, 1) := by decide +kernel
theorem d4_8 : decode jdk_43_method_3_code 8 = .ok (.goto 4, 3) := by decide +kernel
theorem own_pn0 : plainName "java/lang/StringLatin1" = true := by first | (simp [plainName, overriddenIn]; done) | decide +kernel
theorem own_ef4 (m : MethodId) (x0 : Int32) : entryFrame m #[(.int x0)] 1 = mkF m 0 #[.val (.int x0)] [] := by first | (simp [entryFrame, mkF, argsToLocals, Value.category]; done) | rfl
def f_4 (p0 : Int32) : Int32 := (if (255 : Int32) < p0 then (0 : Int32) else (1 : Int32))
def Q4 (Z : State) (p0 : Int32) (h0 : Heap) (n0 : Nat) (v : Option Value) (h : Heap) (L : List Loc) : Prop := v = some (.int (f_4 p0)) ∧ Fr n0 L ∧ h = h0
set_option maxRecDepth 65536 in
set_option maxHeartbeats 40000000 in
theorem rm4 (l : Launch) (Z : State) (aw : Array Value) (hw : ∀ d ∈ tables_1, d.before aw Z = true) (ws : List Jvm.Cond) (p0 : Int32) (h0 : Heap) (n0 : Nat) (Z0 : n0 ≤ h0.size) :
    MetFree l (⟨"java/lang/StringLatin1", "canEncode", "(C)Z"⟩ : MethodName) (head1 (Jvm.Cond.code (⟨"java/lang/StringLatin1", "canEncode", "(C)Z"⟩ : MethodName) jdk_43_method_3_code 1 (some .boolean) :: ws) ({ frames := 0, cells := 0, slots := 0, locals := 0 } : Room)) (fun a U => a = #[(.int p0)] ∧ Z.Warmed39 U.vm ∧ U.heap = h0) (fun _ _ _ _ _ => True) (fun _ U o U' => ∃ v L, o = .returned v ∧ (Q4 Z p0 h0 n0) v U'.heap L ∧ FrameEnd U o U' L ({ frames := 0, cells := 0, slots := 0, locals := 0 } : Room).cells ({ frames := 0, cells := 0, slots := 0, locals := 0 } : Room).slots) := by
  refine MetFree.of_bodySF (plainFor_of_name own_pn0) hisR ?_
  intro p e s m args below meth c s₁ Bd hml0 hP hK
  obtain ⟨rfl, hZ, hh⟩ := hP
  have hx := Bd.exec
  have hby := Bd.bytes
  have hml : c.maxLocals = 1 := hml0
  have hown : s.vm.findClass "java/lang/StringLatin1" = some m.cls := findClass_of_methodNamed Bd.named
  have hnm := (name_of_methodNamed Bd.named Bd.method).1
  have hlk : meth.locks = false := BodyLoose.notSynchronized (by assumption)
  have X0 : Stand p l e ({ frames := 0, cells := 0, slots := 0, locals := 0 } : Room) s m #[(.int p0)] below meth c s₁ [] 0 0 := Stand.of_body Bd
  have e0 : s₁.heap = h0 := by rw [← hh, Bd.state]; rfl
  have N0 := Fr.nil n0
  show own_Done p e below s (Q4 Z p0 h0 n0) ({ frames := 0, cells := 0, slots := 0, locals := 0 } : Room).cells ({ frames := 0, cells := 0, slots := 0, locals := 0 } : Room).slots (s₁.setTop (entryFrame m #[(.int p0)] 1))
  refine own_go (U' := s₁.setTop (mkF m 0 #[.val (.int p0)] [])) (fun _ k => castTop (own_ef4 m p0) k) ?_
  refine own_go (U' := s₁.setTop (mkF m 4 #[.val (.int p0)] [(.int (255 : Int32)), (.int p0)])) (fun _ k => XS.iloadN X0.here hx rfl (hb hby d4_0) rfl (XS.sipush X0.here hx rfl (hb hby d4_1) k)) ?_
  by_cases hc4_3 : (255 : Int32) < p0
  ·refine own_go (U' := s₁.setTop (mkF m 12 #[.val (.int p0)] [(.int (0 : Int32))])) (fun _ k => XS.icmpYes X0.here hx rfl (pc0 := 4) (pc' := 11) rfl (hb hby d4_4) rfl (tlt hc4_3).2.2.1 (by decide) (by decide) (XS.iconst X0.here hx rfl (hb hby d4_11) k)) ?_
   refine own_ret X0 (v := (some (.int (0 : Int32)))) hlk (fun h => by rw [Bd.returns] at h; cases h) (by decide) (by decide) (fun fs hr => retN X0 hx (t := .boolean) Bd.returns (by simp) (hb hby d4_12) hr) ?_
   show (Q4 Z p0 h0 n0) _ s₁.heap _
   rw [e0]
   exact ⟨by first | (simp only [f_4, if_pos hc4_3]; done) | rfl | (simp [f_4, if_pos hc4_3]; done), N0, rfl⟩
  ·refine own_go (U' := s₁.setTop (mkF m 12 #[.val (.int p0)] [(.int (1 : Int32))])) (fun _ k => XS.icmpNo X0.here hx rfl (hb hby d4_4) rfl (flt hc4_3).2.2.1 (XS.iconst X0.here hx rfl (hb hby d4_7) (XS.goto X0.here hx rfl (pc0 := 8) (pc' := 12) rfl (hb hby d4_8) (by decide) (by decide) k))) ?_
   refine own_ret X0 (v := (some (.int (1 : Int32)))) hlk (fun h => by rw [Bd.returns] at h; cases h) (by decide) (by decide) (fun fs hr => retN X0 hx (t := .boolean) Bd.returns (by simp) (hb hby d4_12) hr) ?_
   show (Q4 Z p0 h0 n0) _ s₁.heap _
   rw [e0]
   exact ⟨by first | (simp only [f_4, if_neg hc4_3]; done) | rfl | (simp [f_4, if_neg hc4_3]; done), N0, rfl⟩
theorem d5_0 : decode jdk_43_method_46_code 0 = .ok (.iconst 1, 1) := by decide +kernel
theorem d5_1 : decode jdk_43_method_46_code 1 = .ok (.newarray .byte, 2) := by decide +kernel
theorem d5_3 : decode jdk_43_method_46_code 3 = .ok (.dup, 1) := by decide +kernel
theorem d5_4 : decode jdk_43_method_46_code 4 = .ok (.iconst 0, 1) := by decide +kernel
theorem d5_5 : decode jdk_43_method_46_code 5 = .ok (.iload_n 0, 1) := by decide +kernel
theorem d5_6 : decode jdk_43_method_46_code 6 = .ok (.i2b, 1) := by decide +kernel
theorem d5_7 : decode jdk_43_method_46_code 7 = .ok (.bastore, 1) := by decide +kernel
theorem d5_8 : decode jdk_43_method_46_code 8 = .ok (.areturn, 1) := by decide +kernel
theorem own_ef5 (m : MethodId) (x0 : Int32) : entryFrame m #[(.int x0)] 1 = mkF m 0 #[.val (.int x0)] [] := by first | (simp [entryFrame, mkF, argsToLocals, Value.category]; done) | rfl
def Q5 (Z : State) (p0 : Int32) (h0 : Heap) (n0 : Nat) (v : Option Value) (h : Heap) (L : List Loc) : Prop := ∃ (r : Addr) (k : ClassId) (f : Int32 → Int32), v = some (.ref r) ∧ Fr n0 L ∧ Keep h0 h [] ∧ h0.size ≤ r ∧ own_Arf Z h r k .byte (1 : Int32) f
set_option maxRecDepth 65536 in
set_option maxHeartbeats 40000000 in
theorem rm5 (l : Launch) (Z : State) (aw : Array Value) (hw : ∀ d ∈ tables_1, d.before aw Z = true) (ws : List Jvm.Cond) (p0 : Int32) (h0 : Heap) (n0 : Nat) (Z0 : n0 ≤ h0.size) :
    MetFree l (⟨"java/lang/StringLatin1", "toBytes", "(C)[B"⟩ : MethodName) (head1 (Jvm.Cond.code (⟨"java/lang/StringLatin1", "toBytes", "(C)[B"⟩ : MethodName) jdk_43_method_46_code 1 (some (.array .byte)) :: ws) ({ frames := 0, cells := 1, slots := 1, locals := 0 } : Room)) (fun a U => a = #[(.int p0)] ∧ Z.Warmed39 U.vm ∧ U.heap = h0) (fun _ _ _ _ _ => True) (fun _ U o U' => ∃ v L, o = .returned v ∧ (Q5 Z p0 h0 n0) v U'.heap L ∧ FrameEnd U o U' L ({ frames := 0, cells := 1, slots := 1, locals := 0 } : Room).cells ({ frames := 0, cells := 1, slots := 1, locals := 0 } : Room).slots) := by
  refine MetFree.of_bodySF (plainFor_of_name own_pn0) hisR ?_
  intro p e s m args below meth c s₁ Bd hml0 hP hK
  obtain ⟨rfl, hZ, hh⟩ := hP
  have hx := Bd.exec
  have hby := Bd.bytes
  have hml : c.maxLocals = 1 := hml0
  have hown : s.vm.findClass "java/lang/StringLatin1" = some m.cls := findClass_of_methodNamed Bd.named
  have hnm := (name_of_methodNamed Bd.named Bd.method).1
  have hlk : meth.locks = false := BodyLoose.notSynchronized (by assumption)
  have X0 : Stand p l e ({ frames := 0, cells := 1, slots := 1, locals := 0 } : Room) s m #[(.int p0)] below meth c s₁ [] 0 0 := Stand.of_body Bd
  have e0 : s₁.heap = h0 := by rw [← hh, Bd.state]; rfl
  have N0 := Fr.nil n0
  show own_Done p e below s (Q5 Z p0 h0 n0) ({ frames := 0, cells := 1, slots := 1, locals := 0 } : Room).cells ({ frames := 0, cells := 1, slots := 1, locals := 0 } : Room).slots (s₁.setTop (entryFrame m #[(.int p0)] 1))
  refine own_go (U' := s₁.setTop (mkF m 0 #[.val (.int p0)] [])) (fun _ k => castTop (own_ef5 m p0) k) ?_
  refine own_go (U' := s₁.setTop (mkF m 1 #[.val (.int p0)] [(.int (1 : Int32))])) (fun _ k => XS.iconst X0.here hx rfl (hb hby d5_0) k) ?_
  obtain ⟨T4, h4, k4, X4, e4, E4, A4, st4⟩ := newP X0 hx hZ (hw _ (own_mem 23 rfl)) e0 (g := (mkF m 1 #[.val (.int p0)] [(.int (1 : Int32))])) rfl (hb hby d5_1) rfl (by decide) (cap := 1) (by decide) (by decide) (by decide) (by decide)
  obtain ⟨b4, g4⟩ : ∃ z, z = h0.size := ⟨_, rfl⟩
  have g_b4 : n0 ≤ b4 := Nat.le_trans Z0 (Nat.le_of_eq g4.symm)
  have sz_b4 : h0.size ≤ b4 := Nat.le_trans (Keep.refl h0 []).1 (Nat.le_of_eq g4.symm)
  rw [← g4] at A4 st4
  have Z4 : n0 ≤ h4.size := Nat.le_trans Z0 E4.1
  have K4 := Keep.ext (Keep.refl h0 []) E4
  have V_b4 : own_Arf Z h4 b4 k4 .byte (1 : Int32) (fun _ => (0 : Int32)) := own_Arf.new A4 (by decide) rfl
  refine own_go (U' := T4.setTop (mkF m 3 #[.val (.int p0)] [(.ref b4)])) (fun _ k => st4 _ k) ?_
  refine own_go (U' := T4.setTop (mkF m 7 #[.val (.int p0)] [(.int (p0.toInt8.toInt32)), (.int (0 : Int32)), (.ref b4), (.ref b4)])) (fun _ k => XS.dup X4.here hx rfl (hb hby d5_3) rfl rfl (XS.iconst X4.here hx rfl (hb hby d5_4) (XS.iloadN X4.here hx rfl (hb hby d5_5) rfl (XS.i2b X4.here hx rfl (hb hby d5_6) rfl k)))) ?_
  have V5 := V_b4
  obtain ⟨cl5, Ar5, q5, S5, Ng5, Hh5⟩ := V5
  have hj5 : ¬ (0 : Int32) < 0 ∧ (0 : Int32) < (1 : Int32) := ⟨by decide, by decide⟩
  obtain ⟨T6, h6, X6, e6, W6, st6⟩ := stB X4 hx hZ e4 Ar5 (j := (0 : Int32)) (inb_of S5 hj5) (g := (mkF m 7 #[.val (.int p0)] [(.int (p0.toInt8.toInt32)), (.int (0 : Int32)), (.ref b4), (.ref b4)])) rfl rfl (hb hby d5_7)
  obtain ⟨f7, hf7⟩ : ∃ F_ : Int32 → Int32, F_ = (fun i : Int32 => if i = (0 : Int32) then (p0.toInt8.toInt32).toInt8.toInt32 else (fun _ => (0 : Int32)) i) := ⟨_, rfl⟩
  have w6 : own_Arf Z h6 b4 k4 .byte (1 : Int32) f7 := by rw [hf7]; exact own_Arf.set Ar5 q5 S5 Ng5 Hh5 hj5 W6
  have Z6 : n0 ≤ h6.size := Nat.le_trans Z4 (Keep.of_wr W6).1
  have K6 := Keep.wr K4 W6 (Or.inr sz_b4)
  have N6 := Fr.snoc X6 N0 g_b4
  refine own_go (U' := T6.setTop (mkF m 8 #[.val (.int p0)] [(.ref b4)])) (fun _ k => st6 _ k) ?_
  refine own_ret X6 (v := (some (.ref b4))) hlk (fun h => by rw [Bd.returns] at h; cases h) (by decide) (by decide) (fun fs hr => own_retR X6 hx Bd.returns rfl rfl rfl (hb hby d5_8) hr) ?_
  show (Q5 Z p0 h0 n0) _ T6.heap _
  rw [e6]
  exact ⟨_, _, _, rfl, N6, K6, sz_b4, w6⟩
theorem d30_0 : decode jdk_52_method_4_code 0 = .ok (.getstatic 44, 3) := by decide +kernel
theorem d30_3 : decode jdk_52_method_4_code 3 = .ok (.ifCond .ne 25, 3) := by decide +kernel
theorem d30_28 : decode jdk_52_method_4_code 28 = .ok (.iload_n 1, 1) := by decide +kernel
theorem d30_29 : decode jdk_52_method_4_code 29 = .ok (.iconst 1, 1) := by decide +kernel
theorem d30_30 : decode jdk_52_method_4_code 30 = .ok (.ishl, 1) := by decide +kernel
theorem d30_31 : decode jdk_52_method_4_code 31 = .ok (.istore_n 1, 1) := by decide +kernel
theorem d30_32 : decode jdk_52_method_4_code 32 = .ok (.aload_n 0, 1) := by decide +kernel
theorem d30_33 : decode jdk_52_method_4_code 33 = .ok (.iload_n 1, 1) := by decide +kernel
theorem d30_34 : decode jdk_52_method_4_code 34 = .ok (.iinc 1 1, 3) := by decide +kernel
theorem d30_37 : decode jdk_52_method_4_code 37 = .ok (.iload_n 2, 1) := by decide +kernel
theorem d30_38 : decode jdk_52_method_4_code 38 = .ok (.getstatic 59, 3) := by decide +kernel
theorem d30_41 : decode jdk_52_method_4_code 41 = .ok (.ishr, 1) := by decide +kernel
theorem d30_42 : decode jdk_52_method_4_code 42 = .ok (.i2b, 1) := by decide +kernel
theorem d30_43 : decode jdk_52_method_4_code 43 = .ok (.bastore, 1) := by decide +kernel
theorem d30_44 : decode jdk_52_method_4_code 44 = .ok (.aload_n 0, 1) := by decide +kernel
theorem d30_45 : decode jdk_52_method_4_code 45 = .ok (.iload_n 1, 1) := by decide +kernel
theorem d30_46 : decode jdk_52_method_4_code 46 = .ok (.iload_n 2, 1) := by decide +kernel
theorem d30_47 : decode jdk_52_method_4_code 47 = .ok (.getstatic 63, 3) := by decide +kernel
theorem d30_50 : decode jdk_52_method_4_code 50 = .ok (.ishr, 1) := by decide +kernel
theorem d30_51 : decode jdk_52_method_4_code 51 = .ok (.i2b, 1) := by decide +kernel
theorem d30_52 : decode jdk_52_method_4_code 52 = .ok (.bastore, 1) := by decide +kernel
theorem d30_53 : decode jdk_52_method_4_code 53 = .ok (.return_, 1) := by decide +kernel
theorem own_pn1 : plainName "java/lang/StringUTF16" = true := by first | (simp [plainName, overriddenIn]; done) | decide +kernel
theorem own_ef30 (m : MethodId) (x0 : Addr) (x2 : Int32) : entryFrame m #[(.ref x0), (.int (0 : Int32)), (.int x2)] 3 = mkF m 0 #[.val (.ref x0), .val (.int (0 : Int32)), .val (.int x2)] [] := by first | (simp [entryFrame, mkF, argsToLocals, Value.category]; done) | rfl
def Q30 (Z : State) (a0 : Addr) (p2 : Int32) (k1 : ClassId) (f1 : Int32 → Int32) (h0 : Heap) (n0 : Nat) (v : Option Value) (h : Heap) (L : List Loc) : Prop := v = none ∧ Fr n0 L ∧ Keep h0 h [a0] ∧ ∃ f : Int32 → Int32, own_Arf Z h a0 k1 .byte (2 : Int32) f
set_option maxRecDepth 65536 in
set_option maxHeartbeats 40000000 in
theorem rm30 (l : Launch) (Z : State) (aw : Array Value) (hw : ∀ d ∈ tables_1, d.before aw Z = true) (ws : List Jvm.Cond) (a0 : Addr) (p2 : Int32) (k1 : ClassId) (f1 : Int32 → Int32) (h0 : Heap) (n0 : Nat) (Z0 : n0 ≤ h0.size) (S_ad : Sta Z h0 "java/lang/StringUTF16" "$assertionsDisabled" "Z" (.int (1 : Int32))) (S_hi : Sta Z h0 "java/lang/StringUTF16" "HI_BYTE_SHIFT" "I" (.int (0 : Int32))) (S_lo : Sta Z h0 "java/lang/StringUTF16" "LO_BYTE_SHIFT" "I" (.int (8 : Int32))) (V_a : own_Arf Z h0 a0 k1 .byte (2 : Int32) f1) (g_a0 : n0 ≤ a0) :
    MetFree l (⟨"java/lang/StringUTF16", "putChar", "([BII)V"⟩ : MethodName) (head1 (Jvm.Cond.code (⟨"java/lang/StringUTF16", "putChar", "([BII)V"⟩ : MethodName) jdk_52_method_4_code 3 none :: ws) ({ frames := 0, cells := 0, slots := 0, locals := 0 } : Room)) (fun a U => a = #[(.ref a0), (.int (0 : Int32)), (.int p2)] ∧ Z.Warmed39 U.vm ∧ U.heap = h0) (fun _ _ _ _ _ => True) (fun _ U o U' => ∃ v L, o = .returned v ∧ (Q30 Z a0 p2 k1 f1 h0 n0) v U'.heap L ∧ FrameEnd U o U' L ({ frames := 0, cells := 0, slots := 0, locals := 0 } : Room).cells ({ frames := 0, cells := 0, slots := 0, locals := 0 } : Room).slots) := by
  refine MetFree.of_bodySF (plainFor_of_name own_pn1) hisR ?_
  intro p e s m args below meth c s₁ Bd hml0 hP hK
  obtain ⟨rfl, hZ, hh⟩ := hP
  have hx := Bd.exec
  have hby := Bd.bytes
  have hml : c.maxLocals = 3 := hml0
  have hown : s.vm.findClass "java/lang/StringUTF16" = some m.cls := findClass_of_methodNamed Bd.named
  have hnm := (name_of_methodNamed Bd.named Bd.method).1
  have hlk : meth.locks = false := BodyLoose.notSynchronized (by assumption)
  have X0 : Stand p l e ({ frames := 0, cells := 0, slots := 0, locals := 0 } : Room) s m #[(.ref a0), (.int (0 : Int32)), (.int p2)] below meth c s₁ [] 0 0 := Stand.of_body Bd
  have e0 : s₁.heap = h0 := by rw [← hh, Bd.state]; rfl
  have N0 := Fr.nil n0
  show own_Done p e below s (Q30 Z a0 p2 k1 f1 h0 n0) ({ frames := 0, cells := 0, slots := 0, locals := 0 } : Room).cells ({ frames := 0, cells := 0, slots := 0, locals := 0 } : Room).slots (s₁.setTop (entryFrame m #[(.ref a0), (.int (0 : Int32)), (.int p2)] 3))
  refine own_go (U' := s₁.setTop (mkF m 0 #[.val (.ref a0), .val (.int (0 : Int32)), .val (.int p2)] [])) (fun _ k => castTop (own_ef30 m a0 p2) k) ?_
  obtain ⟨T7, X7, e7, st7⟩ := getS2 X0 hx hZ hown (host := "") (Or.inl (hw _ (own_mem 195 rfl))) Via.refl e0 S_ad (g := (mkF m 0 #[.val (.ref a0), .val (.int (0 : Int32)), .val (.int p2)] [])) rfl (hb hby d30_0)
  refine own_go (U' := T7.setTop (mkF m 3 #[.val (.ref a0), .val (.int (0 : Int32)), .val (.int p2)] [(.int (1 : Int32))])) (fun _ k => st7 _ k) ?_
  refine own_go (U' := T7.setTop (mkF m 31 #[.val (.ref a0), .val (.int (0 : Int32)), .val (.int p2)] [(.int ((0 : Int32) <<< ((1 : Int32) &&& 31)))])) (fun _ k => XS.ifYes X7.here hx rfl (pc0 := 3) (pc' := 28) rfl (hb hby d30_3) rfl ((if0 _ _).trans (feq (by decide : ¬ ((1 : Int32) = (0 : Int32)))).2) (by decide) (by decide) (XS.iloadN X7.here hx rfl (hb hby d30_28) rfl (XS.iconst X7.here hx rfl (hb hby d30_29) (XS.ishl X7.here hx rfl (hb hby d30_30) rfl k)))) ?_
  rw [show ((0 : Int32) <<< ((1 : Int32) &&& 31)) = (0 : Int32) from by decide]
  refine own_go (U' := T7.setTop (mkF m 38 #[.val (.ref a0), .val (.int (1 : Int32)), .val (.int p2)] [(.int p2), (.int (0 : Int32)), (.ref a0)])) (fun _ k => XS.istoreN X7.here hx rfl (hb hby d30_31) rfl (l' := #[.val (.ref a0), .val (.int (0 : Int32)), .val (.int p2)]) rfl (XS.aloadN X7.here hx rfl (hb hby d30_32) rfl rfl (XS.iloadN X7.here hx rfl (hb hby d30_33) rfl (XS.iinc X7.here hx rfl (hb hby d30_34) rfl (l' := #[.val (.ref a0), .val (.int (1 : Int32)), .val (.int p2)]) rfl (XS.iloadN X7.here hx rfl (hb hby d30_37) rfl k))))) ?_
  obtain ⟨T8, X8, e8, st8⟩ := getS2 X7 hx hZ hown (host := "") (Or.inl (hw _ (own_mem 196 rfl))) Via.refl e7 S_hi (g := (mkF m 38 #[.val (.ref a0), .val (.int (1 : Int32)), .val (.int p2)] [(.int p2), (.int (0 : Int32)), (.ref a0)])) rfl (hb hby d30_38)
  refine own_go (U' := T8.setTop (mkF m 41 #[.val (.ref a0), .val (.int (1 : Int32)), .val (.int p2)] [(.int (0 : Int32)), (.int p2), (.int (0 : Int32)), (.ref a0)])) (fun _ k => st8 _ k) ?_
  refine own_go (U' := T8.setTop (mkF m 43 #[.val (.ref a0), .val (.int (1 : Int32)), .val (.int p2)] [(.int ((p2 >>> ((0 : Int32) &&& 31)).toInt8.toInt32)), (.int (0 : Int32)), (.ref a0)])) (fun _ k => XS.ishr X8.here hx rfl (hb hby d30_41) rfl (XS.i2b X8.here hx rfl (hb hby d30_42) rfl k)) ?_
  have V9 := V_a
  obtain ⟨cl9, Ar9, q9, S9, Ng9, Hh9⟩ := V9
  have hj9 : ¬ (0 : Int32) < 0 ∧ (0 : Int32) < (2 : Int32) := ⟨by decide, by decide⟩
  obtain ⟨T10, h10, X10, e10, W10, st10⟩ := stB X8 hx hZ e8 Ar9 (j := (0 : Int32)) (inb_of S9 hj9) (g := (mkF m 43 #[.val (.ref a0), .val (.int (1 : Int32)), .val (.int p2)] [(.int ((p2 >>> ((0 : Int32) &&& 31)).toInt8.toInt32)), (.int (0 : Int32)), (.ref a0)])) rfl rfl (hb hby d30_43)
  obtain ⟨f43, hf43⟩ : ∃ F_ : Int32 → Int32, F_ = (fun i : Int32 => if i = (0 : Int32) then ((p2 >>> ((0 : Int32) &&& 31)).toInt8.toInt32).toInt8.toInt32 else f1 i) := ⟨_, rfl⟩
  have c10_0 := S_ad.wr W10
  have c10_1 := S_hi.wr W10
  have c10_2 := S_lo.wr W10
  have w10 : own_Arf Z h10 a0 k1 .byte (2 : Int32) f43 := by rw [hf43]; exact own_Arf.set Ar9 q9 S9 Ng9 Hh9 hj9 W10
  have Z10 : n0 ≤ h10.size := Nat.le_trans Z0 (Keep.of_wr W10).1
  have K10 := Keep.wr (Keep.refl h0 [a0]) W10 (Or.inl (by simp))
  have N10 := Fr.snoc X10 N0 g_a0
  refine own_go (U' := T10.setTop (mkF m 44 #[.val (.ref a0), .val (.int (1 : Int32)), .val (.int p2)] [])) (fun _ k => st10 _ k) ?_
  refine own_go (U' := T10.setTop (mkF m 47 #[.val (.ref a0), .val (.int (1 : Int32)), .val (.int p2)] [(.int p2), (.int (1 : Int32)), (.ref a0)])) (fun _ k => XS.aloadN X10.here hx rfl (hb hby d30_44) rfl rfl (XS.iloadN X10.here hx rfl (hb hby d30_45) rfl (XS.iloadN X10.here hx rfl (hb hby d30_46) rfl k))) ?_
  obtain ⟨T11, X11, e11, st11⟩ := getS2 X10 hx hZ hown (host := "") (Or.inl (hw _ (own_mem 197 rfl))) Via.refl e10 c10_2 (g := (mkF m 47 #[.val (.ref a0), .val (.int (1 : Int32)), .val (.int p2)] [(.int p2), (.int (1 : Int32)), (.ref a0)])) rfl (hb hby d30_47)
  refine own_go (U' := T11.setTop (mkF m 50 #[.val (.ref a0), .val (.int (1 : Int32)), .val (.int p2)] [(.int (8 : Int32)), (.int p2), (.int (1 : Int32)), (.ref a0)])) (fun _ k => st11 _ k) ?_
  refine own_go (U' := T11.setTop (mkF m 52 #[.val (.ref a0), .val (.int (1 : Int32)), .val (.int p2)] [(.int ((p2 >>> ((8 : Int32) &&& 31)).toInt8.toInt32)), (.int (1 : Int32)), (.ref a0)])) (fun _ k => XS.ishr X11.here hx rfl (hb hby d30_50) rfl (XS.i2b X11.here hx rfl (hb hby d30_51) rfl k)) ?_
  have V12 := w10
  obtain ⟨cl12, Ar12, q12, S12, Ng12, Hh12⟩ := V12
  have hj12 : ¬ (1 : Int32) < 0 ∧ (1 : Int32) < (2 : Int32) := ⟨by decide, by decide⟩
  obtain ⟨T13, h13, X13, e13, W13, st13⟩ := stB X11 hx hZ e11 Ar12 (j := (1 : Int32)) (inb_of S12 hj12) (g := (mkF m 52 #[.val (.ref a0), .val (.int (1 : Int32)), .val (.int p2)] [(.int ((p2 >>> ((8 : Int32) &&& 31)).toInt8.toInt32)), (.int (1 : Int32)), (.ref a0)])) rfl rfl (hb hby d30_52)
  obtain ⟨f52, hf52⟩ : ∃ F_ : Int32 → Int32, F_ = (fun i : Int32 => if i = (1 : Int32) then ((p2 >>> ((8 : Int32) &&& 31)).toInt8.toInt32).toInt8.toInt32 else f43 i) := ⟨_, rfl⟩
  have c13_0 := c10_0.wr W13
  have c13_1 := c10_1.wr W13
  have c13_2 := c10_2.wr W13
  have w13 : own_Arf Z h13 a0 k1 .byte (2 : Int32) f52 := by rw [hf52]; exact own_Arf.set Ar12 q12 S12 Ng12 Hh12 hj12 W13
  have Z13 : n0 ≤ h13.size := Nat.le_trans Z10 (Keep.of_wr W13).1
  have K13 := Keep.wr K10 W13 (Or.inl (by simp))
  have N13 := Fr.snoc X13 N10 g_a0
  refine own_go (U' := T13.setTop (mkF m 53 #[.val (.ref a0), .val (.int (1 : Int32)), .val (.int p2)] [])) (fun _ k => st13 _ k) ?_
  refine own_ret X13 (v := none) hlk (fun _ => rfl) (by decide) (by decide) (fun fs hr => X13.returnOut hx Bd.returns (hb hby d30_53) hr) ?_
  show (Q30 Z a0 p2 k1 f1 h0 n0) _ T13.heap _
  rw [e13]
  exact ⟨rfl, N13, K13, ⟨_, w13⟩⟩
theorem d29_0 : decode jdk_52_method_24_code 0 = .ok (.iconst 2, 1) := by decide +kernel
theorem d29_1 : decode jdk_52_method_24_code 1 = .ok (.newarray .byte, 2) := by decide +kernel
theorem d29_3 : decode jdk_52_method_24_code 3 = .ok (.astore_n 1, 1) := by decide +kernel
theorem d29_4 : decode jdk_52_method_24_code 4 = .ok (.aload_n 1, 1) := by decide +kernel
theorem d29_5 : decode jdk_52_method_24_code 5 = .ok (.iconst 0, 1) := by decide +kernel
theorem d29_6 : decode jdk_52_method_24_code 6 = .ok (.iload_n 0, 1) := by decide +kernel
theorem d29_7 : decode jdk_52_method_24_code 7 = .ok (.invokestatic 111, 3) := by decide +kernel
theorem own_pd0 : parseMethodDescriptor "([BII)V" = some ⟨[(.array .byte), .int, .int], none⟩ := by decide +kernel
theorem d29_10 : decode jdk_52_method_24_code 10 = .ok (.aload_n 1, 1) := by decide +kernel
theorem d29_11 : decode jdk_52_method_24_code 11 = .ok (.areturn, 1) := by decide +kernel
theorem own_ef29 (m : MethodId) (x0 : Int32) : entryFrame m #[(.int x0)] 2 = mkF m 0 #[.val (.int x0), .unset] [] := by first | (simp [entryFrame, mkF, argsToLocals, Value.category]; done) | rfl
def Q29 (Z : State) (p0 : Int32) (h0 : Heap) (n0 : Nat) (v : Option Value) (h : Heap) (L : List Loc) : Prop := ∃ (r : Addr) (k : ClassId) (f : Int32 → Int32), v = some (.ref r) ∧ Fr n0 L ∧ Keep h0 h [] ∧ h0.size ≤ r ∧ own_Arf Z h r k .byte (2 : Int32) f
set_option maxRecDepth 65536 in
set_option maxHeartbeats 40000000 in
theorem rm29 (l : Launch) (Z : State) (aw : Array Value) (hw : ∀ d ∈ tables_1, d.before aw Z = true) (ws : List Jvm.Cond) (p0 : Int32) (h0 : Heap) (n0 : Nat) (Z0 : n0 ≤ h0.size) (S_ad : Sta Z h0 "java/lang/StringUTF16" "$assertionsDisabled" "Z" (.int (1 : Int32))) (S_hi : Sta Z h0 "java/lang/StringUTF16" "HI_BYTE_SHIFT" "I" (.int (0 : Int32))) (S_lo : Sta Z h0 "java/lang/StringUTF16" "LO_BYTE_SHIFT" "I" (.int (8 : Int32))) :
    MetFree l (⟨"java/lang/StringUTF16", "toBytes", "(C)[B"⟩ : MethodName) (head1 (Jvm.Cond.code (⟨"java/lang/StringUTF16", "toBytes", "(C)[B"⟩ : MethodName) jdk_52_method_24_code 2 (some (.array .byte)) :: ws) ({ frames := 1, cells := 1, slots := 2, locals := 14 } : Room)) (fun a U => a = #[(.int p0)] ∧ Z.Warmed39 U.vm ∧ U.heap = h0) (fun _ _ _ _ _ => True) (fun _ U o U' => ∃ v L, o = .returned v ∧ (Q29 Z p0 h0 n0) v U'.heap L ∧ FrameEnd U o U' L ({ frames := 1, cells := 1, slots := 2, locals := 14 } : Room).cells ({ frames := 1, cells := 1, slots := 2, locals := 14 } : Room).slots) := by
  refine MetFree.of_bodySF (plainFor_of_name own_pn1) hisR ?_
  intro p e s m args below meth c s₁ Bd hml0 hP hK
  obtain ⟨rfl, hZ, hh⟩ := hP
  have hx := Bd.exec
  have hby := Bd.bytes
  have hml : c.maxLocals = 2 := hml0
  have hown : s.vm.findClass "java/lang/StringUTF16" = some m.cls := findClass_of_methodNamed Bd.named
  have hnm := (name_of_methodNamed Bd.named Bd.method).1
  have hlk : meth.locks = false := BodyLoose.notSynchronized (by assumption)
  have X0 : Stand p l e ({ frames := 1, cells := 1, slots := 2, locals := 14 } : Room) s m #[(.int p0)] below meth c s₁ [] 0 0 := Stand.of_body Bd
  have e0 : s₁.heap = h0 := by rw [← hh, Bd.state]; rfl
  have N0 := Fr.nil n0
  show own_Done p e below s (Q29 Z p0 h0 n0) ({ frames := 1, cells := 1, slots := 2, locals := 14 } : Room).cells ({ frames := 1, cells := 1, slots := 2, locals := 14 } : Room).slots (s₁.setTop (entryFrame m #[(.int p0)] 2))
  refine own_go (U' := s₁.setTop (mkF m 0 #[.val (.int p0), .unset] [])) (fun _ k => castTop (own_ef29 m p0) k) ?_
  refine own_go (U' := s₁.setTop (mkF m 1 #[.val (.int p0), .unset] [(.int (2 : Int32))])) (fun _ k => XS.iconst X0.here hx rfl (hb hby d29_0) k) ?_
  obtain ⟨T14, h14, k14, X14, e14, E14, A14, st14⟩ := newP X0 hx hZ (hw _ (own_mem 23 rfl)) e0 (g := (mkF m 1 #[.val (.int p0), .unset] [(.int (2 : Int32))])) rfl (hb hby d29_1) rfl (by decide) (cap := 2) (by decide) (by decide) (by decide) (by decide)
  obtain ⟨b14, g14⟩ : ∃ z, z = h0.size := ⟨_, rfl⟩
  have g_b14 : n0 ≤ b14 := Nat.le_trans Z0 (Nat.le_of_eq g14.symm)
  have sz_b14 : h0.size ≤ b14 := Nat.le_trans (Keep.refl h0 []).1 (Nat.le_of_eq g14.symm)
  rw [← g14] at A14 st14
  have c14_0 := S_ad.ext E14
  have c14_1 := S_hi.ext E14
  have c14_2 := S_lo.ext E14
  have Z14 : n0 ≤ h14.size := Nat.le_trans Z0 E14.1
  have K14 := Keep.ext (Keep.refl h0 []) E14
  have V_b14 : own_Arf Z h14 b14 k14 .byte (2 : Int32) (fun _ => (0 : Int32)) := own_Arf.new A14 (by decide) rfl
  refine own_go (U' := T14.setTop (mkF m 3 #[.val (.int p0), .unset] [(.ref b14)])) (fun _ k => st14 _ k) ?_
  refine own_go (U' := T14.setTop (mkF m 7 #[.val (.int p0), .val (.ref b14)] [(.int p0), (.int (0 : Int32)), (.ref b14)])) (fun _ k => XS.astoreN X14.here hx rfl (hb hby d29_3) rfl rfl (l' := #[.val (.int p0), .val (.ref b14)]) rfl (XS.aloadN X14.here hx rfl (hb hby d29_4) rfl rfl (XS.iconst X14.here hx rfl (hb hby d29_5) (XS.iloadN X14.here hx rfl (hb hby d29_6) rfl k)))) ?_
  obtain ⟨_, _, ⟨T15, L15, k15, n15⟩, -, X15, ⟨Lc15, hQ15, l15, y15, z15⟩, st15⟩ := Jvm.LawKit.callS X14 hx (y := (⟨"java/lang/StringUTF16", "putChar", "([BII)V"⟩ : MethodName)) hown (mvT hZ (hw _ (own_mem 192 rfl))) (mvT hZ (hw _ (own_mem 193 rfl))) (mvT hZ (hw _ (own_mem 190 rfl))) (mvT hZ (hw _ (own_mem 194 rfl))) (by decide) (backOf (W := 0) (rm30 l Z aw hw [] b14 p0 k14 (fun _ => (0 : Int32)) h14 n0 Z14 c14_0 c14_1 c14_2 V_b14 (by first | assumption | decide | rfl)) hZ (hw _ (own_mem 194 rfl)) (hw _ (own_mem 190 rfl)) (by decide) (by decide)) (g := (mkF m 7 #[.val (.int p0), .val (.ref b14)] [(.int p0), (.int (0 : Int32)), (.ref b14)])) rfl (by rw [hml]; rfl) (argsL := [(.ref b14), (.int (0 : Int32)), (.int p0)]) (rest := []) (lenOf own_pd0 rfl) rfl (by show 2 * 0 + _ ≤ _; exact Nat.le_of_eq rfl) (hb hby d29_7) (fun _ _ => ⟨rfl, e14, (by decide : 1 + 0 ≤ _), (by decide : 2 + 0 ≤ _)⟩)
  dsimp only [Pt.U, Pt.locs, Pt.cells, Pt.slots] at X15 l15 y15 z15 st15 hQ15
  subst l15 y15 z15
  obtain ⟨rfl, N15q, K15q, ff15, xV15⟩ := hQ15
  have N15 := Fr.app N0 N15q
  have Z15 : n0 ≤ T15.heap.size := Nat.le_trans Z14 K15q.1
  have K15 := Keep.trans K14 K15q (allS (Or.inr sz_b14) all0)
  refine own_go (U' := T15.setTop (mkF m 10 #[.val (.int p0), .val (.ref b14)] [])) (fun _ k => st15 _ k) ?_
  refine own_go (U' := T15.setTop (mkF m 11 #[.val (.int p0), .val (.ref b14)] [(.ref b14)])) (fun _ k => XS.aloadN X15.here hx rfl (hb hby d29_10) rfl rfl k) ?_
  refine own_ret X15 (v := (some (.ref b14))) hlk (fun h => by rw [Bd.returns] at h; cases h) (by decide) (by decide) (fun fs hr => own_retR X15 hx Bd.returns rfl rfl rfl (hb hby d29_11) hr) ?_
  show (Q29 Z p0 h0 n0) _ T15.heap _
  exact ⟨_, _, _, rfl, N15, K15, sz_b14, xV15⟩
theorem d6_0 : decode jdk_42_method_151_code 0 = .ok (.aload_n 0, 1) := by decide +kernel
theorem d6_1 : decode jdk_42_method_151_code 1 = .ok (.invokespecial 1, 3) := by decide +kernel
theorem d6_4 : decode jdk_42_method_151_code 4 = .ok (.aload_n 0, 1) := by decide +kernel
theorem d6_5 : decode jdk_42_method_151_code 5 = .ok (.aload_n 1, 1) := by decide +kernel
theorem d6_6 : decode jdk_42_method_151_code 6 = .ok (.putfield 9, 3) := by decide +kernel
theorem d6_9 : decode jdk_42_method_151_code 9 = .ok (.aload_n 0, 1) := by decide +kernel
theorem d6_10 : decode jdk_42_method_151_code 10 = .ok (.iload_n 2, 1) := by decide +kernel
theorem d6_11 : decode jdk_42_method_151_code 11 = .ok (.putfield 15, 3) := by decide +kernel
theorem d6_14 : decode jdk_42_method_151_code 14 = .ok (.return_, 1) := by decide +kernel
theorem own_pn2 : plainName "java/lang/String" = true := by first | (simp [plainName, overriddenIn]; done) | decide +kernel
theorem own_ef6_0 (m : MethodId) (x0 : Addr) (x1 : Addr) : entryFrame m #[(.ref x0), (.ref x1), (.int (0 : Int32))] 3 = mkF m 0 #[.val (.ref x0), .val (.ref x1), .val (.int (0 : Int32))] [] := by first | (simp [entryFrame, mkF, argsToLocals, Value.category]; done) | rfl
def Q6_0 (Z : State) (a0 : Addr) (a1 : Addr) (h0 : Heap) (n0 : Nat) (v : Option Value) (h : Heap) (L : List Loc) : Prop := v = none ∧ Fr n0 L ∧ Keep h0 h [a0] ∧ Exa Z h a0 "java/lang/String" ∧ Fld Z h a0 "java/lang/String" "coder" "B" (.int (0 : Int32)) ∧ Fld Z h a0 "java/lang/String" "value" "[B" (.ref a1)
set_option maxRecDepth 65536 in
set_option maxHeartbeats 40000000 in
theorem rm6_0 (l : Launch) (Z : State) (aw : Array Value) (hw : ∀ d ∈ tables_1, d.before aw Z = true) (ws : List Jvm.Cond) (a0 : Addr) (a1 : Addr) (h0 : Heap) (n0 : Nat) (Z0 : n0 ≤ h0.size) (E_a : Exa Z h0 a0 "java/lang/String") (F_v : Fld Z h0 a0 "java/lang/String" "value" "[B" .null) (F_c : Fld Z h0 a0 "java/lang/String" "coder" "B" (.int (0 : Int32))) (g_a0 : n0 ≤ a0) :
    MetFree l (⟨"java/lang/String", "<init>", "([BB)V"⟩ : MethodName) (head1 (Jvm.Cond.code (⟨"java/lang/String", "<init>", "([BB)V"⟩ : MethodName) jdk_42_method_151_code 3 none :: ws) ({ frames := 1, cells := 0, slots := 0, locals := 12 } : Room)) (fun a U => a = #[(.ref a0), (.ref a1), (.int (0 : Int32))] ∧ Z.Warmed39 U.vm ∧ U.heap = h0) (fun _ _ _ _ _ => True) (fun _ U o U' => ∃ v L, o = .returned v ∧ (Q6_0 Z a0 a1 h0 n0) v U'.heap L ∧ FrameEnd U o U' L ({ frames := 1, cells := 0, slots := 0, locals := 12 } : Room).cells ({ frames := 1, cells := 0, slots := 0, locals := 12 } : Room).slots) := by
  refine MetFree.of_bodySF (plainFor_of_name own_pn2) hisR ?_
  intro p e s m args below meth c s₁ Bd hml0 hP hK
  obtain ⟨rfl, hZ, hh⟩ := hP
  have hx := Bd.exec
  have hby := Bd.bytes
  have hml : c.maxLocals = 3 := hml0
  have hown : s.vm.findClass "java/lang/String" = some m.cls := findClass_of_methodNamed Bd.named
  have hnm := (name_of_methodNamed Bd.named Bd.method).1
  have hlk : meth.locks = false := BodyLoose.notSynchronized (by assumption)
  have X0 : Stand p l e ({ frames := 1, cells := 0, slots := 0, locals := 12 } : Room) s m #[(.ref a0), (.ref a1), (.int (0 : Int32))] below meth c s₁ [] 0 0 := Stand.of_body Bd
  have e0 : s₁.heap = h0 := by rw [← hh, Bd.state]; rfl
  have N0 := Fr.nil n0
  show own_Done p e below s (Q6_0 Z a0 a1 h0 n0) ({ frames := 1, cells := 0, slots := 0, locals := 12 } : Room).cells ({ frames := 1, cells := 0, slots := 0, locals := 12 } : Room).slots (s₁.setTop (entryFrame m #[(.ref a0), (.ref a1), (.int (0 : Int32))] 3))
  refine own_go (U' := s₁.setTop (mkF m 0 #[.val (.ref a0), .val (.ref a1), .val (.int (0 : Int32))] [])) (fun _ k => castTop (own_ef6_0 m a0 a1) k) ?_
  refine own_go (U' := s₁.setTop (mkF m 1 #[.val (.ref a0), .val (.ref a1), .val (.int (0 : Int32))] [(.ref a0)])) (fun _ k => XS.aloadN X0.here hx rfl (hb hby d6_0) rfl rfl k) ?_
  obtain ⟨T16, X16, e16, st16⟩ := initO X0 hx hZ hown (hw _ (own_mem 28 rfl)) (hw _ (own_mem 29 rfl)) (hw _ (own_mem 30 rfl)) e0 (g := (mkF m 1 #[.val (.ref a0), .val (.ref a1), .val (.int (0 : Int32))] [(.ref a0)])) rfl (by rw [hml]; rfl) rfl (hb hby d6_1) (by decide) (W := 0) (by show 2 * 0 + _ ≤ _; exact Nat.le_of_eq rfl) (by decide)
  refine own_go (U' := T16.setTop (mkF m 4 #[.val (.ref a0), .val (.ref a1), .val (.int (0 : Int32))] [])) (fun _ k => st16 _ k) ?_
  refine own_go (U' := T16.setTop (mkF m 6 #[.val (.ref a0), .val (.ref a1), .val (.int (0 : Int32))] [(.ref a1), (.ref a0)])) (fun _ k => XS.aloadN X16.here hx rfl (hb hby d6_4) rfl rfl (XS.aloadN X16.here hx rfl (hb hby d6_5) rfl rfl k)) ?_
  obtain ⟨T17, h17, X17, e17, W17, st17⟩ := putF X16 hx hZ hown (host := "") (Or.inl (hw _ (own_mem 31 rfl))) Via.refl e16 F_v E_a (Or.inr ⟨(hw _ (own_mem 32 rfl)), rfl, hnm⟩) (hw _ (own_mem 19 rfl)) (ty := (.array .byte)) (by decide) rfl rfl (g := (mkF m 6 #[.val (.ref a0), .val (.ref a1), .val (.int (0 : Int32))] [(.ref a1), (.ref a0)])) rfl rfl (hb hby d6_6)
  have c17_0 := E_a.wr W17
  have c17_2 := F_c.other W17 (Or.inr (slot_ne (Or.inr (hw _ (own_mem 34 rfl))) (Or.inr (hw _ (own_mem 32 rfl))) (by decide) (t := .byte) (t' := (.array .byte)) (by decide) (by decide)))
  have w17 : Fld Z h17 a0 "java/lang/String" "value" "[B" (.ref a1) := F_v.same W17
  have Z17 : n0 ≤ h17.size := Nat.le_trans Z0 (Keep.of_wr W17).1
  have K17 := Keep.wr (Keep.refl h0 [a0]) W17 (Or.inl (by simp))
  have N17 := Fr.snoc X17 N0 g_a0
  refine own_go (U' := T17.setTop (mkF m 9 #[.val (.ref a0), .val (.ref a1), .val (.int (0 : Int32))] [])) (fun _ k => st17 _ k) ?_
  refine own_go (U' := T17.setTop (mkF m 11 #[.val (.ref a0), .val (.ref a1), .val (.int (0 : Int32))] [(.int (0 : Int32)), (.ref a0)])) (fun _ k => XS.aloadN X17.here hx rfl (hb hby d6_9) rfl rfl (XS.iloadN X17.here hx rfl (hb hby d6_10) rfl k)) ?_
  obtain ⟨T18, h18, X18, e18, W18, st18⟩ := putFN X17 hx hZ hown (hw _ (own_mem 33 rfl)) Via.refl e17 c17_2 c17_0 (Or.inr ⟨(hw _ (own_mem 34 rfl)), rfl, hnm⟩) (hw _ (own_mem 19 rfl)) (ty := .byte) (v' := (.int (0 : Int32))) (by decide) rfl (fits_nar_byte (0 : Int32)) (g := (mkF m 11 #[.val (.ref a0), .val (.ref a1), .val (.int (0 : Int32))] [(.int (0 : Int32)), (.ref a0)])) rfl rfl (hb hby d6_11)
  have c18_0 := c17_0.wr W18
  have c18_1 := w17.other W18 (Or.inr (slot_ne (Or.inr (hw _ (own_mem 32 rfl))) (Or.inr (hw _ (own_mem 34 rfl))) (by decide) (t := (.array .byte)) (t' := .byte) (by decide) (by decide)))
  have w18 : Fld Z h18 a0 "java/lang/String" "coder" "B" (.int (0 : Int32)) := c17_2.same W18
  have Z18 : n0 ≤ h18.size := Nat.le_trans Z17 (Keep.of_wr W18).1
  have K18 := Keep.wr K17 W18 (Or.inl (by simp))
  have N18 := Fr.snoc X18 N17 g_a0
  refine own_go (U' := T18.setTop (mkF m 14 #[.val (.ref a0), .val (.ref a1), .val (.int (0 : Int32))] [])) (fun _ k => st18 _ k) ?_
  refine own_ret X18 (v := none) hlk (fun _ => rfl) (by decide) (by decide) (fun fs hr => X18.returnOut hx Bd.returns (hb hby d6_14) hr) ?_
  show (Q6_0 Z a0 a1 h0 n0) _ T18.heap _
  rw [e18]
  exact ⟨rfl, N18, K18, c18_0, w18, c18_1⟩
theorem own_ef6_1 (m : MethodId) (x0 : Addr) (x1 : Addr) : entryFrame m #[(.ref x0), (.ref x1), (.int (1 : Int32))] 3 = mkF m 0 #[.val (.ref x0), .val (.ref x1), .val (.int (1 : Int32))] [] := by first | (simp [entryFrame, mkF, argsToLocals, Value.category]; done) | rfl
def Q6_1 (Z : State) (a0 : Addr) (a1 : Addr) (h0 : Heap) (n0 : Nat) (v : Option Value) (h : Heap) (L : List Loc) : Prop := v = none ∧ Fr n0 L ∧ Keep h0 h [a0] ∧ Exa Z h a0 "java/lang/String" ∧ Fld Z h a0 "java/lang/String" "coder" "B" (.int (1 : Int32)) ∧ Fld Z h a0 "java/lang/String" "value" "[B" (.ref a1)
set_option maxRecDepth 65536 in
set_option maxHeartbeats 40000000 in
theorem rm6_1 (l : Launch) (Z : State) (aw : Array Value) (hw : ∀ d ∈ tables_1, d.before aw Z = true) (ws : List Jvm.Cond) (a0 : Addr) (a1 : Addr) (h0 : Heap) (n0 : Nat) (Z0 : n0 ≤ h0.size) (E_a : Exa Z h0 a0 "java/lang/String") (F_v : Fld Z h0 a0 "java/lang/String" "value" "[B" .null) (F_c : Fld Z h0 a0 "java/lang/String" "coder" "B" (.int (0 : Int32))) (g_a0 : n0 ≤ a0) :
    MetFree l (⟨"java/lang/String", "<init>", "([BB)V"⟩ : MethodName) (head1 (Jvm.Cond.code (⟨"java/lang/String", "<init>", "([BB)V"⟩ : MethodName) jdk_42_method_151_code 3 none :: ws) ({ frames := 1, cells := 0, slots := 0, locals := 12 } : Room)) (fun a U => a = #[(.ref a0), (.ref a1), (.int (1 : Int32))] ∧ Z.Warmed39 U.vm ∧ U.heap = h0) (fun _ _ _ _ _ => True) (fun _ U o U' => ∃ v L, o = .returned v ∧ (Q6_1 Z a0 a1 h0 n0) v U'.heap L ∧ FrameEnd U o U' L ({ frames := 1, cells := 0, slots := 0, locals := 12 } : Room).cells ({ frames := 1, cells := 0, slots := 0, locals := 12 } : Room).slots) := by
  refine MetFree.of_bodySF (plainFor_of_name own_pn2) hisR ?_
  intro p e s m args below meth c s₁ Bd hml0 hP hK
  obtain ⟨rfl, hZ, hh⟩ := hP
  have hx := Bd.exec
  have hby := Bd.bytes
  have hml : c.maxLocals = 3 := hml0
  have hown : s.vm.findClass "java/lang/String" = some m.cls := findClass_of_methodNamed Bd.named
  have hnm := (name_of_methodNamed Bd.named Bd.method).1
  have hlk : meth.locks = false := BodyLoose.notSynchronized (by assumption)
  have X0 : Stand p l e ({ frames := 1, cells := 0, slots := 0, locals := 12 } : Room) s m #[(.ref a0), (.ref a1), (.int (1 : Int32))] below meth c s₁ [] 0 0 := Stand.of_body Bd
  have e0 : s₁.heap = h0 := by rw [← hh, Bd.state]; rfl
  have N0 := Fr.nil n0
  show own_Done p e below s (Q6_1 Z a0 a1 h0 n0) ({ frames := 1, cells := 0, slots := 0, locals := 12 } : Room).cells ({ frames := 1, cells := 0, slots := 0, locals := 12 } : Room).slots (s₁.setTop (entryFrame m #[(.ref a0), (.ref a1), (.int (1 : Int32))] 3))
  refine own_go (U' := s₁.setTop (mkF m 0 #[.val (.ref a0), .val (.ref a1), .val (.int (1 : Int32))] [])) (fun _ k => castTop (own_ef6_1 m a0 a1) k) ?_
  refine own_go (U' := s₁.setTop (mkF m 1 #[.val (.ref a0), .val (.ref a1), .val (.int (1 : Int32))] [(.ref a0)])) (fun _ k => XS.aloadN X0.here hx rfl (hb hby d6_0) rfl rfl k) ?_
  obtain ⟨T19, X19, e19, st19⟩ := initO X0 hx hZ hown (hw _ (own_mem 28 rfl)) (hw _ (own_mem 29 rfl)) (hw _ (own_mem 30 rfl)) e0 (g := (mkF m 1 #[.val (.ref a0), .val (.ref a1), .val (.int (1 : Int32))] [(.ref a0)])) rfl (by rw [hml]; rfl) rfl (hb hby d6_1) (by decide) (W := 0) (by show 2 * 0 + _ ≤ _; exact Nat.le_of_eq rfl) (by decide)
  refine own_go (U' := T19.setTop (mkF m 4 #[.val (.ref a0), .val (.ref a1), .val (.int (1 : Int32))] [])) (fun _ k => st19 _ k) ?_
  refine own_go (U' := T19.setTop (mkF m 6 #[.val (.ref a0), .val (.ref a1), .val (.int (1 : Int32))] [(.ref a1), (.ref a0)])) (fun _ k => XS.aloadN X19.here hx rfl (hb hby d6_4) rfl rfl (XS.aloadN X19.here hx rfl (hb hby d6_5) rfl rfl k)) ?_
  obtain ⟨T20, h20, X20, e20, W20, st20⟩ := putF X19 hx hZ hown (host := "") (Or.inl (hw _ (own_mem 31 rfl))) Via.refl e19 F_v E_a (Or.inr ⟨(hw _ (own_mem 32 rfl)), rfl, hnm⟩) (hw _ (own_mem 19 rfl)) (ty := (.array .byte)) (by decide) rfl rfl (g := (mkF m 6 #[.val (.ref a0), .val (.ref a1), .val (.int (1 : Int32))] [(.ref a1), (.ref a0)])) rfl rfl (hb hby d6_6)
  have c20_0 := E_a.wr W20
  have c20_2 := F_c.other W20 (Or.inr (slot_ne (Or.inr (hw _ (own_mem 34 rfl))) (Or.inr (hw _ (own_mem 32 rfl))) (by decide) (t := .byte) (t' := (.array .byte)) (by decide) (by decide)))
  have w20 : Fld Z h20 a0 "java/lang/String" "value" "[B" (.ref a1) := F_v.same W20
  have Z20 : n0 ≤ h20.size := Nat.le_trans Z0 (Keep.of_wr W20).1
  have K20 := Keep.wr (Keep.refl h0 [a0]) W20 (Or.inl (by simp))
  have N20 := Fr.snoc X20 N0 g_a0
  refine own_go (U' := T20.setTop (mkF m 9 #[.val (.ref a0), .val (.ref a1), .val (.int (1 : Int32))] [])) (fun _ k => st20 _ k) ?_
  refine own_go (U' := T20.setTop (mkF m 11 #[.val (.ref a0), .val (.ref a1), .val (.int (1 : Int32))] [(.int (1 : Int32)), (.ref a0)])) (fun _ k => XS.aloadN X20.here hx rfl (hb hby d6_9) rfl rfl (XS.iloadN X20.here hx rfl (hb hby d6_10) rfl k)) ?_
  obtain ⟨T21, h21, X21, e21, W21, st21⟩ := putFN X20 hx hZ hown (hw _ (own_mem 33 rfl)) Via.refl e20 c20_2 c20_0 (Or.inr ⟨(hw _ (own_mem 34 rfl)), rfl, hnm⟩) (hw _ (own_mem 19 rfl)) (ty := .byte) (v' := (.int (1 : Int32))) (by decide) rfl (fits_nar_byte (1 : Int32)) (g := (mkF m 11 #[.val (.ref a0), .val (.ref a1), .val (.int (1 : Int32))] [(.int (1 : Int32)), (.ref a0)])) rfl rfl (hb hby d6_11)
  have c21_0 := c20_0.wr W21
  have c21_1 := w20.other W21 (Or.inr (slot_ne (Or.inr (hw _ (own_mem 32 rfl))) (Or.inr (hw _ (own_mem 34 rfl))) (by decide) (t := (.array .byte)) (t' := .byte) (by decide) (by decide)))
  have w21 : Fld Z h21 a0 "java/lang/String" "coder" "B" (.int (1 : Int32)) := c20_2.same W21
  have Z21 : n0 ≤ h21.size := Nat.le_trans Z20 (Keep.of_wr W21).1
  have K21 := Keep.wr K20 W21 (Or.inl (by simp))
  have N21 := Fr.snoc X21 N20 g_a0
  refine own_go (U' := T21.setTop (mkF m 14 #[.val (.ref a0), .val (.ref a1), .val (.int (1 : Int32))] [])) (fun _ k => st21 _ k) ?_
  refine own_ret X21 (v := none) hlk (fun _ => rfl) (by decide) (by decide) (fun fs hr => X21.returnOut hx Bd.returns (hb hby d6_14) hr) ?_
  show (Q6_1 Z a0 a1 h0 n0) _ T21.heap _
  rw [e21]
  exact ⟨rfl, N21, K21, c21_0, w21, c21_1⟩

/-- a String of one char -/
def own_S (Z : State) (h : Heap) (r : Addr) : Prop := ∃ (b : Addr) (k : ClassId) (co z : Int32) (f : Int32 → Int32), Exa Z h r "java/lang/String" ∧ Fld Z h r "java/lang/String" "coder" "B" (.int co) ∧ Fld Z h r "java/lang/String" "value" "[B" (.ref b) ∧ own_Arf Z h b k .byte z f ∧ (co = 0 ∧ z = 1 ∨ co = 1 ∧ z = 2)
theorem own_S.keep {Z : State} {h h' : Heap} {r : Addr} (S : own_S Z h r) (K : Keep h h' []) : own_S Z h' r := by
  obtain ⟨b, k, co, z, f, E, C, V, A, q⟩ := S
  exact ⟨b, k, co, z, f, E.keep K, C.keep K nin0, V.keep K nin0, A.keep K nin0, q⟩
theorem own_S.keepA {Z : State} {aw : Array Value} (hw : ∀ d ∈ tables_1, d.before aw Z = true) {h h' : Heap} {r a : Addr} (S : own_S Z h r) (K : Keep h h' [a]) (X : Exa Z h a "com/example/hashtory/hashtory/Arguments") : own_S Z h' r := by
  obtain ⟨b, k, co, z, f, E, C, V, A, q⟩ := S
  have n1 : r ≠ a := ne_exa E X (by decide)
  have n2 : b ≠ a := by
    obtain ⟨c, A1, -⟩ := A
    exact (ne_arr X (hw _ (List.mem_of_getElem? (i := 60) rfl)) A1).symm
  exact ⟨b, k, co, z, f, E.keep K, C.keep K (ninS n1 nin0), V.keep K (ninS n1 nin0), A.keep K (ninS n2 nin0), q⟩

theorem d3_0 : decode jdk_42_method_139_code 0 = .ok (.getstatic 38, 3) := by decide +kernel
theorem d3_3 : decode jdk_42_method_139_code 3 = .ok (.ifCond .eq 23, 3) := by decide +kernel
theorem d3_6 : decode jdk_42_method_139_code 6 = .ok (.iload_n 0, 1) := by decide +kernel
theorem d3_7 : decode jdk_42_method_139_code 7 = .ok (.invokestatic 1015, 3) := by decide +kernel
theorem own_pd1 : parseMethodDescriptor "(C)Z" = some ⟨[.char], some .boolean⟩ := by decide +kernel
theorem d3_10 : decode jdk_42_method_139_code 10 = .ok (.ifCond .eq 16, 3) := by decide +kernel
theorem d3_26 : decode jdk_42_method_139_code 26 = .ok (.new 10, 3) := by decide +kernel
theorem d3_29 : decode jdk_42_method_139_code 29 = .ok (.dup, 1) := by decide +kernel
theorem d3_30 : decode jdk_42_method_139_code 30 = .ok (.iload_n 0, 1) := by decide +kernel
theorem d3_31 : decode jdk_42_method_139_code 31 = .ok (.invokestatic 1021, 3) := by decide +kernel
theorem own_pd2 : parseMethodDescriptor "(C)[B" = some ⟨[.char], some (.array .byte)⟩ := by decide +kernel
theorem d3_34 : decode jdk_42_method_139_code 34 = .ok (.iconst 1, 1) := by decide +kernel
theorem d3_35 : decode jdk_42_method_139_code 35 = .ok (.invokespecial 209, 3) := by decide +kernel
theorem own_pd3 : parseMethodDescriptor "([BB)V" = some ⟨[(.array .byte), .byte], none⟩ := by decide +kernel
theorem d3_38 : decode jdk_42_method_139_code 38 = .ok (.areturn, 1) := by decide +kernel
theorem d3_13 : decode jdk_42_method_139_code 13 = .ok (.new 10, 3) := by decide +kernel
theorem d3_16 : decode jdk_42_method_139_code 16 = .ok (.dup, 1) := by decide +kernel
theorem d3_17 : decode jdk_42_method_139_code 17 = .ok (.iload_n 0, 1) := by decide +kernel
theorem d3_18 : decode jdk_42_method_139_code 18 = .ok (.invokestatic 1018, 3) := by decide +kernel
theorem d3_21 : decode jdk_42_method_139_code 21 = .ok (.iconst 0, 1) := by decide +kernel
theorem d3_22 : decode jdk_42_method_139_code 22 = .ok (.invokespecial 209, 3) := by decide +kernel
theorem d3_25 : decode jdk_42_method_139_code 25 = .ok (.areturn, 1) := by decide +kernel
theorem own_ef3 (m : MethodId) (x0 : Int32) : entryFrame m #[(.int x0)] 1 = mkF m 0 #[.val (.int x0)] [] := by first | (simp [entryFrame, mkF, argsToLocals, Value.category]; done) | rfl
def Q3 (Z : State) (p0 : Int32) (cs : Int32) (h0 : Heap) (n0 : Nat) (v : Option Value) (h : Heap) (L : List Loc) : Prop := ∃ r : Addr, v = some (.ref r) ∧ Fr n0 L ∧ Keep h0 h [] ∧ h0.size ≤ r ∧ Exa Z h r "java/lang/String" ∧ own_S Z h r
set_option maxRecDepth 65536 in
set_option maxHeartbeats 40000000 in
theorem rm3 (l : Launch) (Z : State) (aw : Array Value) (hw : ∀ d ∈ tables_1, d.before aw Z = true) (ws : List Jvm.Cond) (p0 : Int32) (cs : Int32) (h0 : Heap) (n0 : Nat) (Z0 : n0 ≤ h0.size) (S_cs : Sta Z h0 "java/lang/String" "COMPACT_STRINGS" "Z" (.int cs)) (S_ad : Sta Z h0 "java/lang/StringUTF16" "$assertionsDisabled" "Z" (.int (1 : Int32))) (S_hi : Sta Z h0 "java/lang/StringUTF16" "HI_BYTE_SHIFT" "I" (.int (0 : Int32))) (S_lo : Sta Z h0 "java/lang/StringUTF16" "LO_BYTE_SHIFT" "I" (.int (8 : Int32))) (hcs : ¬ (cs = (0 : Int32))) :
    MetFree l (⟨"java/lang/String", "valueOf", "(C)Ljava/lang/String;"⟩ : MethodName) (head1 (Jvm.Cond.code (⟨"java/lang/String", "valueOf", "(C)Ljava/lang/String;"⟩ : MethodName) jdk_42_method_139_code 1 (some (.object "java/lang/String")) :: ws) ({ frames := 2, cells := 2, slots := 6, locals := 29 } : Room)) (fun a U => a = #[(.int p0)] ∧ Z.Warmed39 U.vm ∧ U.heap = h0) (fun _ _ _ _ _ => True) (fun _ U o U' => ∃ v L, o = .returned v ∧ (Q3 Z p0 cs h0 n0) v U'.heap L ∧ FrameEnd U o U' L ({ frames := 2, cells := 2, slots := 6, locals := 29 } : Room).cells ({ frames := 2, cells := 2, slots := 6, locals := 29 } : Room).slots) := by
  refine MetFree.of_bodySF (plainFor_of_name own_pn2) hisR ?_
  intro p e s m args below meth c s₁ Bd hml0 hP hK
  obtain ⟨rfl, hZ, hh⟩ := hP
  have hx := Bd.exec
  have hby := Bd.bytes
  have hml : c.maxLocals = 1 := hml0
  have hown : s.vm.findClass "java/lang/String" = some m.cls := findClass_of_methodNamed Bd.named
  have hnm := (name_of_methodNamed Bd.named Bd.method).1
  have hlk : meth.locks = false := BodyLoose.notSynchronized (by assumption)
  have X0 : Stand p l e ({ frames := 2, cells := 2, slots := 6, locals := 29 } : Room) s m #[(.int p0)] below meth c s₁ [] 0 0 := Stand.of_body Bd
  have e0 : s₁.heap = h0 := by rw [← hh, Bd.state]; rfl
  have N0 := Fr.nil n0
  show own_Done p e below s (Q3 Z p0 cs h0 n0) ({ frames := 2, cells := 2, slots := 6, locals := 29 } : Room).cells ({ frames := 2, cells := 2, slots := 6, locals := 29 } : Room).slots (s₁.setTop (entryFrame m #[(.int p0)] 1))
  refine own_go (U' := s₁.setTop (mkF m 0 #[.val (.int p0)] [])) (fun _ k => castTop (own_ef3 m p0) k) ?_
  obtain ⟨T22, X22, e22, st22⟩ := getS2 X0 hx hZ hown (host := "") (Or.inl (hw _ (own_mem 13 rfl))) Via.refl e0 S_cs (g := (mkF m 0 #[.val (.int p0)] [])) rfl (hb hby d3_0)
  refine own_go (U' := T22.setTop (mkF m 3 #[.val (.int p0)] [(.int cs)])) (fun _ k => st22 _ k) ?_
  refine own_go (U' := T22.setTop (mkF m 7 #[.val (.int p0)] [(.int p0)])) (fun _ k => XS.ifNo X22.here hx rfl (hb hby d3_3) rfl ((if0 _ _).trans (feq hcs).1) (XS.iloadN X22.here hx rfl (hb hby d3_6) rfl k)) ?_
  obtain ⟨_, _, ⟨T23, L23, k23, n23⟩, -, X23, ⟨Lc23, hQ23, l23, y23, z23⟩, st23⟩ := Jvm.LawKit.callS X22 hx (y := (⟨"java/lang/StringLatin1", "canEncode", "(C)Z"⟩ : MethodName)) hown (mvT hZ (hw _ (own_mem 14 rfl))) (mvT hZ (hw _ (own_mem 15 rfl))) (mvT hZ (hw _ (own_mem 16 rfl))) (mvT hZ (hw _ (own_mem 17 rfl))) (by decide) (backOf (W := 0) (rm4 l Z aw hw [] p0 h0 n0 Z0 ) hZ (hw _ (own_mem 17 rfl)) (hw _ (own_mem 16 rfl)) (by decide) (by decide)) (g := (mkF m 7 #[.val (.int p0)] [(.int p0)])) rfl (by rw [hml]; rfl) (argsL := [(.int p0)]) (rest := []) (lenOf own_pd1 rfl) rfl (by show 2 * 0 + _ ≤ _; exact Nat.le_of_eq rfl) (hb hby d3_7) (fun _ _ => ⟨rfl, e22, (by decide : 0 + 0 ≤ _), (by decide : 0 + 0 ≤ _)⟩)
  dsimp only [Pt.U, Pt.locs, Pt.cells, Pt.slots] at X23 l23 y23 z23 st23 hQ23
  subst l23 y23 z23
  obtain ⟨rfl, N23q, e23⟩ := hQ23
  have N23 := Fr.app N0 N23q
  refine own_go (U' := T23.setTop (mkF m 10 #[.val (.int p0)] [(.int (f_4 p0))])) (fun _ k => st23 _ k) ?_
  by_cases hc10_24 : (f_4 p0) = (0 : Int32)
  ·refine own_go (U' := T23.setTop (mkF m 26 #[.val (.int p0)] [])) (fun _ k => XS.ifYes X23.here hx rfl (pc0 := 10) (pc' := 26) rfl (hb hby d3_10) rfl ((if0 _ _).trans (teq hc10_24).1) (by decide) (by decide) k) ?_
   obtain ⟨T25, h25, X25, e25, E25, A25, D25, -, st25⟩ := newO X23 hx hZ hown (hw _ (own_mem 18 rfl)) (hw _ (own_mem 19 rfl)) (hw _ (own_mem 11 rfl)) e23 (g := (mkF m 26 #[.val (.int p0)] [])) rfl (hb hby d3_26) (by decide) (by decide)
   obtain ⟨b25, g25⟩ : ∃ z, z = h0.size := ⟨_, rfl⟩
   have g_b25 : n0 ≤ b25 := Nat.le_trans Z0 (Nat.le_of_eq g25.symm)
   have sz_b25 : h0.size ≤ b25 := Nat.le_trans (Keep.refl h0 []).1 (Nat.le_of_eq g25.symm)
   rw [← g25] at A25 D25 st25
   have c25_0 := S_cs.ext E25
   have c25_1 := S_ad.ext E25
   have c25_2 := S_hi.ext E25
   have c25_3 := S_lo.ext E25
   have Z25 : n0 ≤ h25.size := Nat.le_trans Z0 E25.1
   have K25 := Keep.ext (Keep.refl h0 []) E25
   have F25_32 : Fld Z h25 b25 "java/lang/String" "value" "[B" .null := D25 (Or.inr (hw _ (own_mem 32 rfl))) (ty := (.array .byte)) (by decide)
   have F25_34 : Fld Z h25 b25 "java/lang/String" "coder" "B" (.int (0 : Int32)) := D25 (Or.inr (hw _ (own_mem 34 rfl))) (ty := .byte) (by decide)
   refine own_go (U' := T25.setTop (mkF m 29 #[.val (.int p0)] [(.ref b25)])) (fun _ k => st25 _ k) ?_
   refine own_go (U' := T25.setTop (mkF m 31 #[.val (.int p0)] [(.int p0), (.ref b25), (.ref b25)])) (fun _ k => XS.dup X25.here hx rfl (hb hby d3_29) rfl rfl (XS.iloadN X25.here hx rfl (hb hby d3_30) rfl k)) ?_
   obtain ⟨_, _, ⟨T26, L26, k26, n26⟩, -, X26, ⟨Lc26, hQ26, l26, y26, z26⟩, st26⟩ := Jvm.LawKit.callS X25 hx (y := (⟨"java/lang/StringUTF16", "toBytes", "(C)[B"⟩ : MethodName)) hown (mvT hZ (hw _ (own_mem 188 rfl))) (mvT hZ (hw _ (own_mem 189 rfl))) (mvT hZ (hw _ (own_mem 190 rfl))) (mvT hZ (hw _ (own_mem 191 rfl))) (by decide) (backOf (W := 2) (rm29 l Z aw hw [] p0 h25 n0 Z25 c25_1 c25_2 c25_3) hZ (hw _ (own_mem 191 rfl)) (hw _ (own_mem 190 rfl)) (by decide) (by decide)) (g := (mkF m 31 #[.val (.int p0)] [(.int p0), (.ref b25), (.ref b25)])) rfl (by rw [hml]; rfl) (argsL := [(.int p0)]) (rest := [(.ref b25), (.ref b25)]) (lenOf own_pd2 rfl) rfl (by show 2 * 0 + _ ≤ _; exact Nat.le_of_eq rfl) (hb hby d3_31) (fun _ _ => ⟨rfl, e25, (by decide : 1 + 1 ≤ _), (by decide : 4 + 2 ≤ _)⟩)
   dsimp only [Pt.U, Pt.locs, Pt.cells, Pt.slots] at X26 l26 y26 z26 st26 hQ26
   subst l26 y26 z26
   obtain ⟨r26, kr26, fr26, rfl, N26q, K26q, sr26, xV26⟩ := hQ26
   have N26 := Fr.app N23 N26q
   have ne_b25_r26 : b25 ≠ r26 := Nat.ne_of_lt (Nat.lt_of_lt_of_le A25.lt sr26)
   have g_r26 : n0 ≤ r26 := Nat.le_trans Z25 sr26
   have sz_r26 : h0.size ≤ r26 := Nat.le_trans K25.1 sr26
   have c26_0 := own_sta_keep c25_0 K26q
   have c26_1 := own_sta_keep c25_1 K26q
   have c26_2 := own_sta_keep c25_2 K26q
   have c26_3 := own_sta_keep c25_3 K26q
   have c26_4 := A25.keep K26q
   have c26_5 := F25_32.keep K26q nin0
   have c26_6 := F25_34.keep K26q nin0
   have Z26 : n0 ≤ T26.heap.size := Nat.le_trans Z25 K26q.1
   have K26 := Keep.trans K25 K26q all0
   refine own_go (U' := T26.setTop (mkF m 34 #[.val (.int p0)] [(.ref r26), (.ref b25), (.ref b25)])) (fun _ k => st26 _ k) ?_
   refine own_go (U' := T26.setTop (mkF m 35 #[.val (.int p0)] [(.int (1 : Int32)), (.ref r26), (.ref b25), (.ref b25)])) (fun _ k => XS.iconst X26.here hx rfl (hb hby d3_34) k) ?_
   obtain ⟨_, _, ⟨T27, L27, k27, n27⟩, -, X27, ⟨Lc27, hQ27, l27, y27, z27⟩, st27⟩ := X26.specialBack hx (y := (⟨"java/lang/String", "<init>", "([BB)V"⟩ : MethodName)) rfl hown (mvT hZ (hw _ (own_mem 24 rfl))) (mvT hZ (hw _ (own_mem 25 rfl))) (mvT hZ (hw _ (own_mem 27 rfl))) (by decide) (backOf (W := 1) (rm6_1 l Z aw hw [] b25 r26 T26.heap n0 Z26 c26_4 c26_5 c26_6 (by first | assumption | decide | rfl)) hZ (hw _ (own_mem 27 rfl)) (hw _ (own_mem 11 rfl)) (by decide) (by decide)) (g := (mkF m 35 #[.val (.int p0)] [(.int (1 : Int32)), (.ref r26), (.ref b25), (.ref b25)])) rfl (by rw [hml]; rfl) (Steps.refl _) (a := b25) (argsL := [(.ref r26), (.int (1 : Int32))]) (rest := [(.ref b25)]) (lenOf own_pd3 rfl) rfl (by show 2 * 0 + _ ≤ _; exact Nat.le_of_eq rfl) (hb hby d3_35) (fun _ _ => ⟨rfl, rfl, (by decide : 2 + 0 ≤ _), (by decide : 6 + 0 ≤ _)⟩)
   dsimp only [Pt.U, Pt.locs, Pt.cells, Pt.slots] at X27 l27 y27 z27 st27 hQ27
   subst l27 y27 z27
   obtain ⟨rfl, N27q, K27q, xE27, xC27, xV27⟩ := hQ27
   have N27 := Fr.app N26 N27q
   have c27_0 := own_sta_keepX c26_0 K27q (allS c26_4.nostat all0)
   have c27_1 := own_sta_keepX c26_1 K27q (allS c26_4.nostat all0)
   have c27_2 := own_sta_keepX c26_2 K27q (allS c26_4.nostat all0)
   have c27_3 := own_sta_keepX c26_3 K27q (allS c26_4.nostat all0)
   have c27_4 := c26_4.keep K27q
   have c27_7 := xV26.keep K27q (ninS (Ne.symm ne_b25_r26) nin0)
   have Z27 : n0 ≤ T27.heap.size := Nat.le_trans Z26 K27q.1
   have K27 := Keep.trans K26 K27q (allS (Or.inr sz_b25) all0)
   refine own_go (U' := T27.setTop (mkF m 38 #[.val (.int p0)] [(.ref b25)])) (fun _ k => st27.trans k) ?_
   refine own_ret X27 (v := (some (.ref b25))) hlk (fun h => by rw [Bd.returns] at h; cases h) (by decide) (by decide) (fun fs hr => own_retR X27 hx Bd.returns rfl rfl rfl (hb hby d3_38) hr) ?_
   show (Q3 Z p0 cs h0 n0) _ T27.heap _
   exact ⟨_, rfl, N27, K27, sz_b25, xE27, ⟨_, _, _, _, _, xE27, xC27, xV27, c27_7, by decide⟩⟩
  ·refine own_go (U' := T23.setTop (mkF m 13 #[.val (.int p0)] [])) (fun _ k => XS.ifNo X23.here hx rfl (hb hby d3_10) rfl ((if0 _ _).trans (feq hc10_24).1) k) ?_
   obtain ⟨T28, h28, X28, e28, E28, A28, D28, -, st28⟩ := newO X23 hx hZ hown (hw _ (own_mem 18 rfl)) (hw _ (own_mem 19 rfl)) (hw _ (own_mem 11 rfl)) e23 (g := (mkF m 13 #[.val (.int p0)] [])) rfl (hb hby d3_13) (by decide) (by decide)
   obtain ⟨b28, g28⟩ : ∃ z, z = h0.size := ⟨_, rfl⟩
   have g_b28 : n0 ≤ b28 := Nat.le_trans Z0 (Nat.le_of_eq g28.symm)
   have sz_b28 : h0.size ≤ b28 := Nat.le_trans (Keep.refl h0 []).1 (Nat.le_of_eq g28.symm)
   rw [← g28] at A28 D28 st28
   have c28_0 := S_cs.ext E28
   have c28_1 := S_ad.ext E28
   have c28_2 := S_hi.ext E28
   have c28_3 := S_lo.ext E28
   have Z28 : n0 ≤ h28.size := Nat.le_trans Z0 E28.1
   have K28 := Keep.ext (Keep.refl h0 []) E28
   have F28_32 : Fld Z h28 b28 "java/lang/String" "value" "[B" .null := D28 (Or.inr (hw _ (own_mem 32 rfl))) (ty := (.array .byte)) (by decide)
   have F28_34 : Fld Z h28 b28 "java/lang/String" "coder" "B" (.int (0 : Int32)) := D28 (Or.inr (hw _ (own_mem 34 rfl))) (ty := .byte) (by decide)
   refine own_go (U' := T28.setTop (mkF m 16 #[.val (.int p0)] [(.ref b28)])) (fun _ k => st28 _ k) ?_
   refine own_go (U' := T28.setTop (mkF m 18 #[.val (.int p0)] [(.int p0), (.ref b28), (.ref b28)])) (fun _ k => XS.dup X28.here hx rfl (hb hby d3_16) rfl rfl (XS.iloadN X28.here hx rfl (hb hby d3_17) rfl k)) ?_
   obtain ⟨_, _, ⟨T29, L29, k29, n29⟩, -, X29, ⟨Lc29, hQ29, l29, y29, z29⟩, st29⟩ := Jvm.LawKit.callS X28 hx (y := (⟨"java/lang/StringLatin1", "toBytes", "(C)[B"⟩ : MethodName)) hown (mvT hZ (hw _ (own_mem 20 rfl))) (mvT hZ (hw _ (own_mem 21 rfl))) (mvT hZ (hw _ (own_mem 16 rfl))) (mvT hZ (hw _ (own_mem 22 rfl))) (by decide) (backOf (W := 2) (rm5 l Z aw hw [] p0 h28 n0 Z28 ) hZ (hw _ (own_mem 22 rfl)) (hw _ (own_mem 16 rfl)) (by decide) (by decide)) (g := (mkF m 18 #[.val (.int p0)] [(.int p0), (.ref b28), (.ref b28)])) rfl (by rw [hml]; rfl) (argsL := [(.int p0)]) (rest := [(.ref b28), (.ref b28)]) (lenOf own_pd2 rfl) rfl (by show 2 * 0 + _ ≤ _; exact Nat.le_of_eq rfl) (hb hby d3_18) (fun _ _ => ⟨rfl, e28, (by decide : 1 + 1 ≤ _), (by decide : 4 + 1 ≤ _)⟩)
   dsimp only [Pt.U, Pt.locs, Pt.cells, Pt.slots] at X29 l29 y29 z29 st29 hQ29
   subst l29 y29 z29
   obtain ⟨r29, kr29, fr29, rfl, N29q, K29q, sr29, xV29⟩ := hQ29
   have N29 := Fr.app N23 N29q
   have ne_b28_r29 : b28 ≠ r29 := Nat.ne_of_lt (Nat.lt_of_lt_of_le A28.lt sr29)
   have g_r29 : n0 ≤ r29 := Nat.le_trans Z28 sr29
   have sz_r29 : h0.size ≤ r29 := Nat.le_trans K28.1 sr29
   have c29_0 := own_sta_keep c28_0 K29q
   have c29_1 := own_sta_keep c28_1 K29q
   have c29_2 := own_sta_keep c28_2 K29q
   have c29_3 := own_sta_keep c28_3 K29q
   have c29_4 := A28.keep K29q
   have c29_5 := F28_32.keep K29q nin0
   have c29_6 := F28_34.keep K29q nin0
   have Z29 : n0 ≤ T29.heap.size := Nat.le_trans Z28 K29q.1
   have K29 := Keep.trans K28 K29q all0
   refine own_go (U' := T29.setTop (mkF m 21 #[.val (.int p0)] [(.ref r29), (.ref b28), (.ref b28)])) (fun _ k => st29 _ k) ?_
   refine own_go (U' := T29.setTop (mkF m 22 #[.val (.int p0)] [(.int (0 : Int32)), (.ref r29), (.ref b28), (.ref b28)])) (fun _ k => XS.iconst X29.here hx rfl (hb hby d3_21) k) ?_
   obtain ⟨_, _, ⟨T30, L30, k30, n30⟩, -, X30, ⟨Lc30, hQ30, l30, y30, z30⟩, st30⟩ := X29.specialBack hx (y := (⟨"java/lang/String", "<init>", "([BB)V"⟩ : MethodName)) rfl hown (mvT hZ (hw _ (own_mem 24 rfl))) (mvT hZ (hw _ (own_mem 25 rfl))) (mvT hZ (hw _ (own_mem 27 rfl))) (by decide) (backOf (W := 1) (rm6_0 l Z aw hw [] b28 r29 T29.heap n0 Z29 c29_4 c29_5 c29_6 (by first | assumption | decide | rfl)) hZ (hw _ (own_mem 27 rfl)) (hw _ (own_mem 11 rfl)) (by decide) (by decide)) (g := (mkF m 22 #[.val (.int p0)] [(.int (0 : Int32)), (.ref r29), (.ref b28), (.ref b28)])) rfl (by rw [hml]; rfl) (Steps.refl _) (a := b28) (argsL := [(.ref r29), (.int (0 : Int32))]) (rest := [(.ref b28)]) (lenOf own_pd3 rfl) rfl (by show 2 * 0 + _ ≤ _; exact Nat.le_of_eq rfl) (hb hby d3_22) (fun _ _ => ⟨rfl, rfl, (by decide : 2 + 0 ≤ _), (by decide : 5 + 0 ≤ _)⟩)
   dsimp only [Pt.U, Pt.locs, Pt.cells, Pt.slots] at X30 l30 y30 z30 st30 hQ30
   subst l30 y30 z30
   obtain ⟨rfl, N30q, K30q, xE30, xC30, xV30⟩ := hQ30
   have N30 := Fr.app N29 N30q
   have c30_0 := own_sta_keepX c29_0 K30q (allS c29_4.nostat all0)
   have c30_1 := own_sta_keepX c29_1 K30q (allS c29_4.nostat all0)
   have c30_2 := own_sta_keepX c29_2 K30q (allS c29_4.nostat all0)
   have c30_3 := own_sta_keepX c29_3 K30q (allS c29_4.nostat all0)
   have c30_4 := c29_4.keep K30q
   have c30_7 := xV29.keep K30q (ninS (Ne.symm ne_b28_r29) nin0)
   have Z30 : n0 ≤ T30.heap.size := Nat.le_trans Z29 K30q.1
   have K30 := Keep.trans K29 K30q (allS (Or.inr sz_b28) all0)
   refine own_go (U' := T30.setTop (mkF m 25 #[.val (.int p0)] [(.ref b28)])) (fun _ k => st30.trans k) ?_
   refine own_ret X30 (v := (some (.ref b28))) hlk (fun h => by rw [Bd.returns] at h; cases h) (by decide) (by decide) (fun fs hr => own_retR X30 hx Bd.returns rfl rfl rfl (hb hby d3_25) hr) ?_
   show (Q3 Z p0 cs h0 n0) _ T30.heap _
   exact ⟨_, rfl, N30, K30, sz_b28, xE30, ⟨_, _, _, _, _, xE30, xC30, xV30, c30_7, by decide⟩⟩
theorem d27_0 : decode jdk_42_method_152_code 0 = .ok (.getstatic 38, 3) := by decide +kernel
theorem d27_3 : decode jdk_42_method_152_code 3 = .ok (.ifCond .eq 10, 3) := by decide +kernel
theorem d27_6 : decode jdk_42_method_152_code 6 = .ok (.aload_n 0, 1) := by decide +kernel
theorem d27_7 : decode jdk_42_method_152_code 7 = .ok (.getfield 15, 3) := by decide +kernel
theorem d27_10 : decode jdk_42_method_152_code 10 = .ok (.goto 4, 3) := by decide +kernel
theorem d27_14 : decode jdk_42_method_152_code 14 = .ok (.ireturn, 1) := by decide +kernel
theorem own_ef27 (m : MethodId) (x0 : Addr) : entryFrame m #[(.ref x0)] 1 = mkF m 0 #[.val (.ref x0)] [] := by first | (simp [entryFrame, mkF, argsToLocals, Value.category]; done) | rfl
def f_27 (a0 : Addr) (cs : Int32) (co : Int32) : Int32 := (nar .byte co)
def Q27 (Z : State) (a0 : Addr) (cs : Int32) (co : Int32) (h0 : Heap) (n0 : Nat) (v : Option Value) (h : Heap) (L : List Loc) : Prop := v = some (.int (f_27 a0 cs co)) ∧ Fr n0 L ∧ h = h0
set_option maxRecDepth 65536 in
set_option maxHeartbeats 40000000 in
theorem rm27 (l : Launch) (Z : State) (aw : Array Value) (hw : ∀ d ∈ tables_1, d.before aw Z = true) (ws : List Jvm.Cond) (a0 : Addr) (cs : Int32) (co : Int32) (h0 : Heap) (n0 : Nat) (Z0 : n0 ≤ h0.size) (S_cs : Sta Z h0 "java/lang/String" "COMPACT_STRINGS" "Z" (.int cs)) (F_c : Fld Z h0 a0 "java/lang/String" "coder" "B" (.int co)) (hcs : ¬ (cs = (0 : Int32))) :
    MetFree l (⟨"java/lang/String", "coder", "()B"⟩ : MethodName) (head1 (Jvm.Cond.code (⟨"java/lang/String", "coder", "()B"⟩ : MethodName) jdk_42_method_152_code 1 (some .byte) :: ws) ({ frames := 0, cells := 0, slots := 0, locals := 0 } : Room)) (fun a U => a = #[(.ref a0)] ∧ Z.Warmed39 U.vm ∧ U.heap = h0) (fun _ _ _ _ _ => True) (fun _ U o U' => ∃ v L, o = .returned v ∧ (Q27 Z a0 cs co h0 n0) v U'.heap L ∧ FrameEnd U o U' L ({ frames := 0, cells := 0, slots := 0, locals := 0 } : Room).cells ({ frames := 0, cells := 0, slots := 0, locals := 0 } : Room).slots) := by
  refine MetFree.of_bodySF (plainFor_of_name own_pn2) hisR ?_
  intro p e s m args below meth c s₁ Bd hml0 hP hK
  obtain ⟨rfl, hZ, hh⟩ := hP
  have hx := Bd.exec
  have hby := Bd.bytes
  have hml : c.maxLocals = 1 := hml0
  have hown : s.vm.findClass "java/lang/String" = some m.cls := findClass_of_methodNamed Bd.named
  have hnm := (name_of_methodNamed Bd.named Bd.method).1
  have hlk : meth.locks = false := BodyLoose.notSynchronized (by assumption)
  have X0 : Stand p l e ({ frames := 0, cells := 0, slots := 0, locals := 0 } : Room) s m #[(.ref a0)] below meth c s₁ [] 0 0 := Stand.of_body Bd
  have e0 : s₁.heap = h0 := by rw [← hh, Bd.state]; rfl
  have N0 := Fr.nil n0
  show own_Done p e below s (Q27 Z a0 cs co h0 n0) ({ frames := 0, cells := 0, slots := 0, locals := 0 } : Room).cells ({ frames := 0, cells := 0, slots := 0, locals := 0 } : Room).slots (s₁.setTop (entryFrame m #[(.ref a0)] 1))
  refine own_go (U' := s₁.setTop (mkF m 0 #[.val (.ref a0)] [])) (fun _ k => castTop (own_ef27 m a0) k) ?_
  obtain ⟨T31, X31, e31, st31⟩ := getS2 X0 hx hZ hown (host := "") (Or.inl (hw _ (own_mem 13 rfl))) Via.refl e0 S_cs (g := (mkF m 0 #[.val (.ref a0)] [])) rfl (hb hby d27_0)
  refine own_go (U' := T31.setTop (mkF m 3 #[.val (.ref a0)] [(.int cs)])) (fun _ k => st31 _ k) ?_
  refine own_go (U' := T31.setTop (mkF m 7 #[.val (.ref a0)] [(.ref a0)])) (fun _ k => XS.ifNo X31.here hx rfl (hb hby d27_3) rfl ((if0 _ _).trans (feq hcs).1) (XS.aloadN X31.here hx rfl (hb hby d27_6) rfl rfl k)) ?_
  obtain ⟨T32, X32, e32, st32⟩ := getF X31 hx hZ hown (host := "") (Or.inl (hw _ (own_mem 33 rfl))) Via.refl e31 F_c (g := (mkF m 7 #[.val (.ref a0)] [(.ref a0)])) rfl rfl (hb hby d27_7)
  refine own_go (U' := T32.setTop (mkF m 10 #[.val (.ref a0)] [(.int co)])) (fun _ k => st32 _ k) ?_
  refine own_go (U' := T32.setTop (mkF m 14 #[.val (.ref a0)] [(.int co)])) (fun _ k => XS.goto X32.here hx rfl (pc0 := 10) (pc' := 14) rfl (hb hby d27_10) (by decide) (by decide) k) ?_
  refine own_ret X32 (v := (some (.int (nar .byte co)))) hlk (fun h => by rw [Bd.returns] at h; cases h) (by decide) (by decide) (fun fs hr => retN X32 hx (t := .byte) Bd.returns (by simp) (hb hby d27_14) hr) ?_
  show (Q27 Z a0 cs co h0 n0) _ T32.heap _
  rw [e32]
  exact ⟨by first | (simp only [f_27]; done) | rfl | (simp [f_27]; done), N0, rfl⟩
theorem d26_0 : decode jdk_42_method_54_code 0 = .ok (.aload_n 0, 1) := by decide +kernel
theorem d26_1 : decode jdk_42_method_54_code 1 = .ok (.getfield 9, 3) := by decide +kernel
theorem d26_4 : decode jdk_42_method_54_code 4 = .ok (.arraylength, 1) := by decide +kernel
theorem d26_5 : decode jdk_42_method_54_code 5 = .ok (.aload_n 0, 1) := by decide +kernel
theorem d26_6 : decode jdk_42_method_54_code 6 = .ok (.invokevirtual 335, 3) := by decide +kernel
theorem own_pd4 : parseMethodDescriptor "()B" = some ⟨[], some .byte⟩ := by decide +kernel
theorem d26_9 : decode jdk_42_method_54_code 9 = .ok (.ishr, 1) := by decide +kernel
theorem d26_10 : decode jdk_42_method_54_code 10 = .ok (.ireturn, 1) := by decide +kernel
theorem own_ef26 (m : MethodId) (x0 : Addr) : entryFrame m #[(.ref x0)] 1 = mkF m 0 #[.val (.ref x0)] [] := by first | (simp [entryFrame, mkF, argsToLocals, Value.category]; done) | rfl
def Q26 (Z : State) (a0 : Addr) (cs : Int32) (h0 : Heap) (n0 : Nat) (v : Option Value) (h : Heap) (L : List Loc) : Prop := v = some (.int (1 : Int32)) ∧ Fr n0 L ∧ h = h0
set_option maxRecDepth 65536 in
set_option maxHeartbeats 40000000 in
theorem rm26 (l : Launch) (Z : State) (aw : Array Value) (hw : ∀ d ∈ tables_1, d.before aw Z = true) (ws : List Jvm.Cond) (a0 : Addr) (cs : Int32) (h0 : Heap) (n0 : Nat) (Z0 : n0 ≤ h0.size) (S_cs : Sta Z h0 "java/lang/String" "COMPACT_STRINGS" "Z" (.int cs)) (hcs : ¬ (cs = (0 : Int32))) (S_ : own_S Z h0 a0) :
    MetFree l (⟨"java/lang/String", "length", "()I"⟩ : MethodName) (head1 (Jvm.Cond.code (⟨"java/lang/String", "length", "()I"⟩ : MethodName) jdk_42_method_54_code 1 (some .int) :: ws) ({ frames := 1, cells := 0, slots := 0, locals := 13 } : Room)) (fun a U => a = #[(.ref a0)] ∧ Z.Warmed39 U.vm ∧ U.heap = h0) (fun _ _ _ _ _ => True) (fun _ U o U' => ∃ v L, o = .returned v ∧ (Q26 Z a0 cs h0 n0) v U'.heap L ∧ FrameEnd U o U' L ({ frames := 1, cells := 0, slots := 0, locals := 13 } : Room).cells ({ frames := 1, cells := 0, slots := 0, locals := 13 } : Room).slots) := by
  refine MetFree.of_bodySF (plainFor_of_name own_pn2) hisR ?_
  intro p e s m args below meth c s₁ Bd hml0 hP hK
  obtain ⟨rfl, hZ, hh⟩ := hP
  have hx := Bd.exec
  have hby := Bd.bytes
  have hml : c.maxLocals = 1 := hml0
  have hown : s.vm.findClass "java/lang/String" = some m.cls := findClass_of_methodNamed Bd.named
  have hnm := (name_of_methodNamed Bd.named Bd.method).1
  have hlk : meth.locks = false := BodyLoose.notSynchronized (by assumption)
  have X0 : Stand p l e ({ frames := 1, cells := 0, slots := 0, locals := 13 } : Room) s m #[(.ref a0)] below meth c s₁ [] 0 0 := Stand.of_body Bd
  have e0 : s₁.heap = h0 := by rw [← hh, Bd.state]; rfl
  have N0 := Fr.nil n0
  show own_Done p e below s (Q26 Z a0 cs h0 n0) ({ frames := 1, cells := 0, slots := 0, locals := 13 } : Room).cells ({ frames := 1, cells := 0, slots := 0, locals := 13 } : Room).slots (s₁.setTop (entryFrame m #[(.ref a0)] 1))
  refine own_go (U' := s₁.setTop (mkF m 0 #[.val (.ref a0)] [])) (fun _ k => castTop (own_ef26 m a0) k) ?_
  obtain ⟨b, k1, co, z, f, E_s, F_c, F_v, V_b, hcz⟩ := S_
  rcases hcz with ⟨rfl, rfl⟩ | ⟨rfl, rfl⟩
  ·refine own_go (U' := s₁.setTop (mkF m 1 #[.val (.ref a0)] [(.ref a0)])) (fun _ k => XS.aloadN X0.here hx rfl (hb hby d26_0) rfl rfl k) ?_
   obtain ⟨T33, X33, e33, st33⟩ := getF X0 hx hZ hown (host := "") (Or.inl (hw _ (own_mem 31 rfl))) Via.refl e0 F_v (g := (mkF m 1 #[.val (.ref a0)] [(.ref a0)])) rfl rfl (hb hby d26_1)
   refine own_go (U' := T33.setTop (mkF m 4 #[.val (.ref a0)] [(.ref b)])) (fun _ k => st33 _ k) ?_
   have V34 := V_b
   obtain ⟨cl34, Ar34, q34, S34, Ng34, Hh34⟩ := V34
   have hl34 := len_of S34 Ng34
   refine own_go (U' := T33.setTop (mkF m 6 #[.val (.ref a0)] [(.ref a0), (.int (1 : Int32))])) (fun _ k => X33.arraylength hx (own_cell e33 Ar34.1) (State.isArrayOf_alike hZ.alike Ar34.2.1) (g := (mkF m 4 #[.val (.ref a0)] [(.ref b)])) rfl rfl (hb hby d26_4) _ (by rw [hl34]; exact (XS.aloadN X33.here hx rfl (hb hby d26_5) rfl rfl k))) ?_
   obtain ⟨cq35, kq35, q35a, q35b, q35c⟩ := isOf hZ e33 E_s
   obtain ⟨_, _, ⟨T35, L35, k35, n35⟩, -, X35, ⟨Lc35, hQ35, l35, y35, z35⟩, st35⟩ := X33.virtualBack hx (y := (⟨"java/lang/String", "coder", "()B"⟩ : MethodName)) (z := (⟨"java/lang/String", "coder", "()B"⟩ : MethodName)) hown (mvT hZ (hw _ (own_mem 175 rfl))) (mvT hZ (hw _ (own_mem 176 rfl))) (notFace_of_selects (args := #[]) (mvT hZ (hw _ (own_mem 178 rfl)))) (mvT hZ (hw _ (own_mem 178 rfl))) (mvT hZ (hw _ (own_mem 177 rfl))) (by decide) (backOf (W := 1) (rm27 l Z aw hw [] a0 cs (0 : Int32) h0 n0 Z0 S_cs F_c (by first | assumption | decide | rfl)) hZ (hw _ (own_mem 179 rfl)) (hw _ (own_mem 11 rfl)) (by decide) (by decide)) q35a q35c (g := (mkF m 6 #[.val (.ref a0)] [(.ref a0), (.int (1 : Int32))])) rfl (by rw [hml]; rfl) (Steps.refl _) (argsL := []) (rest := [(.int (1 : Int32))]) (lenOf own_pd4 rfl) rfl (by show 2 * 0 + _ ≤ _; exact Nat.le_of_eq rfl) (hb hby d26_6) (fun _ _ => ⟨rfl, e33, (by decide : 0 + 0 ≤ _), (by decide : 0 + 0 ≤ _)⟩)
   dsimp only [Pt.U, Pt.locs, Pt.cells, Pt.slots] at X35 l35 y35 z35 st35 hQ35
   subst l35 y35 z35
   obtain ⟨rfl, N35q, e35⟩ := hQ35
   have N35 := Fr.app N0 N35q
   refine own_go (U' := T35.setTop (mkF m 9 #[.val (.ref a0)] [(.int (f_27 a0 cs (0 : Int32))), (.int (1 : Int32))])) (fun _ k => st35.trans k) ?_
   rw [show (f_27 a0 cs (0 : Int32)) = (0 : Int32) from rfl]
   refine own_go (U' := T35.setTop (mkF m 10 #[.val (.ref a0)] [(.int ((1 : Int32) >>> ((0 : Int32) &&& 31)))])) (fun _ k => XS.ishr X35.here hx rfl (hb hby d26_9) rfl k) ?_
   refine own_ret X35 (v := (some (.int ((1 : Int32) >>> ((0 : Int32) &&& 31))))) hlk (fun h => by rw [Bd.returns] at h; cases h) (by decide) (by decide) (fun fs hr => own_retI X35 hx Bd.returns (hb hby d26_10) hr) ?_
   show (Q26 Z a0 cs h0 n0) _ T35.heap _
   rw [e35]
   exact ⟨by first | rfl | decide, N35, rfl⟩
  ·refine own_go (U' := s₁.setTop (mkF m 1 #[.val (.ref a0)] [(.ref a0)])) (fun _ k => XS.aloadN X0.here hx rfl (hb hby d26_0) rfl rfl k) ?_
   obtain ⟨T36, X36, e36, st36⟩ := getF X0 hx hZ hown (host := "") (Or.inl (hw _ (own_mem 31 rfl))) Via.refl e0 F_v (g := (mkF m 1 #[.val (.ref a0)] [(.ref a0)])) rfl rfl (hb hby d26_1)
   refine own_go (U' := T36.setTop (mkF m 4 #[.val (.ref a0)] [(.ref b)])) (fun _ k => st36 _ k) ?_
   have V37 := V_b
   obtain ⟨cl37, Ar37, q37, S37, Ng37, Hh37⟩ := V37
   have hl37 := len_of S37 Ng37
   refine own_go (U' := T36.setTop (mkF m 6 #[.val (.ref a0)] [(.ref a0), (.int (2 : Int32))])) (fun _ k => X36.arraylength hx (own_cell e36 Ar37.1) (State.isArrayOf_alike hZ.alike Ar37.2.1) (g := (mkF m 4 #[.val (.ref a0)] [(.ref b)])) rfl rfl (hb hby d26_4) _ (by rw [hl37]; exact (XS.aloadN X36.here hx rfl (hb hby d26_5) rfl rfl k))) ?_
   obtain ⟨cq38, kq38, q38a, q38b, q38c⟩ := isOf hZ e36 E_s
   obtain ⟨_, _, ⟨T38, L38, k38, n38⟩, -, X38, ⟨Lc38, hQ38, l38, y38, z38⟩, st38⟩ := X36.virtualBack hx (y := (⟨"java/lang/String", "coder", "()B"⟩ : MethodName)) (z := (⟨"java/lang/String", "coder", "()B"⟩ : MethodName)) hown (mvT hZ (hw _ (own_mem 175 rfl))) (mvT hZ (hw _ (own_mem 176 rfl))) (notFace_of_selects (args := #[]) (mvT hZ (hw _ (own_mem 178 rfl)))) (mvT hZ (hw _ (own_mem 178 rfl))) (mvT hZ (hw _ (own_mem 177 rfl))) (by decide) (backOf (W := 1) (rm27 l Z aw hw [] a0 cs (1 : Int32) h0 n0 Z0 S_cs F_c (by first | assumption | decide | rfl)) hZ (hw _ (own_mem 179 rfl)) (hw _ (own_mem 11 rfl)) (by decide) (by decide)) q38a q38c (g := (mkF m 6 #[.val (.ref a0)] [(.ref a0), (.int (2 : Int32))])) rfl (by rw [hml]; rfl) (Steps.refl _) (argsL := []) (rest := [(.int (2 : Int32))]) (lenOf own_pd4 rfl) rfl (by show 2 * 0 + _ ≤ _; exact Nat.le_of_eq rfl) (hb hby d26_6) (fun _ _ => ⟨rfl, e36, (by decide : 0 + 0 ≤ _), (by decide : 0 + 0 ≤ _)⟩)
   dsimp only [Pt.U, Pt.locs, Pt.cells, Pt.slots] at X38 l38 y38 z38 st38 hQ38
   subst l38 y38 z38
   obtain ⟨rfl, N38q, e38⟩ := hQ38
   have N38 := Fr.app N0 N38q
   refine own_go (U' := T38.setTop (mkF m 9 #[.val (.ref a0)] [(.int (f_27 a0 cs (1 : Int32))), (.int (2 : Int32))])) (fun _ k => st38.trans k) ?_
   rw [show (f_27 a0 cs (1 : Int32)) = (1 : Int32) from rfl]
   refine own_go (U' := T38.setTop (mkF m 10 #[.val (.ref a0)] [(.int ((2 : Int32) >>> ((1 : Int32) &&& 31)))])) (fun _ k => XS.ishr X38.here hx rfl (hb hby d26_9) rfl k) ?_
   refine own_ret X38 (v := (some (.int ((2 : Int32) >>> ((1 : Int32) &&& 31))))) hlk (fun h => by rw [Bd.returns] at h; cases h) (by decide) (by decide) (fun fs hr => own_retI X38 hx Bd.returns (hb hby d26_10) hr) ?_
   show (Q26 Z a0 cs h0 n0) _ T38.heap _
   rw [e38]
   exact ⟨by first | rfl | decide, N38, rfl⟩
theorem own_ef26d (m : MethodId) (x0 : Addr) : entryFrame m #[(.ref x0)] 1 = mkF m 0 #[.val (.ref x0)] [] := by first | (simp [entryFrame, mkF, argsToLocals, Value.category]; done) | rfl
def Q26d (Z : State) (a0 : Addr) (cs : Int32) (b : Addr) (k1 : ClassId) (h0 : Heap) (n0 : Nat) (v : Option Value) (h : Heap) (L : List Loc) : Prop := v = some (.int (2 : Int32)) ∧ Fr n0 L ∧ h = h0
set_option maxRecDepth 65536 in
set_option maxHeartbeats 40000000 in
theorem rm26d (l : Launch) (Z : State) (aw : Array Value) (hw : ∀ d ∈ tables_1, d.before aw Z = true) (ws : List Jvm.Cond) (a0 : Addr) (cs : Int32) (b : Addr) (k1 : ClassId) (h0 : Heap) (n0 : Nat) (Z0 : n0 ≤ h0.size) (S_cs : Sta Z h0 "java/lang/String" "COMPACT_STRINGS" "Z" (.int cs)) (E_s : Exa Z h0 a0 "java/lang/String") (F_c : Fld Z h0 a0 "java/lang/String" "coder" "B" (.int (0 : Int32))) (F_v : Fld Z h0 a0 "java/lang/String" "value" "[B" (.ref b)) (V_b : Arv Z h0 b k1 .byte (2 : Int32) [(.int (45 : Int32)), (.int (45 : Int32))] (.int (0 : Int32))) (hcs : ¬ (cs = (0 : Int32))) :
    MetFree l (⟨"java/lang/String", "length", "()I"⟩ : MethodName) (head1 (Jvm.Cond.code (⟨"java/lang/String", "length", "()I"⟩ : MethodName) jdk_42_method_54_code 1 (some .int) :: ws) ({ frames := 1, cells := 0, slots := 0, locals := 13 } : Room)) (fun a U => a = #[(.ref a0)] ∧ Z.Warmed39 U.vm ∧ U.heap = h0) (fun _ _ _ _ _ => True) (fun _ U o U' => ∃ v L, o = .returned v ∧ (Q26d Z a0 cs b k1 h0 n0) v U'.heap L ∧ FrameEnd U o U' L ({ frames := 1, cells := 0, slots := 0, locals := 13 } : Room).cells ({ frames := 1, cells := 0, slots := 0, locals := 13 } : Room).slots) := by
  refine MetFree.of_bodySF (plainFor_of_name own_pn2) hisR ?_
  intro p e s m args below meth c s₁ Bd hml0 hP hK
  obtain ⟨rfl, hZ, hh⟩ := hP
  have hx := Bd.exec
  have hby := Bd.bytes
  have hml : c.maxLocals = 1 := hml0
  have hown : s.vm.findClass "java/lang/String" = some m.cls := findClass_of_methodNamed Bd.named
  have hnm := (name_of_methodNamed Bd.named Bd.method).1
  have hlk : meth.locks = false := BodyLoose.notSynchronized (by assumption)
  have X0 : Stand p l e ({ frames := 1, cells := 0, slots := 0, locals := 13 } : Room) s m #[(.ref a0)] below meth c s₁ [] 0 0 := Stand.of_body Bd
  have e0 : s₁.heap = h0 := by rw [← hh, Bd.state]; rfl
  have N0 := Fr.nil n0
  show own_Done p e below s (Q26d Z a0 cs b k1 h0 n0) ({ frames := 1, cells := 0, slots := 0, locals := 13 } : Room).cells ({ frames := 1, cells := 0, slots := 0, locals := 13 } : Room).slots (s₁.setTop (entryFrame m #[(.ref a0)] 1))
  refine own_go (U' := s₁.setTop (mkF m 0 #[.val (.ref a0)] [])) (fun _ k => castTop (own_ef26d m a0) k) ?_
  refine own_go (U' := s₁.setTop (mkF m 1 #[.val (.ref a0)] [(.ref a0)])) (fun _ k => XS.aloadN X0.here hx rfl (hb hby d26_0) rfl rfl k) ?_
  obtain ⟨T39, X39, e39, st39⟩ := getF X0 hx hZ hown (host := "") (Or.inl (hw _ (own_mem 31 rfl))) Via.refl e0 F_v (g := (mkF m 1 #[.val (.ref a0)] [(.ref a0)])) rfl rfl (hb hby d26_1)
  refine own_go (U' := T39.setTop (mkF m 4 #[.val (.ref a0)] [(.ref b)])) (fun _ k => st39 _ k) ?_
  have V40 := V_b
  obtain ⟨cl40, Ar40, q40, S40, Ng40, Hh40, G40⟩ := V40
  have hl40 := len_of S40 Ng40
  refine own_go (U' := T39.setTop (mkF m 6 #[.val (.ref a0)] [(.ref a0), (.int (2 : Int32))])) (fun _ k => X39.arraylength hx (own_cell e39 Ar40.1) (State.isArrayOf_alike hZ.alike Ar40.2.1) (g := (mkF m 4 #[.val (.ref a0)] [(.ref b)])) rfl rfl (hb hby d26_4) _ (by rw [hl40]; exact (XS.aloadN X39.here hx rfl (hb hby d26_5) rfl rfl k))) ?_
  obtain ⟨cq41, kq41, q41a, q41b, q41c⟩ := isOf hZ e39 E_s
  obtain ⟨_, _, ⟨T41, L41, k41, n41⟩, -, X41, ⟨Lc41, hQ41, l41, y41, z41⟩, st41⟩ := X39.virtualBack hx (y := (⟨"java/lang/String", "coder", "()B"⟩ : MethodName)) (z := (⟨"java/lang/String", "coder", "()B"⟩ : MethodName)) hown (mvT hZ (hw _ (own_mem 175 rfl))) (mvT hZ (hw _ (own_mem 176 rfl))) (notFace_of_selects (args := #[]) (mvT hZ (hw _ (own_mem 178 rfl)))) (mvT hZ (hw _ (own_mem 178 rfl))) (mvT hZ (hw _ (own_mem 177 rfl))) (by decide) (backOf (W := 1) (rm27 l Z aw hw [] a0 cs (0 : Int32) h0 n0 Z0 S_cs F_c (by first | assumption | decide | rfl)) hZ (hw _ (own_mem 179 rfl)) (hw _ (own_mem 11 rfl)) (by decide) (by decide)) q41a q41c (g := (mkF m 6 #[.val (.ref a0)] [(.ref a0), (.int (2 : Int32))])) rfl (by rw [hml]; rfl) (Steps.refl _) (argsL := []) (rest := [(.int (2 : Int32))]) (lenOf own_pd4 rfl) rfl (by show 2 * 0 + _ ≤ _; exact Nat.le_of_eq rfl) (hb hby d26_6) (fun _ _ => ⟨rfl, e39, (by decide : 0 + 0 ≤ _), (by decide : 0 + 0 ≤ _)⟩)
  dsimp only [Pt.U, Pt.locs, Pt.cells, Pt.slots] at X41 l41 y41 z41 st41 hQ41
  subst l41 y41 z41
  obtain ⟨rfl, N41q, e41⟩ := hQ41
  have N41 := Fr.app N0 N41q
  refine own_go (U' := T41.setTop (mkF m 9 #[.val (.ref a0)] [(.int (f_27 a0 cs (0 : Int32))), (.int (2 : Int32))])) (fun _ k => st41.trans k) ?_
  rw [show (f_27 a0 cs (0 : Int32)) = (0 : Int32) from rfl]
  refine own_go (U' := T41.setTop (mkF m 10 #[.val (.ref a0)] [(.int ((2 : Int32) >>> ((0 : Int32) &&& 31)))])) (fun _ k => XS.ishr X41.here hx rfl (hb hby d26_9) rfl k) ?_
  refine own_ret X41 (v := (some (.int ((2 : Int32) >>> ((0 : Int32) &&& 31))))) hlk (fun h => by rw [Bd.returns] at h; cases h) (by decide) (by decide) (fun fs hr => own_retI X41 hx Bd.returns (hb hby d26_10) hr) ?_
  show (Q26d Z a0 cs b k1 h0 n0) _ T41.heap _
  rw [e41]
  exact ⟨by first | rfl | decide, N41, rfl⟩
theorem d25_0 : decode jdk_42_method_75_code 0 = .ok (.iload_n 2, 1) := by decide +kernel
theorem d25_1 : decode jdk_42_method_75_code 1 = .ok (.ifCond .lt 16, 3) := by decide +kernel
theorem d25_4 : decode jdk_42_method_75_code 4 = .ok (.iload_n 2, 1) := by decide +kernel
theorem d25_5 : decode jdk_42_method_75_code 5 = .ok (.aload_n 0, 1) := by decide +kernel
theorem d25_6 : decode jdk_42_method_75_code 6 = .ok (.invokevirtual 505, 3) := by decide +kernel
theorem own_pd5 : parseMethodDescriptor "()I" = some ⟨[], some .int⟩ := by decide +kernel
theorem d25_9 : decode jdk_42_method_75_code 9 = .ok (.aload_n 1, 1) := by decide +kernel
theorem d25_10 : decode jdk_42_method_75_code 10 = .ok (.invokevirtual 505, 3) := by decide +kernel
theorem d25_13 : decode jdk_42_method_75_code 13 = .ok (.isub, 1) := by decide +kernel
theorem d25_14 : decode jdk_42_method_75_code 14 = .ok (.if_icmp .le 5, 3) := by decide +kernel
theorem d25_17 : decode jdk_42_method_75_code 17 = .ok (.iconst 0, 1) := by decide +kernel
theorem d25_18 : decode jdk_42_method_75_code 18 = .ok (.ireturn, 1) := by decide +kernel
theorem own_ef25 (m : MethodId) (x0 : Addr) (x1 : Addr) : entryFrame m #[(.ref x0), (.ref x1), (.int (0 : Int32))] 8 = mkF m 0 #[.val (.ref x0), .val (.ref x1), .val (.int (0 : Int32)), .unset, .unset, .unset, .unset, .unset] [] := by first | (simp [entryFrame, mkF, argsToLocals, Value.category]; done) | rfl
def Q25 (Z : State) (a0 : Addr) (a1 : Addr) (cs : Int32) (b : Addr) (k1 : ClassId) (h0 : Heap) (n0 : Nat) (v : Option Value) (h : Heap) (L : List Loc) : Prop := v = some (.int (0 : Int32)) ∧ Fr n0 L ∧ h = h0
set_option maxRecDepth 65536 in
set_option maxHeartbeats 40000000 in
theorem rm25 (l : Launch) (Z : State) (aw : Array Value) (hw : ∀ d ∈ tables_1, d.before aw Z = true) (ws : List Jvm.Cond) (a0 : Addr) (a1 : Addr) (cs : Int32) (b : Addr) (k1 : ClassId) (h0 : Heap) (n0 : Nat) (Z0 : n0 ≤ h0.size) (S_cs : Sta Z h0 "java/lang/String" "COMPACT_STRINGS" "Z" (.int cs)) (E_s : Exa Z h0 a0 "java/lang/String") (E_t : Exa Z h0 a1 "java/lang/String") (F_c : Fld Z h0 a1 "java/lang/String" "coder" "B" (.int (0 : Int32))) (F_v : Fld Z h0 a1 "java/lang/String" "value" "[B" (.ref b)) (V_b : Arv Z h0 b k1 .byte (2 : Int32) [(.int (45 : Int32)), (.int (45 : Int32))] (.int (0 : Int32))) (hcs : ¬ (cs = (0 : Int32))) (S_ : own_S Z h0 a0) :
    MetFree l (⟨"java/lang/String", "startsWith", "(Ljava/lang/String;I)Z"⟩ : MethodName) (head1 (Jvm.Cond.code (⟨"java/lang/String", "startsWith", "(Ljava/lang/String;I)Z"⟩ : MethodName) jdk_42_method_75_code 8 (some .boolean) :: ws) ({ frames := 2, cells := 0, slots := 0, locals := 27 } : Room)) (fun a U => a = #[(.ref a0), (.ref a1), (.int (0 : Int32))] ∧ Z.Warmed39 U.vm ∧ U.heap = h0) (fun _ _ _ _ _ => True) (fun _ U o U' => ∃ v L, o = .returned v ∧ (Q25 Z a0 a1 cs b k1 h0 n0) v U'.heap L ∧ FrameEnd U o U' L ({ frames := 2, cells := 0, slots := 0, locals := 27 } : Room).cells ({ frames := 2, cells := 0, slots := 0, locals := 27 } : Room).slots) := by
  refine MetFree.of_bodySF (plainFor_of_name own_pn2) hisR ?_
  intro p e s m args below meth c s₁ Bd hml0 hP hK
  obtain ⟨rfl, hZ, hh⟩ := hP
  have hx := Bd.exec
  have hby := Bd.bytes
  have hml : c.maxLocals = 8 := hml0
  have hown : s.vm.findClass "java/lang/String" = some m.cls := findClass_of_methodNamed Bd.named
  have hnm := (name_of_methodNamed Bd.named Bd.method).1
  have hlk : meth.locks = false := BodyLoose.notSynchronized (by assumption)
  have X0 : Stand p l e ({ frames := 2, cells := 0, slots := 0, locals := 27 } : Room) s m #[(.ref a0), (.ref a1), (.int (0 : Int32))] below meth c s₁ [] 0 0 := Stand.of_body Bd
  have e0 : s₁.heap = h0 := by rw [← hh, Bd.state]; rfl
  have N0 := Fr.nil n0
  show own_Done p e below s (Q25 Z a0 a1 cs b k1 h0 n0) ({ frames := 2, cells := 0, slots := 0, locals := 27 } : Room).cells ({ frames := 2, cells := 0, slots := 0, locals := 27 } : Room).slots (s₁.setTop (entryFrame m #[(.ref a0), (.ref a1), (.int (0 : Int32))] 8))
  refine own_go (U' := s₁.setTop (mkF m 0 #[.val (.ref a0), .val (.ref a1), .val (.int (0 : Int32)), .unset, .unset, .unset, .unset, .unset] [])) (fun _ k => castTop (own_ef25 m a0 a1) k) ?_
  refine own_go (U' := s₁.setTop (mkF m 1 #[.val (.ref a0), .val (.ref a1), .val (.int (0 : Int32)), .unset, .unset, .unset, .unset, .unset] [(.int (0 : Int32))])) (fun _ k => XS.iloadN X0.here hx rfl (hb hby d25_0) rfl k) ?_
  refine own_go (U' := s₁.setTop (mkF m 6 #[.val (.ref a0), .val (.ref a1), .val (.int (0 : Int32)), .unset, .unset, .unset, .unset, .unset] [(.ref a0), (.int (0 : Int32))])) (fun _ k => XS.ifNo X0.here hx rfl (hb hby d25_1) rfl ((if0 _ _).trans (flt (by decide : ¬ ((0 : Int32) < (0 : Int32)))).1) (XS.iloadN X0.here hx rfl (hb hby d25_4) rfl (XS.aloadN X0.here hx rfl (hb hby d25_5) rfl rfl k))) ?_
  obtain ⟨cq42, kq42, q42a, q42b, q42c⟩ := isOf hZ e0 E_s
  obtain ⟨_, _, ⟨T42, L42, k42, n42⟩, -, X42, ⟨Lc42, hQ42, l42, y42, z42⟩, st42⟩ := X0.virtualBack hx (y := (⟨"java/lang/String", "length", "()I"⟩ : MethodName)) (z := (⟨"java/lang/String", "length", "()I"⟩ : MethodName)) hown (mvT hZ (hw _ (own_mem 170 rfl))) (mvT hZ (hw _ (own_mem 171 rfl))) (notFace_of_selects (args := #[]) (mvT hZ (hw _ (own_mem 173 rfl)))) (mvT hZ (hw _ (own_mem 173 rfl))) (mvT hZ (hw _ (own_mem 172 rfl))) (by decide) (backOf (W := 1) (rm26 l Z aw hw [] a0 cs h0 n0 Z0 S_cs (by first | assumption | decide | rfl) (by first | assumption | decide | rfl)) hZ (hw _ (own_mem 174 rfl)) (hw _ (own_mem 11 rfl)) (by decide) (by decide)) q42a q42c (g := (mkF m 6 #[.val (.ref a0), .val (.ref a1), .val (.int (0 : Int32)), .unset, .unset, .unset, .unset, .unset] [(.ref a0), (.int (0 : Int32))])) rfl (by rw [hml]; rfl) (Steps.refl _) (argsL := []) (rest := [(.int (0 : Int32))]) (lenOf own_pd5 rfl) rfl (by show 2 * 0 + _ ≤ _; exact Nat.le_of_eq rfl) (hb hby d25_6) (fun _ _ => ⟨rfl, e0, (by decide : 0 + 0 ≤ _), (by decide : 0 + 0 ≤ _)⟩)
  dsimp only [Pt.U, Pt.locs, Pt.cells, Pt.slots] at X42 l42 y42 z42 st42 hQ42
  subst l42 y42 z42
  obtain ⟨rfl, N42q, e42⟩ := hQ42
  have N42 := Fr.app N0 N42q
  refine own_go (U' := T42.setTop (mkF m 9 #[.val (.ref a0), .val (.ref a1), .val (.int (0 : Int32)), .unset, .unset, .unset, .unset, .unset] [(.int (1 : Int32)), (.int (0 : Int32))])) (fun _ k => st42.trans k) ?_
  refine own_go (U' := T42.setTop (mkF m 10 #[.val (.ref a0), .val (.ref a1), .val (.int (0 : Int32)), .unset, .unset, .unset, .unset, .unset] [(.ref a1), (.int (1 : Int32)), (.int (0 : Int32))])) (fun _ k => XS.aloadN X42.here hx rfl (hb hby d25_9) rfl rfl k) ?_
  obtain ⟨cq43, kq43, q43a, q43b, q43c⟩ := isOf hZ e42 E_t
  obtain ⟨_, _, ⟨T43, L43, k43, n43⟩, -, X43, ⟨Lc43, hQ43, l43, y43, z43⟩, st43⟩ := X42.virtualBack hx (y := (⟨"java/lang/String", "length", "()I"⟩ : MethodName)) (z := (⟨"java/lang/String", "length", "()I"⟩ : MethodName)) hown (mvT hZ (hw _ (own_mem 170 rfl))) (mvT hZ (hw _ (own_mem 171 rfl))) (notFace_of_selects (args := #[]) (mvT hZ (hw _ (own_mem 173 rfl)))) (mvT hZ (hw _ (own_mem 173 rfl))) (mvT hZ (hw _ (own_mem 172 rfl))) (by decide) (backOf (W := 2) (rm26d l Z aw hw [] a1 cs b k1 h0 n0 Z0 S_cs E_t F_c F_v V_b (by first | assumption | decide | rfl)) hZ (hw _ (own_mem 174 rfl)) (hw _ (own_mem 11 rfl)) (by decide) (by decide)) q43a q43c (g := (mkF m 10 #[.val (.ref a0), .val (.ref a1), .val (.int (0 : Int32)), .unset, .unset, .unset, .unset, .unset] [(.ref a1), (.int (1 : Int32)), (.int (0 : Int32))])) rfl (by rw [hml]; rfl) (Steps.refl _) (argsL := []) (rest := [(.int (1 : Int32)), (.int (0 : Int32))]) (lenOf own_pd5 rfl) rfl (by show 2 * 0 + _ ≤ _; exact Nat.le_of_eq rfl) (hb hby d25_10) (fun _ _ => ⟨rfl, e42, (by decide : 0 + 0 ≤ _), (by decide : 0 + 0 ≤ _)⟩)
  dsimp only [Pt.U, Pt.locs, Pt.cells, Pt.slots] at X43 l43 y43 z43 st43 hQ43
  subst l43 y43 z43
  obtain ⟨rfl, N43q, e43⟩ := hQ43
  have N43 := Fr.app N42 N43q
  refine own_go (U' := T43.setTop (mkF m 13 #[.val (.ref a0), .val (.ref a1), .val (.int (0 : Int32)), .unset, .unset, .unset, .unset, .unset] [(.int (2 : Int32)), (.int (1 : Int32)), (.int (0 : Int32))])) (fun _ k => st43.trans k) ?_
  refine own_go (U' := T43.setTop (mkF m 14 #[.val (.ref a0), .val (.ref a1), .val (.int (0 : Int32)), .unset, .unset, .unset, .unset, .unset] [(.int (-1 : Int32)), (.int (0 : Int32))])) (fun _ k => XS.isub X43.here hx rfl (hb hby d25_13) rfl k) ?_
  refine own_go (U' := T43.setTop (mkF m 18 #[.val (.ref a0), .val (.ref a1), .val (.int (0 : Int32)), .unset, .unset, .unset, .unset, .unset] [(.int (0 : Int32))])) (fun _ k => XS.icmpNo X43.here hx rfl (hb hby d25_14) rfl (tlt (by decide : ((-1 : Int32) < (0 : Int32)))).2.2.2 (XS.iconst X43.here hx rfl (hb hby d25_17) k)) ?_
  refine own_ret X43 (v := (some (.int (0 : Int32)))) hlk (fun h => by rw [Bd.returns] at h; cases h) (by decide) (by decide) (fun fs hr => retN X43 hx (t := .boolean) Bd.returns (by simp) (hb hby d25_18) hr) ?_
  show (Q25 Z a0 a1 cs b k1 h0 n0) _ T43.heap _
  rw [e43]
  exact ⟨by first | rfl | decide, N43, rfl⟩
theorem d24_0 : decode jdk_42_method_76_code 0 = .ok (.aload_n 0, 1) := by decide +kernel
theorem d24_1 : decode jdk_42_method_76_code 1 = .ok (.aload_n 1, 1) := by decide +kernel
theorem d24_2 : decode jdk_42_method_76_code 2 = .ok (.iconst 0, 1) := by decide +kernel
theorem d24_3 : decode jdk_42_method_76_code 3 = .ok (.invokevirtual 624, 3) := by decide +kernel
theorem own_pd6 : parseMethodDescriptor "(Ljava/lang/String;I)Z" = some ⟨[(.object "java/lang/String"), .int], some .boolean⟩ := by decide +kernel
theorem d24_6 : decode jdk_42_method_76_code 6 = .ok (.ireturn, 1) := by decide +kernel
theorem own_ef24 (m : MethodId) (x0 : Addr) (x1 : Addr) : entryFrame m #[(.ref x0), (.ref x1)] 2 = mkF m 0 #[.val (.ref x0), .val (.ref x1)] [] := by first | (simp [entryFrame, mkF, argsToLocals, Value.category]; done) | rfl
def Q24 (Z : State) (a0 : Addr) (a1 : Addr) (cs : Int32) (b : Addr) (k1 : ClassId) (h0 : Heap) (n0 : Nat) (v : Option Value) (h : Heap) (L : List Loc) : Prop := v = some (.int (0 : Int32)) ∧ Fr n0 L ∧ h = h0
set_option maxRecDepth 65536 in
set_option maxHeartbeats 40000000 in
theorem rm24 (l : Launch) (Z : State) (aw : Array Value) (hw : ∀ d ∈ tables_1, d.before aw Z = true) (ws : List Jvm.Cond) (a0 : Addr) (a1 : Addr) (cs : Int32) (b : Addr) (k1 : ClassId) (h0 : Heap) (n0 : Nat) (Z0 : n0 ≤ h0.size) (S_cs : Sta Z h0 "java/lang/String" "COMPACT_STRINGS" "Z" (.int cs)) (E_s : Exa Z h0 a0 "java/lang/String") (E_t : Exa Z h0 a1 "java/lang/String") (F_c : Fld Z h0 a1 "java/lang/String" "coder" "B" (.int (0 : Int32))) (F_v : Fld Z h0 a1 "java/lang/String" "value" "[B" (.ref b)) (V_b : Arv Z h0 b k1 .byte (2 : Int32) [(.int (45 : Int32)), (.int (45 : Int32))] (.int (0 : Int32))) (hcs : ¬ (cs = (0 : Int32))) (S_ : own_S Z h0 a0) :
    MetFree l (⟨"java/lang/String", "startsWith", "(Ljava/lang/String;)Z"⟩ : MethodName) (head1 (Jvm.Cond.code (⟨"java/lang/String", "startsWith", "(Ljava/lang/String;)Z"⟩ : MethodName) jdk_42_method_76_code 2 (some .boolean) :: ws) ({ frames := 3, cells := 0, slots := 0, locals := 46 } : Room)) (fun a U => a = #[(.ref a0), (.ref a1)] ∧ Z.Warmed39 U.vm ∧ U.heap = h0) (fun _ _ _ _ _ => True) (fun _ U o U' => ∃ v L, o = .returned v ∧ (Q24 Z a0 a1 cs b k1 h0 n0) v U'.heap L ∧ FrameEnd U o U' L ({ frames := 3, cells := 0, slots := 0, locals := 46 } : Room).cells ({ frames := 3, cells := 0, slots := 0, locals := 46 } : Room).slots) := by
  refine MetFree.of_bodySF (plainFor_of_name own_pn2) hisR ?_
  intro p e s m args below meth c s₁ Bd hml0 hP hK
  obtain ⟨rfl, hZ, hh⟩ := hP
  have hx := Bd.exec
  have hby := Bd.bytes
  have hml : c.maxLocals = 2 := hml0
  have hown : s.vm.findClass "java/lang/String" = some m.cls := findClass_of_methodNamed Bd.named
  have hnm := (name_of_methodNamed Bd.named Bd.method).1
  have hlk : meth.locks = false := BodyLoose.notSynchronized (by assumption)
  have X0 : Stand p l e ({ frames := 3, cells := 0, slots := 0, locals := 46 } : Room) s m #[(.ref a0), (.ref a1)] below meth c s₁ [] 0 0 := Stand.of_body Bd
  have e0 : s₁.heap = h0 := by rw [← hh, Bd.state]; rfl
  have N0 := Fr.nil n0
  show own_Done p e below s (Q24 Z a0 a1 cs b k1 h0 n0) ({ frames := 3, cells := 0, slots := 0, locals := 46 } : Room).cells ({ frames := 3, cells := 0, slots := 0, locals := 46 } : Room).slots (s₁.setTop (entryFrame m #[(.ref a0), (.ref a1)] 2))
  refine own_go (U' := s₁.setTop (mkF m 0 #[.val (.ref a0), .val (.ref a1)] [])) (fun _ k => castTop (own_ef24 m a0 a1) k) ?_
  refine own_go (U' := s₁.setTop (mkF m 3 #[.val (.ref a0), .val (.ref a1)] [(.int (0 : Int32)), (.ref a1), (.ref a0)])) (fun _ k => XS.aloadN X0.here hx rfl (hb hby d24_0) rfl rfl (XS.aloadN X0.here hx rfl (hb hby d24_1) rfl rfl (XS.iconst X0.here hx rfl (hb hby d24_2) k))) ?_
  obtain ⟨cq44, kq44, q44a, q44b, q44c⟩ := isOf hZ e0 E_s
  obtain ⟨_, _, ⟨T44, L44, k44, n44⟩, -, X44, ⟨Lc44, hQ44, l44, y44, z44⟩, st44⟩ := X0.virtualBack hx (y := (⟨"java/lang/String", "startsWith", "(Ljava/lang/String;I)Z"⟩ : MethodName)) (z := (⟨"java/lang/String", "startsWith", "(Ljava/lang/String;I)Z"⟩ : MethodName)) hown (mvT hZ (hw _ (own_mem 165 rfl))) (mvT hZ (hw _ (own_mem 166 rfl))) (notFace_of_selects (args := #[]) (mvT hZ (hw _ (own_mem 168 rfl)))) (mvT hZ (hw _ (own_mem 168 rfl))) (mvT hZ (hw _ (own_mem 167 rfl))) (by decide) (backOf (W := 0) (rm25 l Z aw hw [] a0 a1 cs b k1 h0 n0 Z0 S_cs E_s E_t F_c F_v V_b (by first | assumption | decide | rfl) (by first | assumption | decide | rfl)) hZ (hw _ (own_mem 169 rfl)) (hw _ (own_mem 11 rfl)) (by decide) (by decide)) q44a q44c (g := (mkF m 3 #[.val (.ref a0), .val (.ref a1)] [(.int (0 : Int32)), (.ref a1), (.ref a0)])) rfl (by rw [hml]; rfl) (Steps.refl _) (argsL := [(.ref a1), (.int (0 : Int32))]) (rest := []) (lenOf own_pd6 rfl) rfl (by show 2 * 0 + _ ≤ _; exact Nat.le_of_eq rfl) (hb hby d24_3) (fun _ _ => ⟨rfl, e0, (by decide : 0 + 0 ≤ _), (by decide : 0 + 0 ≤ _)⟩)
  dsimp only [Pt.U, Pt.locs, Pt.cells, Pt.slots] at X44 l44 y44 z44 st44 hQ44
  subst l44 y44 z44
  obtain ⟨rfl, N44q, e44⟩ := hQ44
  have N44 := Fr.app N0 N44q
  refine own_go (U' := T44.setTop (mkF m 6 #[.val (.ref a0), .val (.ref a1)] [(.int (0 : Int32))])) (fun _ k => st44.trans k) ?_
  refine own_ret X44 (v := (some (.int (0 : Int32)))) hlk (fun h => by rw [Bd.returns] at h; cases h) (by decide) (by decide) (fun fs hr => retN X44 hx (t := .boolean) Bd.returns (by simp) (hb hby d24_6) hr) ?_
  show (Q24 Z a0 a1 cs b k1 h0 n0) _ T44.heap _
  rw [e44]
  exact ⟨by first | rfl | decide, N44, rfl⟩
theorem d28_0 : decode jdk_42_method_66_code 0 = .ok (.aload_n 0, 1) := by decide +kernel
theorem d28_1 : decode jdk_42_method_66_code 1 = .ok (.aload_n 1, 1) := by decide +kernel
theorem d28_2 : decode jdk_42_method_66_code 2 = .ok (.if_acmp .ne 5, 3) := by decide +kernel
theorem d28_5 : decode jdk_42_method_66_code 5 = .ok (.iconst 1, 1) := by decide +kernel
theorem d28_6 : decode jdk_42_method_66_code 6 = .ok (.ireturn, 1) := by decide +kernel
theorem own_ef28 (m : MethodId) (x0 : Addr) (x1 : Addr) : entryFrame m #[(.ref x1), (.ref x1)] 3 = mkF m 0 #[.val (.ref x1), .val (.ref x1), .unset] [] := by first | (simp [entryFrame, mkF, argsToLocals, Value.category]; done) | rfl
def Q28 (Z : State) (a0 : Addr) (h0 : Heap) (n0 : Nat) (v : Option Value) (h : Heap) (L : List Loc) : Prop := v = some (.int (1 : Int32)) ∧ Fr n0 L ∧ h = h0
set_option maxRecDepth 65536 in
set_option maxHeartbeats 40000000 in
theorem rm28 (l : Launch) (Z : State) (aw : Array Value) (hw : ∀ d ∈ tables_1, d.before aw Z = true) (ws : List Jvm.Cond) (a0 : Addr) (h0 : Heap) (n0 : Nat) (Z0 : n0 ≤ h0.size) :
    MetFree l (⟨"java/lang/String", "equals", "(Ljava/lang/Object;)Z"⟩ : MethodName) (head1 (Jvm.Cond.code (⟨"java/lang/String", "equals", "(Ljava/lang/Object;)Z"⟩ : MethodName) jdk_42_method_66_code 3 (some .boolean) :: ws) ({ frames := 0, cells := 0, slots := 0, locals := 0 } : Room)) (fun a U => a = #[(.ref a0), (.ref a0)] ∧ Z.Warmed39 U.vm ∧ U.heap = h0) (fun _ _ _ _ _ => True) (fun _ U o U' => ∃ v L, o = .returned v ∧ (Q28 Z a0 h0 n0) v U'.heap L ∧ FrameEnd U o U' L ({ frames := 0, cells := 0, slots := 0, locals := 0 } : Room).cells ({ frames := 0, cells := 0, slots := 0, locals := 0 } : Room).slots) := by
  refine MetFree.of_bodySF (plainFor_of_name own_pn2) hisR ?_
  intro p e s m args below meth c s₁ Bd hml0 hP hK
  obtain ⟨rfl, hZ, hh⟩ := hP
  have hx := Bd.exec
  have hby := Bd.bytes
  have hml : c.maxLocals = 3 := hml0
  have hown : s.vm.findClass "java/lang/String" = some m.cls := findClass_of_methodNamed Bd.named
  have hnm := (name_of_methodNamed Bd.named Bd.method).1
  have hlk : meth.locks = false := BodyLoose.notSynchronized (by assumption)
  have X0 : Stand p l e ({ frames := 0, cells := 0, slots := 0, locals := 0 } : Room) s m #[(.ref a0), (.ref a0)] below meth c s₁ [] 0 0 := Stand.of_body Bd
  have e0 : s₁.heap = h0 := by rw [← hh, Bd.state]; rfl
  have N0 := Fr.nil n0
  show own_Done p e below s (Q28 Z a0 h0 n0) ({ frames := 0, cells := 0, slots := 0, locals := 0 } : Room).cells ({ frames := 0, cells := 0, slots := 0, locals := 0 } : Room).slots (s₁.setTop (entryFrame m #[(.ref a0), (.ref a0)] 3))
  refine own_go (U' := s₁.setTop (mkF m 0 #[.val (.ref a0), .val (.ref a0), .unset] [])) (fun _ k => castTop (own_ef28 m a0 a0) k) ?_
  refine own_go (U' := s₁.setTop (mkF m 2 #[.val (.ref a0), .val (.ref a0), .unset] [(.ref a0), (.ref a0)])) (fun _ k => XS.aloadN X0.here hx rfl (hb hby d28_0) rfl rfl (XS.aloadN X0.here hx rfl (hb hby d28_1) rfl rfl k)) ?_
  refine own_go (U' := s₁.setTop (mkF m 6 #[.val (.ref a0), .val (.ref a0), .unset] [(.int (1 : Int32))])) (fun _ k => Jvm.RoadKit.acmp (g := (mkF m 2 #[.val (.ref a0), .val (.ref a0), .unset] [(.ref a0), (.ref a0)])) X0 hx rfl rfl rfl (pc0 := 2) (pc' := 5) (same := true) rfl (hb hby d28_2) rfl (decide_eq_true (congrArg Value.ref (rfl : a0 = a0))) (by decide) (by decide) (XS.iconst X0.here hx rfl (hb hby d28_5) k)) ?_
  refine own_ret X0 (v := (some (.int (1 : Int32)))) hlk (fun h => by rw [Bd.returns] at h; cases h) (by decide) (by decide) (fun fs hr => retN X0 hx (t := .boolean) Bd.returns (by simp) (hb hby d28_6) hr) ?_
  show (Q28 Z a0 h0 n0) _ s₁.heap _
  rw [e0]
  exact ⟨by first | rfl | decide, N0, rfl⟩
theorem d14_0 : decode jdk_38_method_8_code 0 = .ok (.aload_n 0, 1) := by decide +kernel
theorem d14_1 : decode jdk_38_method_8_code 1 = .ok (.getfield 48, 3) := by decide +kernel
theorem d14_4 : decode jdk_38_method_8_code 4 = .ok (.ireturn, 1) := by decide +kernel
theorem own_pn3 : plainName "java/util/ArrayList" = true := by first | (simp [plainName, overriddenIn]; done) | decide +kernel
theorem own_ef14 (m : MethodId) (x0 : Addr) : entryFrame m #[(.ref x0)] 1 = mkF m 0 #[.val (.ref x0)] [] := by first | (simp [entryFrame, mkF, argsToLocals, Value.category]; done) | rfl
def Q14 (Z : State) (a0 : Addr) (sz : Int32) (h0 : Heap) (n0 : Nat) (v : Option Value) (h : Heap) (L : List Loc) : Prop := v = some (.int sz) ∧ Fr n0 L ∧ h = h0
set_option maxRecDepth 65536 in
set_option maxHeartbeats 40000000 in
theorem rm14 (l : Launch) (Z : State) (aw : Array Value) (hw : ∀ d ∈ tables_1, d.before aw Z = true) (ws : List Jvm.Cond) (a0 : Addr) (sz : Int32) (h0 : Heap) (n0 : Nat) (Z0 : n0 ≤ h0.size) (F_s : Fld Z h0 a0 "java/util/ArrayList" "size" "I" (.int sz)) :
    MetFree l (⟨"java/util/ArrayList", "size", "()I"⟩ : MethodName) (head1 (Jvm.Cond.code (⟨"java/util/ArrayList", "size", "()I"⟩ : MethodName) jdk_38_method_8_code 1 (some .int) :: ws) ({ frames := 0, cells := 0, slots := 0, locals := 0 } : Room)) (fun a U => a = #[(.ref a0)] ∧ Z.Warmed39 U.vm ∧ U.heap = h0) (fun _ _ _ _ _ => True) (fun _ U o U' => ∃ v L, o = .returned v ∧ (Q14 Z a0 sz h0 n0) v U'.heap L ∧ FrameEnd U o U' L ({ frames := 0, cells := 0, slots := 0, locals := 0 } : Room).cells ({ frames := 0, cells := 0, slots := 0, locals := 0 } : Room).slots) := by
  refine MetFree.of_bodySF (plainFor_of_name own_pn3) hisR ?_
  intro p e s m args below meth c s₁ Bd hml0 hP hK
  obtain ⟨rfl, hZ, hh⟩ := hP
  have hx := Bd.exec
  have hby := Bd.bytes
  have hml : c.maxLocals = 1 := hml0
  have hown : s.vm.findClass "java/util/ArrayList" = some m.cls := findClass_of_methodNamed Bd.named
  have hnm := (name_of_methodNamed Bd.named Bd.method).1
  have hlk : meth.locks = false := BodyLoose.notSynchronized (by assumption)
  have X0 : Stand p l e ({ frames := 0, cells := 0, slots := 0, locals := 0 } : Room) s m #[(.ref a0)] below meth c s₁ [] 0 0 := Stand.of_body Bd
  have e0 : s₁.heap = h0 := by rw [← hh, Bd.state]; rfl
  have N0 := Fr.nil n0
  show own_Done p e below s (Q14 Z a0 sz h0 n0) ({ frames := 0, cells := 0, slots := 0, locals := 0 } : Room).cells ({ frames := 0, cells := 0, slots := 0, locals := 0 } : Room).slots (s₁.setTop (entryFrame m #[(.ref a0)] 1))
  refine own_go (U' := s₁.setTop (mkF m 0 #[.val (.ref a0)] [])) (fun _ k => castTop (own_ef14 m a0) k) ?_
  refine own_go (U' := s₁.setTop (mkF m 1 #[.val (.ref a0)] [(.ref a0)])) (fun _ k => XS.aloadN X0.here hx rfl (hb hby d14_0) rfl rfl k) ?_
  obtain ⟨T45, X45, e45, st45⟩ := getF X0 hx hZ hown (host := "") (Or.inl (hw _ (own_mem 97 rfl))) Via.refl e0 F_s (g := (mkF m 1 #[.val (.ref a0)] [(.ref a0)])) rfl rfl (hb hby d14_1)
  refine own_go (U' := T45.setTop (mkF m 4 #[.val (.ref a0)] [(.int sz)])) (fun _ k => st45 _ k) ?_
  refine own_ret X45 (v := (some (.int sz))) hlk (fun h => by rw [Bd.returns] at h; cases h) (by decide) (by decide) (fun fs hr => own_retI X45 hx Bd.returns (hb hby d14_4) hr) ?_
  show (Q14 Z a0 sz h0 n0) _ T45.heap _
  rw [e45]
  exact ⟨by first | rfl | decide, N0, rfl⟩
theorem d22_0 : decode jdk_41_method_11_code 0 = .ok (.iload_n 0, 1) := by decide +kernel
theorem d22_1 : decode jdk_41_method_11_code 1 = .ok (.ifCond .lt 8, 3) := by decide +kernel
theorem d22_4 : decode jdk_41_method_11_code 4 = .ok (.iload_n 0, 1) := by decide +kernel
theorem d22_5 : decode jdk_41_method_11_code 5 = .ok (.iload_n 1, 1) := by decide +kernel
theorem d22_6 : decode jdk_41_method_11_code 6 = .ok (.if_icmp .lt 10, 3) := by decide +kernel
theorem d22_16 : decode jdk_41_method_11_code 16 = .ok (.iload_n 0, 1) := by decide +kernel
theorem d22_17 : decode jdk_41_method_11_code 17 = .ok (.ireturn, 1) := by decide +kernel
theorem own_pn4 : plainName "jdk/internal/util/Preconditions" = true := by first | (simp [plainName, overriddenIn]; done) | decide +kernel
theorem own_ef22 (m : MethodId) (x0 : Int32) (x1 : Int32) : entryFrame m #[(.int x0), (.int x1), .null] 3 = mkF m 0 #[.val (.int x0), .val (.int x1), .val .null] [] := by first | (simp [entryFrame, mkF, argsToLocals, Value.category]; done) | rfl
def Q22 (Z : State) (p0 : Int32) (p1 : Int32) (h0 : Heap) (n0 : Nat) (v : Option Value) (h : Heap) (L : List Loc) : Prop := v = some (.int p0) ∧ Fr n0 L ∧ h = h0
set_option maxRecDepth 65536 in
set_option maxHeartbeats 40000000 in
theorem rm22 (l : Launch) (Z : State) (aw : Array Value) (hw : ∀ d ∈ tables_1, d.before aw Z = true) (ws : List Jvm.Cond) (p0 : Int32) (p1 : Int32) (h0 : Heap) (n0 : Nat) (Z0 : n0 ≤ h0.size) (hi : ¬ (p0 < (0 : Int32))) (hs : p0 < p1) :
    MetFree l (⟨"jdk/internal/util/Preconditions", "checkIndex", "(IILjava/util/function/BiFunction;)I"⟩ : MethodName) (head1 (Jvm.Cond.code (⟨"jdk/internal/util/Preconditions", "checkIndex", "(IILjava/util/function/BiFunction;)I"⟩ : MethodName) jdk_41_method_11_code 3 (some .int) :: ws) ({ frames := 0, cells := 0, slots := 0, locals := 0 } : Room)) (fun a U => a = #[(.int p0), (.int p1), .null] ∧ Z.Warmed39 U.vm ∧ U.heap = h0) (fun _ _ _ _ _ => True) (fun _ U o U' => ∃ v L, o = .returned v ∧ (Q22 Z p0 p1 h0 n0) v U'.heap L ∧ FrameEnd U o U' L ({ frames := 0, cells := 0, slots := 0, locals := 0 } : Room).cells ({ frames := 0, cells := 0, slots := 0, locals := 0 } : Room).slots) := by
  refine MetFree.of_bodySF (plainFor_of_name own_pn4) hisR ?_
  intro p e s m args below meth c s₁ Bd hml0 hP hK
  obtain ⟨rfl, hZ, hh⟩ := hP
  have hx := Bd.exec
  have hby := Bd.bytes
  have hml : c.maxLocals = 3 := hml0
  have hown : s.vm.findClass "jdk/internal/util/Preconditions" = some m.cls := findClass_of_methodNamed Bd.named
  have hnm := (name_of_methodNamed Bd.named Bd.method).1
  have hlk : meth.locks = false := BodyLoose.notSynchronized (by assumption)
  have X0 : Stand p l e ({ frames := 0, cells := 0, slots := 0, locals := 0 } : Room) s m #[(.int p0), (.int p1), .null] below meth c s₁ [] 0 0 := Stand.of_body Bd
  have e0 : s₁.heap = h0 := by rw [← hh, Bd.state]; rfl
  have N0 := Fr.nil n0
  show own_Done p e below s (Q22 Z p0 p1 h0 n0) ({ frames := 0, cells := 0, slots := 0, locals := 0 } : Room).cells ({ frames := 0, cells := 0, slots := 0, locals := 0 } : Room).slots (s₁.setTop (entryFrame m #[(.int p0), (.int p1), .null] 3))
  refine own_go (U' := s₁.setTop (mkF m 0 #[.val (.int p0), .val (.int p1), .val .null] [])) (fun _ k => castTop (own_ef22 m p0 p1) k) ?_
  refine own_go (U' := s₁.setTop (mkF m 1 #[.val (.int p0), .val (.int p1), .val .null] [(.int p0)])) (fun _ k => XS.iloadN X0.here hx rfl (hb hby d22_0) rfl k) ?_
  refine own_go (U' := s₁.setTop (mkF m 6 #[.val (.int p0), .val (.int p1), .val .null] [(.int p1), (.int p0)])) (fun _ k => XS.ifNo X0.here hx rfl (hb hby d22_1) rfl ((if0 _ _).trans (flt hi).1) (XS.iloadN X0.here hx rfl (hb hby d22_4) rfl (XS.iloadN X0.here hx rfl (hb hby d22_5) rfl k))) ?_
  refine own_go (U' := s₁.setTop (mkF m 17 #[.val (.int p0), .val (.int p1), .val .null] [(.int p0)])) (fun _ k => XS.icmpYes X0.here hx rfl (pc0 := 6) (pc' := 16) rfl (hb hby d22_6) rfl (tlt hs).1 (by decide) (by decide) (XS.iloadN X0.here hx rfl (hb hby d22_16) rfl k)) ?_
  refine own_ret X0 (v := (some (.int p0))) hlk (fun h => by rw [Bd.returns] at h; cases h) (by decide) (by decide) (fun fs hr => own_retI X0 hx Bd.returns (hb hby d22_17) hr) ?_
  show (Q22 Z p0 p1 h0 n0) _ s₁.heap _
  rw [e0]
  exact ⟨by first | rfl | decide, N0, rfl⟩
theorem d21_0 : decode jdk_31_method_17_code 0 = .ok (.iload_n 0, 1) := by decide +kernel
theorem d21_1 : decode jdk_31_method_17_code 1 = .ok (.iload_n 1, 1) := by decide +kernel
theorem d21_2 : decode jdk_31_method_17_code 2 = .ok (.aconst_null, 1) := by decide +kernel
theorem d21_3 : decode jdk_31_method_17_code 3 = .ok (.invokestatic 105, 3) := by decide +kernel
theorem own_pd7 : parseMethodDescriptor "(IILjava/util/function/BiFunction;)I" = some ⟨[.int, .int, (.object "java/util/function/BiFunction")], some .int⟩ := by decide +kernel
theorem d21_6 : decode jdk_31_method_17_code 6 = .ok (.ireturn, 1) := by decide +kernel
theorem own_pn5 : plainName "java/util/Objects" = true := by first | (simp [plainName, overriddenIn]; done) | decide +kernel
theorem own_ef21 (m : MethodId) (x0 : Int32) (x1 : Int32) : entryFrame m #[(.int x0), (.int x1)] 2 = mkF m 0 #[.val (.int x0), .val (.int x1)] [] := by first | (simp [entryFrame, mkF, argsToLocals, Value.category]; done) | rfl
def Q21 (Z : State) (p0 : Int32) (p1 : Int32) (h0 : Heap) (n0 : Nat) (v : Option Value) (h : Heap) (L : List Loc) : Prop := v = some (.int p0) ∧ Fr n0 L ∧ h = h0
set_option maxRecDepth 65536 in
set_option maxHeartbeats 40000000 in
theorem rm21 (l : Launch) (Z : State) (aw : Array Value) (hw : ∀ d ∈ tables_1, d.before aw Z = true) (ws : List Jvm.Cond) (p0 : Int32) (p1 : Int32) (h0 : Heap) (n0 : Nat) (Z0 : n0 ≤ h0.size) (hi : ¬ (p0 < (0 : Int32))) (hs : p0 < p1) :
    MetFree l (⟨"java/util/Objects", "checkIndex", "(II)I"⟩ : MethodName) (head1 (Jvm.Cond.code (⟨"java/util/Objects", "checkIndex", "(II)I"⟩ : MethodName) jdk_31_method_17_code 2 (some .int) :: ws) ({ frames := 1, cells := 0, slots := 0, locals := 14 } : Room)) (fun a U => a = #[(.int p0), (.int p1)] ∧ Z.Warmed39 U.vm ∧ U.heap = h0) (fun _ _ _ _ _ => True) (fun _ U o U' => ∃ v L, o = .returned v ∧ (Q21 Z p0 p1 h0 n0) v U'.heap L ∧ FrameEnd U o U' L ({ frames := 1, cells := 0, slots := 0, locals := 14 } : Room).cells ({ frames := 1, cells := 0, slots := 0, locals := 14 } : Room).slots) := by
  refine MetFree.of_bodySF (plainFor_of_name own_pn5) hisR ?_
  intro p e s m args below meth c s₁ Bd hml0 hP hK
  obtain ⟨rfl, hZ, hh⟩ := hP
  have hx := Bd.exec
  have hby := Bd.bytes
  have hml : c.maxLocals = 2 := hml0
  have hown : s.vm.findClass "java/util/Objects" = some m.cls := findClass_of_methodNamed Bd.named
  have hnm := (name_of_methodNamed Bd.named Bd.method).1
  have hlk : meth.locks = false := BodyLoose.notSynchronized (by assumption)
  have X0 : Stand p l e ({ frames := 1, cells := 0, slots := 0, locals := 14 } : Room) s m #[(.int p0), (.int p1)] below meth c s₁ [] 0 0 := Stand.of_body Bd
  have e0 : s₁.heap = h0 := by rw [← hh, Bd.state]; rfl
  have N0 := Fr.nil n0
  show own_Done p e below s (Q21 Z p0 p1 h0 n0) ({ frames := 1, cells := 0, slots := 0, locals := 14 } : Room).cells ({ frames := 1, cells := 0, slots := 0, locals := 14 } : Room).slots (s₁.setTop (entryFrame m #[(.int p0), (.int p1)] 2))
  refine own_go (U' := s₁.setTop (mkF m 0 #[.val (.int p0), .val (.int p1)] [])) (fun _ k => castTop (own_ef21 m p0 p1) k) ?_
  refine own_go (U' := s₁.setTop (mkF m 3 #[.val (.int p0), .val (.int p1)] [.null, (.int p1), (.int p0)])) (fun _ k => XS.iloadN X0.here hx rfl (hb hby d21_0) rfl (XS.iloadN X0.here hx rfl (hb hby d21_1) rfl (XS.aconstNull X0.here hx rfl (hb hby d21_2) k))) ?_
  obtain ⟨_, _, ⟨T46, L46, k46, n46⟩, -, X46, ⟨Lc46, hQ46, l46, y46, z46⟩, st46⟩ := Jvm.LawKit.callS X0 hx (y := (⟨"jdk/internal/util/Preconditions", "checkIndex", "(IILjava/util/function/BiFunction;)I"⟩ : MethodName)) hown (mvT hZ (hw _ (own_mem 149 rfl))) (mvT hZ (hw _ (own_mem 150 rfl))) (mvT hZ (hw _ (own_mem 151 rfl))) (mvT hZ (hw _ (own_mem 152 rfl))) (by decide) (backOf (W := 0) (rm22 l Z aw hw [] p0 p1 h0 n0 Z0 (by first | assumption | decide | rfl) (by first | assumption | decide | rfl)) hZ (hw _ (own_mem 152 rfl)) (hw _ (own_mem 151 rfl)) (by decide) (by decide)) (g := (mkF m 3 #[.val (.int p0), .val (.int p1)] [.null, (.int p1), (.int p0)])) rfl (by rw [hml]; rfl) (argsL := [(.int p0), (.int p1), .null]) (rest := []) (lenOf own_pd7 rfl) rfl (by show 2 * 0 + _ ≤ _; exact Nat.le_of_eq rfl) (hb hby d21_3) (fun _ _ => ⟨rfl, e0, (by decide : 0 + 0 ≤ _), (by decide : 0 + 0 ≤ _)⟩)
  dsimp only [Pt.U, Pt.locs, Pt.cells, Pt.slots] at X46 l46 y46 z46 st46 hQ46
  subst l46 y46 z46
  obtain ⟨rfl, N46q, e46⟩ := hQ46
  have N46 := Fr.app N0 N46q
  refine own_go (U' := T46.setTop (mkF m 6 #[.val (.int p0), .val (.int p1)] [(.int p0)])) (fun _ k => st46 _ k) ?_
  refine own_ret X46 (v := (some (.int p0))) hlk (fun h => by rw [Bd.returns] at h; cases h) (by decide) (by decide) (fun fs hr => own_retI X46 hx Bd.returns (hb hby d21_6) hr) ?_
  show (Q21 Z p0 p1 h0 n0) _ T46.heap _
  rw [e46]
  exact ⟨by first | rfl | decide, N46, rfl⟩
theorem d23_0 : decode jdk_38_method_18_code 0 = .ok (.aload_n 0, 1) := by decide +kernel
theorem d23_1 : decode jdk_38_method_18_code 1 = .ok (.getfield 9, 3) := by decide +kernel
theorem d23_4 : decode jdk_38_method_18_code 4 = .ok (.iload_n 1, 1) := by decide +kernel
theorem d23_5 : decode jdk_38_method_18_code 5 = .ok (.aaload, 1) := by decide +kernel
theorem d23_6 : decode jdk_38_method_18_code 6 = .ok (.areturn, 1) := by decide +kernel
theorem own_ef23 (m : MethodId) (x0 : Addr) (x1 : Int32) : entryFrame m #[(.ref x0), (.int x1)] 2 = mkF m 0 #[.val (.ref x0), .val (.int x1)] [] := by first | (simp [entryFrame, mkF, argsToLocals, Value.category]; done) | rfl
def Q23 (Z : State) (a0 : Addr) (p1 : Int32) (arr : Addr) (k1 : ClassId) (vs : List Value) (r : Addr) (h0 : Heap) (n0 : Nat) (v : Option Value) (h : Heap) (L : List Loc) : Prop := v = some (.ref r) ∧ Fr n0 L ∧ h = h0
set_option maxRecDepth 65536 in
set_option maxHeartbeats 40000000 in
theorem rm23 (l : Launch) (Z : State) (aw : Array Value) (hw : ∀ d ∈ tables_1, d.before aw Z = true) (ws : List Jvm.Cond) (a0 : Addr) (p1 : Int32) (arr : Addr) (k1 : ClassId) (vs : List Value) (r : Addr) (h0 : Heap) (n0 : Nat) (Z0 : n0 ≤ h0.size) (F_e : Fld Z h0 a0 "java/util/ArrayList" "elementData" "[Ljava/lang/Object;" (.ref arr)) (V_a : Arv Z h0 arr k1 (.object "java/lang/Object") (10 : Int32) vs .null) (hi : ¬ (p1 < (0 : Int32))) (hi10 : p1 < (10 : Int32)) (hgt : vs.getD p1.toNatClampNeg .null = .ref r) :
    MetFree l (⟨"java/util/ArrayList", "elementData", "(I)Ljava/lang/Object;"⟩ : MethodName) (head1 (Jvm.Cond.code (⟨"java/util/ArrayList", "elementData", "(I)Ljava/lang/Object;"⟩ : MethodName) jdk_38_method_18_code 2 (some (.object "java/lang/Object")) :: ws) ({ frames := 0, cells := 0, slots := 0, locals := 0 } : Room)) (fun a U => a = #[(.ref a0), (.int p1)] ∧ Z.Warmed39 U.vm ∧ U.heap = h0) (fun _ _ _ _ _ => True) (fun _ U o U' => ∃ v L, o = .returned v ∧ (Q23 Z a0 p1 arr k1 vs r h0 n0) v U'.heap L ∧ FrameEnd U o U' L ({ frames := 0, cells := 0, slots := 0, locals := 0 } : Room).cells ({ frames := 0, cells := 0, slots := 0, locals := 0 } : Room).slots) := by
  refine MetFree.of_bodySF (plainFor_of_name own_pn3) hisR ?_
  intro p e s m args below meth c s₁ Bd hml0 hP hK
  obtain ⟨rfl, hZ, hh⟩ := hP
  have hx := Bd.exec
  have hby := Bd.bytes
  have hml : c.maxLocals = 2 := hml0
  have hown : s.vm.findClass "java/util/ArrayList" = some m.cls := findClass_of_methodNamed Bd.named
  have hnm := (name_of_methodNamed Bd.named Bd.method).1
  have hlk : meth.locks = false := BodyLoose.notSynchronized (by assumption)
  have X0 : Stand p l e ({ frames := 0, cells := 0, slots := 0, locals := 0 } : Room) s m #[(.ref a0), (.int p1)] below meth c s₁ [] 0 0 := Stand.of_body Bd
  have e0 : s₁.heap = h0 := by rw [← hh, Bd.state]; rfl
  have N0 := Fr.nil n0
  show own_Done p e below s (Q23 Z a0 p1 arr k1 vs r h0 n0) ({ frames := 0, cells := 0, slots := 0, locals := 0 } : Room).cells ({ frames := 0, cells := 0, slots := 0, locals := 0 } : Room).slots (s₁.setTop (entryFrame m #[(.ref a0), (.int p1)] 2))
  refine own_go (U' := s₁.setTop (mkF m 0 #[.val (.ref a0), .val (.int p1)] [])) (fun _ k => castTop (own_ef23 m a0 p1) k) ?_
  refine own_go (U' := s₁.setTop (mkF m 1 #[.val (.ref a0), .val (.int p1)] [(.ref a0)])) (fun _ k => XS.aloadN X0.here hx rfl (hb hby d23_0) rfl rfl k) ?_
  obtain ⟨T47, X47, e47, st47⟩ := getF X0 hx hZ hown (host := "") (Or.inl (hw _ (own_mem 57 rfl))) Via.refl e0 F_e (g := (mkF m 1 #[.val (.ref a0), .val (.int p1)] [(.ref a0)])) rfl rfl (hb hby d23_1)
  refine own_go (U' := T47.setTop (mkF m 4 #[.val (.ref a0), .val (.int p1)] [(.ref arr)])) (fun _ k => st47 _ k) ?_
  refine own_go (U' := T47.setTop (mkF m 5 #[.val (.ref a0), .val (.int p1)] [(.int p1), (.ref arr)])) (fun _ k => XS.iloadN X47.here hx rfl (hb hby d23_4) rfl k) ?_
  have V48 := V_a
  obtain ⟨cl48, Ar48, q48, S48, Ng48, Hh48, G48⟩ := V48
  have hj48 : ¬ p1 < 0 ∧ p1 < (10 : Int32) := ⟨hi, hi10⟩
  refine own_go (U' := T47.setTop (mkF m 6 #[.val (.ref a0), .val (.int p1)] [(.ref r)])) (fun _ k => X47.aaload hx (j := p1) (v := (.ref r)) (own_cell e47 Ar48.1) (State.isArrayOf_alike hZ.alike Ar48.2.1) rfl Ar48.2.2 (inb_of S48 hj48) (own_at S48 Hh48 hj48 rfl hgt) (g := (mkF m 5 #[.val (.ref a0), .val (.int p1)] [(.int p1), (.ref arr)])) rfl rfl (hb hby d23_5) _ k) ?_
  refine own_ret X47 (v := (some (.ref r))) hlk (fun h => by rw [Bd.returns] at h; cases h) (by decide) (by decide) (fun fs hr => own_retR X47 hx Bd.returns rfl rfl rfl (hb hby d23_6) hr) ?_
  show (Q23 Z a0 p1 arr k1 vs r h0 n0) _ T47.heap _
  rw [e47]
  exact ⟨by first | rfl | decide, N0, rfl⟩
theorem d20_0 : decode jdk_38_method_20_code 0 = .ok (.iload_n 1, 1) := by decide +kernel
theorem d20_1 : decode jdk_38_method_20_code 1 = .ok (.aload_n 0, 1) := by decide +kernel
theorem d20_2 : decode jdk_38_method_20_code 2 = .ok (.getfield 48, 3) := by decide +kernel
theorem d20_5 : decode jdk_38_method_20_code 5 = .ok (.invokestatic 118, 3) := by decide +kernel
theorem own_pd8 : parseMethodDescriptor "(II)I" = some ⟨[.int, .int], some .int⟩ := by decide +kernel
theorem d20_8 : decode jdk_38_method_20_code 8 = .ok (.pop, 1) := by decide +kernel
theorem d20_9 : decode jdk_38_method_20_code 9 = .ok (.aload_n 0, 1) := by decide +kernel
theorem d20_10 : decode jdk_38_method_20_code 10 = .ok (.iload_n 1, 1) := by decide +kernel
theorem d20_11 : decode jdk_38_method_20_code 11 = .ok (.invokevirtual 123, 3) := by decide +kernel
theorem own_pd9 : parseMethodDescriptor "(I)Ljava/lang/Object;" = some ⟨[.int], some (.object "java/lang/Object")⟩ := by decide +kernel
theorem d20_14 : decode jdk_38_method_20_code 14 = .ok (.areturn, 1) := by decide +kernel
theorem own_ef20 (m : MethodId) (x0 : Addr) (x1 : Int32) : entryFrame m #[(.ref x0), (.int x1)] 2 = mkF m 0 #[.val (.ref x0), .val (.int x1)] [] := by first | (simp [entryFrame, mkF, argsToLocals, Value.category]; done) | rfl
def Q20 (Z : State) (a0 : Addr) (p1 : Int32) (sz : Int32) (arr : Addr) (k1 : ClassId) (vs : List Value) (r : Addr) (h0 : Heap) (n0 : Nat) (v : Option Value) (h : Heap) (L : List Loc) : Prop := v = some (.ref r) ∧ Fr n0 L ∧ h = h0
set_option maxRecDepth 65536 in
set_option maxHeartbeats 40000000 in
theorem rm20 (l : Launch) (Z : State) (aw : Array Value) (hw : ∀ d ∈ tables_1, d.before aw Z = true) (ws : List Jvm.Cond) (a0 : Addr) (p1 : Int32) (sz : Int32) (arr : Addr) (k1 : ClassId) (vs : List Value) (r : Addr) (h0 : Heap) (n0 : Nat) (Z0 : n0 ≤ h0.size) (E_a : Exa Z h0 a0 "java/util/ArrayList") (F_s : Fld Z h0 a0 "java/util/ArrayList" "size" "I" (.int sz)) (F_e : Fld Z h0 a0 "java/util/ArrayList" "elementData" "[Ljava/lang/Object;" (.ref arr)) (V_a : Arv Z h0 arr k1 (.object "java/lang/Object") (10 : Int32) vs .null) (hi : ¬ (p1 < (0 : Int32))) (hi10 : p1 < (10 : Int32)) (hgt : vs.getD p1.toNatClampNeg .null = .ref r) (hs : p1 < sz) :
    MetFree l (⟨"java/util/ArrayList", "get", "(I)Ljava/lang/Object;"⟩ : MethodName) (head1 (Jvm.Cond.code (⟨"java/util/ArrayList", "get", "(I)Ljava/lang/Object;"⟩ : MethodName) jdk_38_method_20_code 2 (some (.object "java/lang/Object")) :: ws) ({ frames := 2, cells := 0, slots := 0, locals := 27 } : Room)) (fun a U => a = #[(.ref a0), (.int p1)] ∧ Z.Warmed39 U.vm ∧ U.heap = h0) (fun _ _ _ _ _ => True) (fun _ U o U' => ∃ v L, o = .returned v ∧ (Q20 Z a0 p1 sz arr k1 vs r h0 n0) v U'.heap L ∧ FrameEnd U o U' L ({ frames := 2, cells := 0, slots := 0, locals := 27 } : Room).cells ({ frames := 2, cells := 0, slots := 0, locals := 27 } : Room).slots) := by
  refine MetFree.of_bodySF (plainFor_of_name own_pn3) hisR ?_
  intro p e s m args below meth c s₁ Bd hml0 hP hK
  obtain ⟨rfl, hZ, hh⟩ := hP
  have hx := Bd.exec
  have hby := Bd.bytes
  have hml : c.maxLocals = 2 := hml0
  have hown : s.vm.findClass "java/util/ArrayList" = some m.cls := findClass_of_methodNamed Bd.named
  have hnm := (name_of_methodNamed Bd.named Bd.method).1
  have hlk : meth.locks = false := BodyLoose.notSynchronized (by assumption)
  have X0 : Stand p l e ({ frames := 2, cells := 0, slots := 0, locals := 27 } : Room) s m #[(.ref a0), (.int p1)] below meth c s₁ [] 0 0 := Stand.of_body Bd
  have e0 : s₁.heap = h0 := by rw [← hh, Bd.state]; rfl
  have N0 := Fr.nil n0
  show own_Done p e below s (Q20 Z a0 p1 sz arr k1 vs r h0 n0) ({ frames := 2, cells := 0, slots := 0, locals := 27 } : Room).cells ({ frames := 2, cells := 0, slots := 0, locals := 27 } : Room).slots (s₁.setTop (entryFrame m #[(.ref a0), (.int p1)] 2))
  refine own_go (U' := s₁.setTop (mkF m 0 #[.val (.ref a0), .val (.int p1)] [])) (fun _ k => castTop (own_ef20 m a0 p1) k) ?_
  refine own_go (U' := s₁.setTop (mkF m 2 #[.val (.ref a0), .val (.int p1)] [(.ref a0), (.int p1)])) (fun _ k => XS.iloadN X0.here hx rfl (hb hby d20_0) rfl (XS.aloadN X0.here hx rfl (hb hby d20_1) rfl rfl k)) ?_
  obtain ⟨T49, X49, e49, st49⟩ := getF X0 hx hZ hown (host := "") (Or.inl (hw _ (own_mem 97 rfl))) Via.refl e0 F_s (g := (mkF m 2 #[.val (.ref a0), .val (.int p1)] [(.ref a0), (.int p1)])) rfl rfl (hb hby d20_2)
  refine own_go (U' := T49.setTop (mkF m 5 #[.val (.ref a0), .val (.int p1)] [(.int sz), (.int p1)])) (fun _ k => st49 _ k) ?_
  obtain ⟨_, _, ⟨T50, L50, k50, n50⟩, -, X50, ⟨Lc50, hQ50, l50, y50, z50⟩, st50⟩ := Jvm.LawKit.callS X49 hx (y := (⟨"java/util/Objects", "checkIndex", "(II)I"⟩ : MethodName)) hown (mvT hZ (hw _ (own_mem 145 rfl))) (mvT hZ (hw _ (own_mem 146 rfl))) (mvT hZ (hw _ (own_mem 147 rfl))) (mvT hZ (hw _ (own_mem 148 rfl))) (by decide) (backOf (W := 0) (rm21 l Z aw hw [] p1 sz h0 n0 Z0 (by first | assumption | decide | rfl) (by first | assumption | decide | rfl)) hZ (hw _ (own_mem 148 rfl)) (hw _ (own_mem 147 rfl)) (by decide) (by decide)) (g := (mkF m 5 #[.val (.ref a0), .val (.int p1)] [(.int sz), (.int p1)])) rfl (by rw [hml]; rfl) (argsL := [(.int p1), (.int sz)]) (rest := []) (lenOf own_pd8 rfl) rfl (by show 2 * 0 + _ ≤ _; exact Nat.le_of_eq rfl) (hb hby d20_5) (fun _ _ => ⟨rfl, e49, (by decide : 0 + 0 ≤ _), (by decide : 0 + 0 ≤ _)⟩)
  dsimp only [Pt.U, Pt.locs, Pt.cells, Pt.slots] at X50 l50 y50 z50 st50 hQ50
  subst l50 y50 z50
  obtain ⟨rfl, N50q, e50⟩ := hQ50
  have N50 := Fr.app N0 N50q
  refine own_go (U' := T50.setTop (mkF m 8 #[.val (.ref a0), .val (.int p1)] [(.int p1)])) (fun _ k => st50 _ k) ?_
  refine own_go (U' := T50.setTop (mkF m 11 #[.val (.ref a0), .val (.int p1)] [(.int p1), (.ref a0)])) (fun _ k => XS.pop X50.here hx rfl (hb hby d20_8) rfl rfl (XS.aloadN X50.here hx rfl (hb hby d20_9) rfl rfl (XS.iloadN X50.here hx rfl (hb hby d20_10) rfl k))) ?_
  obtain ⟨cq51, kq51, q51a, q51b, q51c⟩ := isOf hZ e50 E_a
  obtain ⟨_, _, ⟨T51, L51, k51, n51⟩, -, X51, ⟨Lc51, hQ51, l51, y51, z51⟩, st51⟩ := X50.virtualBack hx (y := (⟨"java/util/ArrayList", "elementData", "(I)Ljava/lang/Object;"⟩ : MethodName)) (z := (⟨"java/util/ArrayList", "elementData", "(I)Ljava/lang/Object;"⟩ : MethodName)) hown (mvT hZ (hw _ (own_mem 153 rfl))) (mvT hZ (hw _ (own_mem 154 rfl))) (notFace_of_selects (args := #[]) (mvT hZ (hw _ (own_mem 156 rfl)))) (mvT hZ (hw _ (own_mem 156 rfl))) (mvT hZ (hw _ (own_mem 155 rfl))) (by decide) (backOf (W := 0) (rm23 l Z aw hw [] a0 p1 arr k1 vs r h0 n0 Z0 F_e V_a (by first | assumption | decide | rfl) (by first | assumption | decide | rfl) (by first | assumption | decide | rfl)) hZ (hw _ (own_mem 157 rfl)) (hw _ (own_mem 37 rfl)) (by decide) (by decide)) q51a q51c (g := (mkF m 11 #[.val (.ref a0), .val (.int p1)] [(.int p1), (.ref a0)])) rfl (by rw [hml]; rfl) (Steps.refl _) (argsL := [(.int p1)]) (rest := []) (lenOf own_pd9 rfl) rfl (by show 2 * 0 + _ ≤ _; exact Nat.le_of_eq rfl) (hb hby d20_11) (fun _ _ => ⟨rfl, e50, (by decide : 0 + 0 ≤ _), (by decide : 0 + 0 ≤ _)⟩)
  dsimp only [Pt.U, Pt.locs, Pt.cells, Pt.slots] at X51 l51 y51 z51 st51 hQ51
  subst l51 y51 z51
  obtain ⟨rfl, N51q, e51⟩ := hQ51
  have N51 := Fr.app N50 N51q
  refine own_go (U' := T51.setTop (mkF m 14 #[.val (.ref a0), .val (.int p1)] [(.ref r)])) (fun _ k => st51.trans k) ?_
  refine own_ret X51 (v := (some (.ref r))) hlk (fun h => by rw [Bd.returns] at h; cases h) (by decide) (by decide) (fun fs hr => own_retR X51 hx Bd.returns rfl rfl rfl (hb hby d20_14) hr) ?_
  show (Q20 Z a0 p1 sz arr k1 vs r h0 n0) _ T51.heap _
  rw [e51]
  exact ⟨by first | rfl | decide, N51, rfl⟩
theorem d10_0 : decode jdk_22_method_1_code 0 = .ok (.aload_n 0, 1) := by decide +kernel
theorem d10_1 : decode jdk_22_method_1_code 1 = .ok (.invokespecial 1, 3) := by decide +kernel
theorem d10_4 : decode jdk_22_method_1_code 4 = .ok (.return_, 1) := by decide +kernel
theorem own_pn6 : plainName "java/util/AbstractCollection" = true := by first | (simp [plainName, overriddenIn]; done) | decide +kernel
theorem own_ef10 (m : MethodId) (x0 : Addr) : entryFrame m #[(.ref x0)] 1 = mkF m 0 #[.val (.ref x0)] [] := by first | (simp [entryFrame, mkF, argsToLocals, Value.category]; done) | rfl
def Q10 (Z : State) (a0 : Addr) (h0 : Heap) (n0 : Nat) (v : Option Value) (h : Heap) (L : List Loc) : Prop := v = none ∧ Fr n0 L ∧ h = h0
set_option maxRecDepth 65536 in
set_option maxHeartbeats 40000000 in
theorem rm10 (l : Launch) (Z : State) (aw : Array Value) (hw : ∀ d ∈ tables_1, d.before aw Z = true) (ws : List Jvm.Cond) (a0 : Addr) (h0 : Heap) (n0 : Nat) (Z0 : n0 ≤ h0.size) :
    MetFree l (⟨"java/util/AbstractCollection", "<init>", "()V"⟩ : MethodName) (head1 (Jvm.Cond.code (⟨"java/util/AbstractCollection", "<init>", "()V"⟩ : MethodName) jdk_22_method_1_code 1 none :: ws) ({ frames := 1, cells := 0, slots := 0, locals := 12 } : Room)) (fun a U => a = #[(.ref a0)] ∧ Z.Warmed39 U.vm ∧ U.heap = h0) (fun _ _ _ _ _ => True) (fun _ U o U' => ∃ v L, o = .returned v ∧ (Q10 Z a0 h0 n0) v U'.heap L ∧ FrameEnd U o U' L ({ frames := 1, cells := 0, slots := 0, locals := 12 } : Room).cells ({ frames := 1, cells := 0, slots := 0, locals := 12 } : Room).slots) := by
  refine MetFree.of_bodySF (plainFor_of_name own_pn6) hisR ?_
  intro p e s m args below meth c s₁ Bd hml0 hP hK
  obtain ⟨rfl, hZ, hh⟩ := hP
  have hx := Bd.exec
  have hby := Bd.bytes
  have hml : c.maxLocals = 1 := hml0
  have hown : s.vm.findClass "java/util/AbstractCollection" = some m.cls := findClass_of_methodNamed Bd.named
  have hnm := (name_of_methodNamed Bd.named Bd.method).1
  have hlk : meth.locks = false := BodyLoose.notSynchronized (by assumption)
  have X0 : Stand p l e ({ frames := 1, cells := 0, slots := 0, locals := 12 } : Room) s m #[(.ref a0)] below meth c s₁ [] 0 0 := Stand.of_body Bd
  have e0 : s₁.heap = h0 := by rw [← hh, Bd.state]; rfl
  have N0 := Fr.nil n0
  show own_Done p e below s (Q10 Z a0 h0 n0) ({ frames := 1, cells := 0, slots := 0, locals := 12 } : Room).cells ({ frames := 1, cells := 0, slots := 0, locals := 12 } : Room).slots (s₁.setTop (entryFrame m #[(.ref a0)] 1))
  refine own_go (U' := s₁.setTop (mkF m 0 #[.val (.ref a0)] [])) (fun _ k => castTop (own_ef10 m a0) k) ?_
  refine own_go (U' := s₁.setTop (mkF m 1 #[.val (.ref a0)] [(.ref a0)])) (fun _ k => XS.aloadN X0.here hx rfl (hb hby d10_0) rfl rfl k) ?_
  obtain ⟨T52, X52, e52, st52⟩ := initO X0 hx hZ hown (hw _ (own_mem 53 rfl)) (hw _ (own_mem 29 rfl)) (hw _ (own_mem 30 rfl)) e0 (g := (mkF m 1 #[.val (.ref a0)] [(.ref a0)])) rfl (by rw [hml]; rfl) rfl (hb hby d10_1) (by decide) (W := 0) (by show 2 * 0 + _ ≤ _; exact Nat.le_of_eq rfl) (by decide)
  refine own_go (U' := T52.setTop (mkF m 4 #[.val (.ref a0)] [])) (fun _ k => st52 _ k) ?_
  refine own_ret X52 (v := none) hlk (fun _ => rfl) (by decide) (by decide) (fun fs hr => X52.returnOut hx Bd.returns (hb hby d10_4) hr) ?_
  show (Q10 Z a0 h0 n0) _ T52.heap _
  rw [e52]
  exact ⟨rfl, N0, rfl⟩
theorem d9_0 : decode jdk_39_method_1_code 0 = .ok (.aload_n 0, 1) := by decide +kernel
theorem d9_1 : decode jdk_39_method_1_code 1 = .ok (.invokespecial 1, 3) := by decide +kernel
theorem own_pd10 : parseMethodDescriptor "()V" = some ⟨[], none⟩ := by decide +kernel
theorem d9_4 : decode jdk_39_method_1_code 4 = .ok (.aload_n 0, 1) := by decide +kernel
theorem d9_5 : decode jdk_39_method_1_code 5 = .ok (.iconst 0, 1) := by decide +kernel
theorem d9_6 : decode jdk_39_method_1_code 6 = .ok (.putfield 7, 3) := by decide +kernel
theorem d9_9 : decode jdk_39_method_1_code 9 = .ok (.return_, 1) := by decide +kernel
theorem own_pn7 : plainName "java/util/AbstractList" = true := by first | (simp [plainName, overriddenIn]; done) | decide +kernel
theorem own_ef9 (m : MethodId) (x0 : Addr) : entryFrame m #[(.ref x0)] 1 = mkF m 0 #[.val (.ref x0)] [] := by first | (simp [entryFrame, mkF, argsToLocals, Value.category]; done) | rfl
def Q9 (Z : State) (a0 : Addr) (h0 : Heap) (n0 : Nat) (v : Option Value) (h : Heap) (L : List Loc) : Prop := v = none ∧ Fr n0 L ∧ Keep h0 h [a0] ∧ Exa Z h a0 "java/util/ArrayList" ∧ Fld Z h a0 "java/util/ArrayList" "size" "I" (.int (0 : Int32)) ∧ Fld Z h a0 "java/util/ArrayList" "elementData" "[Ljava/lang/Object;" .null ∧ Fld Z h a0 "java/util/AbstractList" "modCount" "I" (.int (0 : Int32))
set_option maxRecDepth 65536 in
set_option maxHeartbeats 40000000 in
theorem rm9 (l : Launch) (Z : State) (aw : Array Value) (hw : ∀ d ∈ tables_1, d.before aw Z = true) (ws : List Jvm.Cond) (a0 : Addr) (h0 : Heap) (n0 : Nat) (Z0 : n0 ≤ h0.size) (E_a : Exa Z h0 a0 "java/util/ArrayList") (F_s : Fld Z h0 a0 "java/util/ArrayList" "size" "I" (.int (0 : Int32))) (F_e : Fld Z h0 a0 "java/util/ArrayList" "elementData" "[Ljava/lang/Object;" .null) (F_m : Fld Z h0 a0 "java/util/AbstractList" "modCount" "I" (.int (0 : Int32))) (g_a0 : n0 ≤ a0) :
    MetFree l (⟨"java/util/AbstractList", "<init>", "()V"⟩ : MethodName) (head1 (Jvm.Cond.code (⟨"java/util/AbstractList", "<init>", "()V"⟩ : MethodName) jdk_39_method_1_code 1 none :: ws) ({ frames := 2, cells := 0, slots := 0, locals := 24 } : Room)) (fun a U => a = #[(.ref a0)] ∧ Z.Warmed39 U.vm ∧ U.heap = h0) (fun _ _ _ _ _ => True) (fun _ U o U' => ∃ v L, o = .returned v ∧ (Q9 Z a0 h0 n0) v U'.heap L ∧ FrameEnd U o U' L ({ frames := 2, cells := 0, slots := 0, locals := 24 } : Room).cells ({ frames := 2, cells := 0, slots := 0, locals := 24 } : Room).slots) := by
  refine MetFree.of_bodySF (plainFor_of_name own_pn7) hisR ?_
  intro p e s m args below meth c s₁ Bd hml0 hP hK
  obtain ⟨rfl, hZ, hh⟩ := hP
  have hx := Bd.exec
  have hby := Bd.bytes
  have hml : c.maxLocals = 1 := hml0
  have hown : s.vm.findClass "java/util/AbstractList" = some m.cls := findClass_of_methodNamed Bd.named
  have hnm := (name_of_methodNamed Bd.named Bd.method).1
  have hlk : meth.locks = false := BodyLoose.notSynchronized (by assumption)
  have X0 : Stand p l e ({ frames := 2, cells := 0, slots := 0, locals := 24 } : Room) s m #[(.ref a0)] below meth c s₁ [] 0 0 := Stand.of_body Bd
  have e0 : s₁.heap = h0 := by rw [← hh, Bd.state]; rfl
  have N0 := Fr.nil n0
  show own_Done p e below s (Q9 Z a0 h0 n0) ({ frames := 2, cells := 0, slots := 0, locals := 24 } : Room).cells ({ frames := 2, cells := 0, slots := 0, locals := 24 } : Room).slots (s₁.setTop (entryFrame m #[(.ref a0)] 1))
  refine own_go (U' := s₁.setTop (mkF m 0 #[.val (.ref a0)] [])) (fun _ k => castTop (own_ef9 m a0) k) ?_
  refine own_go (U' := s₁.setTop (mkF m 1 #[.val (.ref a0)] [(.ref a0)])) (fun _ k => XS.aloadN X0.here hx rfl (hb hby d9_0) rfl rfl k) ?_
  obtain ⟨_, _, ⟨T53, L53, k53, n53⟩, -, X53, ⟨Lc53, hQ53, l53, y53, z53⟩, st53⟩ := X0.specialBack hx (y := (⟨"java/util/AbstractCollection", "<init>", "()V"⟩ : MethodName)) rfl hown (mvT hZ (hw _ (own_mem 47 rfl))) (mvT hZ (hw _ (own_mem 48 rfl))) (mvT hZ (hw _ (own_mem 52 rfl))) (by decide) (backOf (W := 0) (rm10 l Z aw hw [] a0 h0 n0 Z0 ) hZ (hw _ (own_mem 52 rfl)) (hw _ (own_mem 51 rfl)) (by decide) (by decide)) (g := (mkF m 1 #[.val (.ref a0)] [(.ref a0)])) rfl (by rw [hml]; rfl) (Steps.refl _) (a := a0) (argsL := []) (rest := []) (lenOf own_pd10 rfl) rfl (by show 2 * 0 + _ ≤ _; exact Nat.le_of_eq rfl) (hb hby d9_1) (fun _ _ => ⟨rfl, e0, (by decide : 0 + 0 ≤ _), (by decide : 0 + 0 ≤ _)⟩)
  dsimp only [Pt.U, Pt.locs, Pt.cells, Pt.slots] at X53 l53 y53 z53 st53 hQ53
  subst l53 y53 z53
  obtain ⟨rfl, N53q, e53⟩ := hQ53
  have N53 := Fr.app N0 N53q
  refine own_go (U' := T53.setTop (mkF m 4 #[.val (.ref a0)] [])) (fun _ k => st53.trans k) ?_
  refine own_go (U' := T53.setTop (mkF m 6 #[.val (.ref a0)] [(.int (0 : Int32)), (.ref a0)])) (fun _ k => XS.aloadN X53.here hx rfl (hb hby d9_4) rfl rfl (XS.iconst X53.here hx rfl (hb hby d9_5) k)) ?_
  obtain ⟨T54, h54, X54, e54, W54, st54⟩ := putF X53 hx hZ hown (host := "") (Or.inl (hw _ (own_mem 54 rfl))) Via.refl e53 F_m E_a (Or.inl (hw _ (own_mem 55 rfl))) (hw _ (own_mem 36 rfl)) (ty := .int) (by decide) rfl rfl (g := (mkF m 6 #[.val (.ref a0)] [(.int (0 : Int32)), (.ref a0)])) rfl rfl (hb hby d9_6)
  have c54_0 := E_a.wr W54
  have c54_1 := F_s.other W54 (Or.inr (slot_ne (Or.inl (hw _ (own_mem 98 rfl))) (Or.inl (hw _ (own_mem 55 rfl))) (by decide) (t := .int) (t' := .int) (by decide) (by decide)))
  have c54_2 := F_e.other W54 (Or.inr (slot_ne (Or.inl (hw _ (own_mem 58 rfl))) (Or.inl (hw _ (own_mem 55 rfl))) (by decide) (t := (.array (.object "java/lang/Object"))) (t' := .int) (by decide) (by decide)))
  have w54 : Fld Z h54 a0 "java/util/AbstractList" "modCount" "I" (.int (0 : Int32)) := F_m.same W54
  have Z54 : n0 ≤ h54.size := Nat.le_trans Z0 (Keep.of_wr W54).1
  have K54 := Keep.wr (Keep.refl h0 [a0]) W54 (Or.inl (by simp))
  have N54 := Fr.snoc X54 N53 g_a0
  refine own_go (U' := T54.setTop (mkF m 9 #[.val (.ref a0)] [])) (fun _ k => st54 _ k) ?_
  refine own_ret X54 (v := none) hlk (fun _ => rfl) (by decide) (by decide) (fun fs hr => X54.returnOut hx Bd.returns (hb hby d9_9) hr) ?_
  show (Q9 Z a0 h0 n0) _ T54.heap _
  rw [e54]
  exact ⟨rfl, N54, K54, c54_0, c54_1, c54_2, w54⟩
theorem d8_0 : decode jdk_38_method_2_code 0 = .ok (.aload_n 0, 1) := by decide +kernel
theorem d8_1 : decode jdk_38_method_2_code 1 = .ok (.invokespecial 1, 3) := by decide +kernel
theorem d8_4 : decode jdk_38_method_2_code 4 = .ok (.aload_n 0, 1) := by decide +kernel
theorem d8_5 : decode jdk_38_method_2_code 5 = .ok (.getstatic 39, 3) := by decide +kernel
theorem d8_8 : decode jdk_38_method_2_code 8 = .ok (.putfield 9, 3) := by decide +kernel
theorem d8_11 : decode jdk_38_method_2_code 11 = .ok (.return_, 1) := by decide +kernel
theorem own_ef8 (m : MethodId) (x0 : Addr) : entryFrame m #[(.ref x0)] 1 = mkF m 0 #[.val (.ref x0)] [] := by first | (simp [entryFrame, mkF, argsToLocals, Value.category]; done) | rfl
def Q8 (Z : State) (a0 : Addr) (w : Addr) (h0 : Heap) (n0 : Nat) (v : Option Value) (h : Heap) (L : List Loc) : Prop := v = none ∧ Fr n0 L ∧ Keep h0 h [a0] ∧ Exa Z h a0 "java/util/ArrayList" ∧ Fld Z h a0 "java/util/ArrayList" "size" "I" (.int (0 : Int32)) ∧ Fld Z h a0 "java/util/ArrayList" "elementData" "[Ljava/lang/Object;" (.ref w) ∧ Fld Z h a0 "java/util/AbstractList" "modCount" "I" (.int (0 : Int32))
set_option maxRecDepth 65536 in
set_option maxHeartbeats 40000000 in
theorem rm8 (l : Launch) (Z : State) (aw : Array Value) (hw : ∀ d ∈ tables_1, d.before aw Z = true) (ws : List Jvm.Cond) (a0 : Addr) (w : Addr) (h0 : Heap) (n0 : Nat) (Z0 : n0 ≤ h0.size) (S_df : Sta Z h0 "java/util/ArrayList" "DEFAULTCAPACITY_EMPTY_ELEMENTDATA" "[Ljava/lang/Object;" (.ref w)) (E_a : Exa Z h0 a0 "java/util/ArrayList") (F_s : Fld Z h0 a0 "java/util/ArrayList" "size" "I" (.int (0 : Int32))) (F_e : Fld Z h0 a0 "java/util/ArrayList" "elementData" "[Ljava/lang/Object;" .null) (F_m : Fld Z h0 a0 "java/util/AbstractList" "modCount" "I" (.int (0 : Int32))) (g_a0 : n0 ≤ a0) :
    MetFree l (⟨"java/util/ArrayList", "<init>", "()V"⟩ : MethodName) (head1 (Jvm.Cond.code (⟨"java/util/ArrayList", "<init>", "()V"⟩ : MethodName) jdk_38_method_2_code 1 none :: ws) ({ frames := 3, cells := 0, slots := 0, locals := 36 } : Room)) (fun a U => a = #[(.ref a0)] ∧ Z.Warmed39 U.vm ∧ U.heap = h0) (fun _ _ _ _ _ => True) (fun _ U o U' => ∃ v L, o = .returned v ∧ (Q8 Z a0 w h0 n0) v U'.heap L ∧ FrameEnd U o U' L ({ frames := 3, cells := 0, slots := 0, locals := 36 } : Room).cells ({ frames := 3, cells := 0, slots := 0, locals := 36 } : Room).slots) := by
  refine MetFree.of_bodySF (plainFor_of_name own_pn3) hisR ?_
  intro p e s m args below meth c s₁ Bd hml0 hP hK
  obtain ⟨rfl, hZ, hh⟩ := hP
  have hx := Bd.exec
  have hby := Bd.bytes
  have hml : c.maxLocals = 1 := hml0
  have hown : s.vm.findClass "java/util/ArrayList" = some m.cls := findClass_of_methodNamed Bd.named
  have hnm := (name_of_methodNamed Bd.named Bd.method).1
  have hlk : meth.locks = false := BodyLoose.notSynchronized (by assumption)
  have X0 : Stand p l e ({ frames := 3, cells := 0, slots := 0, locals := 36 } : Room) s m #[(.ref a0)] below meth c s₁ [] 0 0 := Stand.of_body Bd
  have e0 : s₁.heap = h0 := by rw [← hh, Bd.state]; rfl
  have N0 := Fr.nil n0
  show own_Done p e below s (Q8 Z a0 w h0 n0) ({ frames := 3, cells := 0, slots := 0, locals := 36 } : Room).cells ({ frames := 3, cells := 0, slots := 0, locals := 36 } : Room).slots (s₁.setTop (entryFrame m #[(.ref a0)] 1))
  refine own_go (U' := s₁.setTop (mkF m 0 #[.val (.ref a0)] [])) (fun _ k => castTop (own_ef8 m a0) k) ?_
  refine own_go (U' := s₁.setTop (mkF m 1 #[.val (.ref a0)] [(.ref a0)])) (fun _ k => XS.aloadN X0.here hx rfl (hb hby d8_0) rfl rfl k) ?_
  obtain ⟨_, _, ⟨T55, L55, k55, n55⟩, -, X55, ⟨Lc55, hQ55, l55, y55, z55⟩, st55⟩ := X0.specialBack hx (y := (⟨"java/util/AbstractList", "<init>", "()V"⟩ : MethodName)) rfl hown (mvT hZ (hw _ (own_mem 41 rfl))) (mvT hZ (hw _ (own_mem 42 rfl))) (mvT hZ (hw _ (own_mem 46 rfl))) (by decide) (backOf (W := 0) (rm9 l Z aw hw [] a0 h0 n0 Z0 E_a F_s F_e F_m (by first | assumption | decide | rfl)) hZ (hw _ (own_mem 46 rfl)) (hw _ (own_mem 45 rfl)) (by decide) (by decide)) (g := (mkF m 1 #[.val (.ref a0)] [(.ref a0)])) rfl (by rw [hml]; rfl) (Steps.refl _) (a := a0) (argsL := []) (rest := []) (lenOf own_pd10 rfl) rfl (by show 2 * 0 + _ ≤ _; exact Nat.le_of_eq rfl) (hb hby d8_1) (fun _ _ => ⟨rfl, e0, (by decide : 0 + 0 ≤ _), (by decide : 0 + 0 ≤ _)⟩)
  dsimp only [Pt.U, Pt.locs, Pt.cells, Pt.slots] at X55 l55 y55 z55 st55 hQ55
  subst l55 y55 z55
  obtain ⟨rfl, N55q, K55q, xE55, xS55, xD55, xM55⟩ := hQ55
  have N55 := Fr.app N0 N55q
  have c55_0 := own_sta_keepX S_df K55q (allS E_a.nostat all0)
  have c55_1 := E_a.keep K55q
  have Z55 : n0 ≤ T55.heap.size := Nat.le_trans Z0 K55q.1
  have K55 := Keep.trans (Keep.refl h0 [a0]) K55q (allS (Or.inl (by simp)) all0)
  refine own_go (U' := T55.setTop (mkF m 4 #[.val (.ref a0)] [])) (fun _ k => st55.trans k) ?_
  refine own_go (U' := T55.setTop (mkF m 5 #[.val (.ref a0)] [(.ref a0)])) (fun _ k => XS.aloadN X55.here hx rfl (hb hby d8_4) rfl rfl k) ?_
  obtain ⟨T56, X56, e56, st56⟩ := getS2 X55 hx hZ hown (host := "") (Or.inl (hw _ (own_mem 56 rfl))) Via.refl rfl c55_0 (g := (mkF m 5 #[.val (.ref a0)] [(.ref a0)])) rfl (hb hby d8_5)
  refine own_go (U' := T56.setTop (mkF m 8 #[.val (.ref a0)] [(.ref w), (.ref a0)])) (fun _ k => st56 _ k) ?_
  obtain ⟨T57, h57, X57, e57, W57, st57⟩ := putF X56 hx hZ hown (host := "") (Or.inl (hw _ (own_mem 57 rfl))) Via.refl e56 xD55 xE55 (Or.inl (hw _ (own_mem 58 rfl))) (hw _ (own_mem 36 rfl)) (ty := (.array (.object "java/lang/Object"))) (by decide) rfl rfl (g := (mkF m 8 #[.val (.ref a0)] [(.ref w), (.ref a0)])) rfl rfl (hb hby d8_8)
  have c57_0 := c55_0.wr W57
  have c57_1 := xE55.wr W57
  have c57_2 := xS55.other W57 (Or.inr (slot_ne (Or.inl (hw _ (own_mem 98 rfl))) (Or.inl (hw _ (own_mem 58 rfl))) (by decide) (t := .int) (t' := (.array (.object "java/lang/Object"))) (by decide) (by decide)))
  have c57_4 := xM55.other W57 (Or.inr (slot_ne (Or.inl (hw _ (own_mem 55 rfl))) (Or.inl (hw _ (own_mem 58 rfl))) (by decide) (t := .int) (t' := (.array (.object "java/lang/Object"))) (by decide) (by decide)))
  have w57 : Fld Z h57 a0 "java/util/ArrayList" "elementData" "[Ljava/lang/Object;" (.ref w) := xD55.same W57
  have Z57 : n0 ≤ h57.size := Nat.le_trans Z55 (Keep.of_wr W57).1
  have K57 := Keep.wr K55 W57 (Or.inl (by simp))
  have N57 := Fr.snoc X57 N55 g_a0
  refine own_go (U' := T57.setTop (mkF m 11 #[.val (.ref a0)] [])) (fun _ k => st57 _ k) ?_
  refine own_ret X57 (v := none) hlk (fun _ => rfl) (by decide) (by decide) (fun fs hr => X57.returnOut hx Bd.returns (hb hby d8_11) hr) ?_
  show (Q8 Z a0 w h0 n0) _ T57.heap _
  rw [e57]
  exact ⟨rfl, N57, K57, c57_1, c57_2, w57, c57_4⟩
theorem d13_0 : decode jdk_71_method_1_code 0 = .ok (.aload_n 0, 1) := by decide +kernel
theorem d13_1 : decode jdk_71_method_1_code 1 = .ok (.invokespecial 1, 3) := by decide +kernel
theorem d13_4 : decode jdk_71_method_1_code 4 = .ok (.return_, 1) := by decide +kernel
theorem own_pn8 : plainName "java/util/AbstractMap" = true := by first | (simp [plainName, overriddenIn]; done) | decide +kernel
theorem own_ef13 (m : MethodId) (x0 : Addr) : entryFrame m #[(.ref x0)] 1 = mkF m 0 #[.val (.ref x0)] [] := by first | (simp [entryFrame, mkF, argsToLocals, Value.category]; done) | rfl
def Q13 (Z : State) (a0 : Addr) (h0 : Heap) (n0 : Nat) (v : Option Value) (h : Heap) (L : List Loc) : Prop := v = none ∧ Fr n0 L ∧ h = h0
set_option maxRecDepth 65536 in
set_option maxHeartbeats 40000000 in
theorem rm13 (l : Launch) (Z : State) (aw : Array Value) (hw : ∀ d ∈ tables_1, d.before aw Z = true) (ws : List Jvm.Cond) (a0 : Addr) (h0 : Heap) (n0 : Nat) (Z0 : n0 ≤ h0.size) :
    MetFree l (⟨"java/util/AbstractMap", "<init>", "()V"⟩ : MethodName) (head1 (Jvm.Cond.code (⟨"java/util/AbstractMap", "<init>", "()V"⟩ : MethodName) jdk_71_method_1_code 1 none :: ws) ({ frames := 1, cells := 0, slots := 0, locals := 12 } : Room)) (fun a U => a = #[(.ref a0)] ∧ Z.Warmed39 U.vm ∧ U.heap = h0) (fun _ _ _ _ _ => True) (fun _ U o U' => ∃ v L, o = .returned v ∧ (Q13 Z a0 h0 n0) v U'.heap L ∧ FrameEnd U o U' L ({ frames := 1, cells := 0, slots := 0, locals := 12 } : Room).cells ({ frames := 1, cells := 0, slots := 0, locals := 12 } : Room).slots) := by
  refine MetFree.of_bodySF (plainFor_of_name own_pn8) hisR ?_
  intro p e s m args below meth c s₁ Bd hml0 hP hK
  obtain ⟨rfl, hZ, hh⟩ := hP
  have hx := Bd.exec
  have hby := Bd.bytes
  have hml : c.maxLocals = 1 := hml0
  have hown : s.vm.findClass "java/util/AbstractMap" = some m.cls := findClass_of_methodNamed Bd.named
  have hnm := (name_of_methodNamed Bd.named Bd.method).1
  have hlk : meth.locks = false := BodyLoose.notSynchronized (by assumption)
  have X0 : Stand p l e ({ frames := 1, cells := 0, slots := 0, locals := 12 } : Room) s m #[(.ref a0)] below meth c s₁ [] 0 0 := Stand.of_body Bd
  have e0 : s₁.heap = h0 := by rw [← hh, Bd.state]; rfl
  have N0 := Fr.nil n0
  show own_Done p e below s (Q13 Z a0 h0 n0) ({ frames := 1, cells := 0, slots := 0, locals := 12 } : Room).cells ({ frames := 1, cells := 0, slots := 0, locals := 12 } : Room).slots (s₁.setTop (entryFrame m #[(.ref a0)] 1))
  refine own_go (U' := s₁.setTop (mkF m 0 #[.val (.ref a0)] [])) (fun _ k => castTop (own_ef13 m a0) k) ?_
  refine own_go (U' := s₁.setTop (mkF m 1 #[.val (.ref a0)] [(.ref a0)])) (fun _ k => XS.aloadN X0.here hx rfl (hb hby d13_0) rfl rfl k) ?_
  obtain ⟨T58, X58, e58, st58⟩ := initO X0 hx hZ hown (hw _ (own_mem 82 rfl)) (hw _ (own_mem 29 rfl)) (hw _ (own_mem 30 rfl)) e0 (g := (mkF m 1 #[.val (.ref a0)] [(.ref a0)])) rfl (by rw [hml]; rfl) rfl (hb hby d13_1) (by decide) (W := 0) (by show 2 * 0 + _ ≤ _; exact Nat.le_of_eq rfl) (by decide)
  refine own_go (U' := T58.setTop (mkF m 4 #[.val (.ref a0)] [])) (fun _ k => st58 _ k) ?_
  refine own_ret X58 (v := none) hlk (fun _ => rfl) (by decide) (by decide) (fun fs hr => X58.returnOut hx Bd.returns (hb hby d13_4) hr) ?_
  show (Q13 Z a0 h0 n0) _ T58.heap _
  rw [e58]
  exact ⟨rfl, N0, rfl⟩
theorem d12_0 : decode jdk_69_method_7_code 0 = .ok (.aload_n 0, 1) := by decide +kernel
theorem d12_1 : decode jdk_69_method_7_code 1 = .ok (.invokespecial 43, 3) := by decide +kernel
theorem d12_4 : decode jdk_69_method_7_code 4 = .ok (.aload_n 0, 1) := by decide +kernel
theorem d12_5 : decode jdk_69_method_7_code 5 = .ok (.ldc 92, 2) := by decide +kernel
theorem d12_7 : decode jdk_69_method_7_code 7 = .ok (.putfield 81, 3) := by decide +kernel
theorem d12_10 : decode jdk_69_method_7_code 10 = .ok (.return_, 1) := by decide +kernel
theorem own_pn9 : plainName "java/util/HashMap" = true := by first | (simp [plainName, overriddenIn]; done) | decide +kernel
theorem own_ef12 (m : MethodId) (x0 : Addr) : entryFrame m #[(.ref x0)] 1 = mkF m 0 #[.val (.ref x0)] [] := by first | (simp [entryFrame, mkF, argsToLocals, Value.category]; done) | rfl
def Q12 (Z : State) (a0 : Addr) (h0 : Heap) (n0 : Nat) (v : Option Value) (h : Heap) (L : List Loc) : Prop := v = none ∧ Fr n0 L ∧ Keep h0 h [a0] ∧ Exa Z h a0 "java/util/HashMap"
set_option maxRecDepth 65536 in
set_option maxHeartbeats 40000000 in
theorem rm12 (l : Launch) (Z : State) (aw : Array Value) (hw : ∀ d ∈ tables_1, d.before aw Z = true) (ws : List Jvm.Cond) (a0 : Addr) (h0 : Heap) (n0 : Nat) (Z0 : n0 ≤ h0.size) (E_a : Exa Z h0 a0 "java/util/HashMap") (F_l : Fld Z h0 a0 "java/util/HashMap" "loadFactor" "F" (.float (0 : UInt32))) (g_a0 : n0 ≤ a0) :
    MetFree l (⟨"java/util/HashMap", "<init>", "()V"⟩ : MethodName) (head1 (Jvm.Cond.code (⟨"java/util/HashMap", "<init>", "()V"⟩ : MethodName) jdk_69_method_7_code 1 none :: ws) ({ frames := 2, cells := 0, slots := 0, locals := 24 } : Room)) (fun a U => a = #[(.ref a0)] ∧ Z.Warmed39 U.vm ∧ U.heap = h0) (fun _ _ _ _ _ => True) (fun _ U o U' => ∃ v L, o = .returned v ∧ (Q12 Z a0 h0 n0) v U'.heap L ∧ FrameEnd U o U' L ({ frames := 2, cells := 0, slots := 0, locals := 24 } : Room).cells ({ frames := 2, cells := 0, slots := 0, locals := 24 } : Room).slots) := by
  refine MetFree.of_bodySF (plainFor_of_name own_pn9) hisR ?_
  intro p e s m args below meth c s₁ Bd hml0 hP hK
  obtain ⟨rfl, hZ, hh⟩ := hP
  have hx := Bd.exec
  have hby := Bd.bytes
  have hml : c.maxLocals = 1 := hml0
  have hown : s.vm.findClass "java/util/HashMap" = some m.cls := findClass_of_methodNamed Bd.named
  have hnm := (name_of_methodNamed Bd.named Bd.method).1
  have hlk : meth.locks = false := BodyLoose.notSynchronized (by assumption)
  have X0 : Stand p l e ({ frames := 2, cells := 0, slots := 0, locals := 24 } : Room) s m #[(.ref a0)] below meth c s₁ [] 0 0 := Stand.of_body Bd
  have e0 : s₁.heap = h0 := by rw [← hh, Bd.state]; rfl
  have N0 := Fr.nil n0
  show own_Done p e below s (Q12 Z a0 h0 n0) ({ frames := 2, cells := 0, slots := 0, locals := 24 } : Room).cells ({ frames := 2, cells := 0, slots := 0, locals := 24 } : Room).slots (s₁.setTop (entryFrame m #[(.ref a0)] 1))
  refine own_go (U' := s₁.setTop (mkF m 0 #[.val (.ref a0)] [])) (fun _ k => castTop (own_ef12 m a0) k) ?_
  refine own_go (U' := s₁.setTop (mkF m 1 #[.val (.ref a0)] [(.ref a0)])) (fun _ k => XS.aloadN X0.here hx rfl (hb hby d12_0) rfl rfl k) ?_
  obtain ⟨_, _, ⟨T59, L59, k59, n59⟩, -, X59, ⟨Lc59, hQ59, l59, y59, z59⟩, st59⟩ := X0.specialBack hx (y := (⟨"java/util/AbstractMap", "<init>", "()V"⟩ : MethodName)) rfl hown (mvT hZ (hw _ (own_mem 76 rfl))) (mvT hZ (hw _ (own_mem 77 rfl))) (mvT hZ (hw _ (own_mem 81 rfl))) (by decide) (backOf (W := 0) (rm13 l Z aw hw [] a0 h0 n0 Z0 ) hZ (hw _ (own_mem 81 rfl)) (hw _ (own_mem 80 rfl)) (by decide) (by decide)) (g := (mkF m 1 #[.val (.ref a0)] [(.ref a0)])) rfl (by rw [hml]; rfl) (Steps.refl _) (a := a0) (argsL := []) (rest := []) (lenOf own_pd10 rfl) rfl (by show 2 * 0 + _ ≤ _; exact Nat.le_of_eq rfl) (hb hby d12_1) (fun _ _ => ⟨rfl, e0, (by decide : 0 + 0 ≤ _), (by decide : 0 + 0 ≤ _)⟩)
  dsimp only [Pt.U, Pt.locs, Pt.cells, Pt.slots] at X59 l59 y59 z59 st59 hQ59
  subst l59 y59 z59
  obtain ⟨rfl, N59q, e59⟩ := hQ59
  have N59 := Fr.app N0 N59q
  refine own_go (U' := T59.setTop (mkF m 4 #[.val (.ref a0)] [])) (fun _ k => st59.trans k) ?_
  refine own_go (U' := T59.setTop (mkF m 7 #[.val (.ref a0)] [(.float (1061158912 : UInt32)), (.ref a0)])) (fun _ k => XS.aloadN X59.here hx rfl (hb hby d12_4) rfl rfl (X59.ldcFloatC hx hown (mvT hZ (hw _ (own_mem 83 rfl))) (g := (mkF m 5 #[.val (.ref a0)] [(.ref a0)])) rfl (hb hby d12_5) _ k)) ?_
  obtain ⟨T60, h60, X60, e60, W60, st60⟩ := putF X59 hx hZ hown (host := "") (Or.inl (hw _ (own_mem 84 rfl))) Via.refl e59 F_l E_a (Or.inr ⟨(hw _ (own_mem 85 rfl)), rfl, hnm⟩) (hw _ (own_mem 71 rfl)) (ty := .float) (by decide) rfl rfl (g := (mkF m 7 #[.val (.ref a0)] [(.float (1061158912 : UInt32)), (.ref a0)])) rfl rfl (hb hby d12_7)
  have c60_0 := E_a.wr W60
  have w60 : Fld Z h60 a0 "java/util/HashMap" "loadFactor" "F" (.float (1061158912 : UInt32)) := F_l.same W60
  have Z60 : n0 ≤ h60.size := Nat.le_trans Z0 (Keep.of_wr W60).1
  have K60 := Keep.wr (Keep.refl h0 [a0]) W60 (Or.inl (by simp))
  have N60 := Fr.snoc X60 N59 g_a0
  refine own_go (U' := T60.setTop (mkF m 10 #[.val (.ref a0)] [])) (fun _ k => st60 _ k) ?_
  refine own_ret X60 (v := none) hlk (fun _ => rfl) (by decide) (by decide) (fun fs hr => X60.returnOut hx Bd.returns (hb hby d12_10) hr) ?_
  show (Q12 Z a0 h0 n0) _ T60.heap _
  rw [e60]
  exact ⟨rfl, N60, K60, c60_0⟩
theorem d19_0 : decode jdk_38_method_6_code 0 = .ok (.aload_n 0, 1) := by decide +kernel
theorem d19_1 : decode jdk_38_method_6_code 1 = .ok (.getfield 9, 3) := by decide +kernel
theorem d19_4 : decode jdk_38_method_6_code 4 = .ok (.arraylength, 1) := by decide +kernel
theorem d19_5 : decode jdk_38_method_6_code 5 = .ok (.istore_n 2, 1) := by decide +kernel
theorem d19_6 : decode jdk_38_method_6_code 6 = .ok (.iload_n 2, 1) := by decide +kernel
theorem d19_7 : decode jdk_38_method_6_code 7 = .ok (.ifCond .gt 13, 3) := by decide +kernel
theorem d19_10 : decode jdk_38_method_6_code 10 = .ok (.aload_n 0, 1) := by decide +kernel
theorem d19_11 : decode jdk_38_method_6_code 11 = .ok (.getfield 9, 3) := by decide +kernel
theorem d19_14 : decode jdk_38_method_6_code 14 = .ok (.getstatic 39, 3) := by decide +kernel
theorem d19_17 : decode jdk_38_method_6_code 17 = .ok (.if_acmp .eq 28, 3) := by decide +kernel
theorem d19_45 : decode jdk_38_method_6_code 45 = .ok (.aload_n 0, 1) := by decide +kernel
theorem d19_46 : decode jdk_38_method_6_code 46 = .ok (.bipush 10, 2) := by decide +kernel
theorem d19_48 : decode jdk_38_method_6_code 48 = .ok (.iload_n 1, 1) := by decide +kernel
theorem d19_49 : decode jdk_38_method_6_code 49 = .ok (.invokestatic 79, 3) := by decide +kernel
theorem d19_52 : decode jdk_38_method_6_code 52 = .ok (.anewarray 7, 3) := by decide +kernel
theorem d19_55 : decode jdk_38_method_6_code 55 = .ok (.dup_x1, 1) := by decide +kernel
theorem d19_56 : decode jdk_38_method_6_code 56 = .ok (.putfield 9, 3) := by decide +kernel
theorem d19_59 : decode jdk_38_method_6_code 59 = .ok (.areturn, 1) := by decide +kernel
theorem own_ef19 (m : MethodId) (x0 : Addr) : entryFrame m #[(.ref x0), (.int (1 : Int32))] 4 = mkF m 0 #[.val (.ref x0), .val (.int (1 : Int32)), .unset, .unset] [] := by first | (simp [entryFrame, mkF, argsToLocals, Value.category]; done) | rfl
def Q19 (Z : State) (a0 : Addr) (w : Addr) (k0 : ClassId) (mc : Int32) (h0 : Heap) (n0 : Nat) (v : Option Value) (h : Heap) (L : List Loc) : Prop := ∃ (r : Addr) (k : ClassId), v = some (.ref r) ∧ Fr n0 L ∧ Keep h0 h [a0] ∧ h0.size ≤ r ∧ Exa Z h a0 "java/util/ArrayList" ∧ Fld Z h a0 "java/util/ArrayList" "size" "I" (.int (0 : Int32)) ∧ Fld Z h a0 "java/util/ArrayList" "elementData" "[Ljava/lang/Object;" (.ref r) ∧ Fld Z h a0 "java/util/AbstractList" "modCount" "I" (.int mc) ∧ Arv Z h r k (.object "java/lang/Object") (10 : Int32) [.null, .null, .null, .null, .null, .null, .null, .null, .null, .null] .null ∧ Ovr Z k "java/lang/Object"
set_option maxRecDepth 65536 in
set_option maxHeartbeats 40000000 in
theorem rm19 (l : Launch) (Z : State) (aw : Array Value) (hw : ∀ d ∈ tables_1, d.before aw Z = true) (ws : List Jvm.Cond) (a0 : Addr) (w : Addr) (k0 : ClassId) (mc : Int32) (h0 : Heap) (n0 : Nat) (Z0 : n0 ≤ h0.size) (S_df : Sta Z h0 "java/util/ArrayList" "DEFAULTCAPACITY_EMPTY_ELEMENTDATA" "[Ljava/lang/Object;" (.ref w)) (V_w : Arv Z h0 w k0 (.object "java/lang/Object") (0 : Int32) [] .null) (E_a : Exa Z h0 a0 "java/util/ArrayList") (F_s : Fld Z h0 a0 "java/util/ArrayList" "size" "I" (.int (0 : Int32))) (F_e : Fld Z h0 a0 "java/util/ArrayList" "elementData" "[Ljava/lang/Object;" (.ref w)) (F_m : Fld Z h0 a0 "java/util/AbstractList" "modCount" "I" (.int mc)) (g_a0 : n0 ≤ a0) :
    MetFree l (⟨"java/util/ArrayList", "grow", "(I)[Ljava/lang/Object;"⟩ : MethodName) (head1 (Jvm.Cond.code (⟨"java/util/ArrayList", "grow", "(I)[Ljava/lang/Object;"⟩ : MethodName) jdk_38_method_6_code 4 (some (.array (.object "java/lang/Object"))) :: ws) ({ frames := 1, cells := 1, slots := 10, locals := 14 } : Room)) (fun a U => a = #[(.ref a0), (.int (1 : Int32))] ∧ Z.Warmed39 U.vm ∧ U.heap = h0) (fun _ _ _ _ _ => True) (fun _ U o U' => ∃ v L, o = .returned v ∧ (Q19 Z a0 w k0 mc h0 n0) v U'.heap L ∧ FrameEnd U o U' L ({ frames := 1, cells := 1, slots := 10, locals := 14 } : Room).cells ({ frames := 1, cells := 1, slots := 10, locals := 14 } : Room).slots) := by
  refine MetFree.of_bodySF (plainFor_of_name own_pn3) hisR ?_
  intro p e s m args below meth c s₁ Bd hml0 hP hK
  obtain ⟨rfl, hZ, hh⟩ := hP
  have hx := Bd.exec
  have hby := Bd.bytes
  have hml : c.maxLocals = 4 := hml0
  have hown : s.vm.findClass "java/util/ArrayList" = some m.cls := findClass_of_methodNamed Bd.named
  have hnm := (name_of_methodNamed Bd.named Bd.method).1
  have hlk : meth.locks = false := BodyLoose.notSynchronized (by assumption)
  have X0 : Stand p l e ({ frames := 1, cells := 1, slots := 10, locals := 14 } : Room) s m #[(.ref a0), (.int (1 : Int32))] below meth c s₁ [] 0 0 := Stand.of_body Bd
  have e0 : s₁.heap = h0 := by rw [← hh, Bd.state]; rfl
  have N0 := Fr.nil n0
  show own_Done p e below s (Q19 Z a0 w k0 mc h0 n0) ({ frames := 1, cells := 1, slots := 10, locals := 14 } : Room).cells ({ frames := 1, cells := 1, slots := 10, locals := 14 } : Room).slots (s₁.setTop (entryFrame m #[(.ref a0), (.int (1 : Int32))] 4))
  refine own_go (U' := s₁.setTop (mkF m 0 #[.val (.ref a0), .val (.int (1 : Int32)), .unset, .unset] [])) (fun _ k => castTop (own_ef19 m a0) k) ?_
  refine own_go (U' := s₁.setTop (mkF m 1 #[.val (.ref a0), .val (.int (1 : Int32)), .unset, .unset] [(.ref a0)])) (fun _ k => XS.aloadN X0.here hx rfl (hb hby d19_0) rfl rfl k) ?_
  obtain ⟨T61, X61, e61, st61⟩ := getF X0 hx hZ hown (host := "") (Or.inl (hw _ (own_mem 57 rfl))) Via.refl e0 F_e (g := (mkF m 1 #[.val (.ref a0), .val (.int (1 : Int32)), .unset, .unset] [(.ref a0)])) rfl rfl (hb hby d19_1)
  refine own_go (U' := T61.setTop (mkF m 4 #[.val (.ref a0), .val (.int (1 : Int32)), .unset, .unset] [(.ref w)])) (fun _ k => st61 _ k) ?_
  have V62 := V_w
  obtain ⟨cl62, Ar62, q62, S62, Ng62, Hh62, G62⟩ := V62
  have hl62 := len_of S62 Ng62
  refine own_go (U' := T61.setTop (mkF m 7 #[.val (.ref a0), .val (.int (1 : Int32)), .val (.int (0 : Int32)), .unset] [(.int (0 : Int32))])) (fun _ k => X61.arraylength hx (own_cell e61 Ar62.1) (State.isArrayOf_alike hZ.alike Ar62.2.1) (g := (mkF m 4 #[.val (.ref a0), .val (.int (1 : Int32)), .unset, .unset] [(.ref w)])) rfl rfl (hb hby d19_4) _ (by rw [hl62]; exact (XS.istoreN X61.here hx rfl (hb hby d19_5) rfl (l' := #[.val (.ref a0), .val (.int (1 : Int32)), .val (.int (0 : Int32)), .unset]) rfl (XS.iloadN X61.here hx rfl (hb hby d19_6) rfl k)))) ?_
  refine own_go (U' := T61.setTop (mkF m 11 #[.val (.ref a0), .val (.int (1 : Int32)), .val (.int (0 : Int32)), .unset] [(.ref a0)])) (fun _ k => XS.ifNo X61.here hx rfl (hb hby d19_7) rfl ((if0 _ _).trans (flt (by decide : ¬ ((0 : Int32) < (0 : Int32)))).2.2.1) (XS.aloadN X61.here hx rfl (hb hby d19_10) rfl rfl k)) ?_
  obtain ⟨T63, X63, e63, st63⟩ := getF X61 hx hZ hown (host := "") (Or.inl (hw _ (own_mem 57 rfl))) Via.refl e61 F_e (g := (mkF m 11 #[.val (.ref a0), .val (.int (1 : Int32)), .val (.int (0 : Int32)), .unset] [(.ref a0)])) rfl rfl (hb hby d19_11)
  refine own_go (U' := T63.setTop (mkF m 14 #[.val (.ref a0), .val (.int (1 : Int32)), .val (.int (0 : Int32)), .unset] [(.ref w)])) (fun _ k => st63 _ k) ?_
  obtain ⟨T64, X64, e64, st64⟩ := getS2 X63 hx hZ hown (host := "") (Or.inl (hw _ (own_mem 56 rfl))) Via.refl e63 S_df (g := (mkF m 14 #[.val (.ref a0), .val (.int (1 : Int32)), .val (.int (0 : Int32)), .unset] [(.ref w)])) rfl (hb hby d19_14)
  refine own_go (U' := T64.setTop (mkF m 17 #[.val (.ref a0), .val (.int (1 : Int32)), .val (.int (0 : Int32)), .unset] [(.ref w), (.ref w)])) (fun _ k => st64 _ k) ?_
  refine own_go (U' := T64.setTop (mkF m 49 #[.val (.ref a0), .val (.int (1 : Int32)), .val (.int (0 : Int32)), .unset] [(.int (1 : Int32)), (.int (10 : Int32)), (.ref a0)])) (fun _ k => Jvm.RoadKit.acmp (g := (mkF m 17 #[.val (.ref a0), .val (.int (1 : Int32)), .val (.int (0 : Int32)), .unset] [(.ref w), (.ref w)])) X64 hx rfl rfl rfl (pc0 := 17) (pc' := 45) (same := true) rfl (hb hby d19_17) rfl (decide_eq_true (congrArg Value.ref (rfl : w = w))) (by decide) (by decide) (XS.aloadN X64.here hx rfl (hb hby d19_45) rfl rfl (XS.bipush X64.here hx rfl (hb hby d19_46) (XS.iloadN X64.here hx rfl (hb hby d19_48) rfl k)))) ?_
  obtain ⟨_, _, ⟨T65, L65, k65, n65⟩, -, X65, ⟨Lc65, hQ65, l65, y65, z65⟩, st65⟩ := Jvm.LawKit.callS X64 hx (y := (⟨"java/lang/Math", "max", "(II)I"⟩ : MethodName)) hown (mvT hZ (hw _ (own_mem 130 rfl))) (mvT hZ (hw _ (own_mem 6 rfl))) (mvT hZ (hw _ (own_mem 2 rfl))) (mvT hZ (hw _ (own_mem 7 rfl))) (by decide) (backOf (W := 1) (rm2 l Z aw hw [] (10 : Int32) (1 : Int32) h0 n0 Z0 ) hZ (hw _ (own_mem 7 rfl)) (hw _ (own_mem 2 rfl)) (by decide) (by decide)) (g := (mkF m 49 #[.val (.ref a0), .val (.int (1 : Int32)), .val (.int (0 : Int32)), .unset] [(.int (1 : Int32)), (.int (10 : Int32)), (.ref a0)])) rfl (by rw [hml]; rfl) (argsL := [(.int (10 : Int32)), (.int (1 : Int32))]) (rest := [(.ref a0)]) (lenOf own_pd8 rfl) rfl (by show 2 * 0 + _ ≤ _; exact Nat.le_of_eq rfl) (hb hby d19_49) (fun _ _ => ⟨rfl, e64, (by decide : 0 + 0 ≤ _), (by decide : 0 + 0 ≤ _)⟩)
  dsimp only [Pt.U, Pt.locs, Pt.cells, Pt.slots] at X65 l65 y65 z65 st65 hQ65
  subst l65 y65 z65
  obtain ⟨rfl, N65q, e65⟩ := hQ65
  have N65 := Fr.app N0 N65q
  refine own_go (U' := T65.setTop (mkF m 52 #[.val (.ref a0), .val (.int (1 : Int32)), .val (.int (0 : Int32)), .unset] [(.int (f_2 (10 : Int32) (1 : Int32))), (.ref a0)])) (fun _ k => st65 _ k) ?_
  rw [show (f_2 (10 : Int32) (1 : Int32)) = (10 : Int32) from by decide]
  obtain ⟨T66, h66, k66, X66, e66, E66, A66, O66, st66⟩ := newR X65 hx hZ hown (hw _ (own_mem 131 rfl)) (hw _ (own_mem 132 rfl)) e65 (g := (mkF m 52 #[.val (.ref a0), .val (.int (1 : Int32)), .val (.int (0 : Int32)), .unset] [(.int (10 : Int32)), (.ref a0)])) rfl (hb hby d19_52) rfl (by decide) (cap := 10) (by decide) (by decide) (by decide) (by decide)
  obtain ⟨b66, g66⟩ : ∃ z, z = h0.size := ⟨_, rfl⟩
  have g_b66 : n0 ≤ b66 := Nat.le_trans Z0 (Nat.le_of_eq g66.symm)
  have sz_b66 : h0.size ≤ b66 := Nat.le_trans (Keep.refl h0 [a0]).1 (Nat.le_of_eq g66.symm)
  have ne_w_b66 : w ≠ b66 := Nat.ne_of_lt (Nat.lt_of_lt_of_le V_w.lt (Nat.le_of_eq g66.symm))
  have ne_a0_b66 : a0 ≠ b66 := Nat.ne_of_lt (Nat.lt_of_lt_of_le E_a.lt (Nat.le_of_eq g66.symm))
  rw [← g66] at A66 st66
  have c66_0 := S_df.ext E66
  have c66_1 := V_w.ext E66
  have c66_2 := E_a.ext E66
  have c66_3 := F_s.ext E66
  have c66_4 := F_e.ext E66
  have c66_5 := F_m.ext E66
  have Z66 : n0 ≤ h66.size := Nat.le_trans Z0 E66.1
  have K66 := Keep.ext (Keep.refl h0 [a0]) E66
  have V_b66 : Arv Z h66 b66 k66 (.object "java/lang/Object") (10 : Int32) [.null, .null, .null, .null, .null, .null, .null, .null, .null, .null] .null := (Arv.new A66 (by decide)).pad (pad_rep [] .null 10)
  refine own_go (U' := T66.setTop (mkF m 55 #[.val (.ref a0), .val (.int (1 : Int32)), .val (.int (0 : Int32)), .unset] [(.ref b66), (.ref a0)])) (fun _ k => st66 _ k) ?_
  refine own_go (U' := T66.setTop (mkF m 56 #[.val (.ref a0), .val (.int (1 : Int32)), .val (.int (0 : Int32)), .unset] [(.ref b66), (.ref a0), (.ref b66)])) (fun _ k => XS.dupX1 X66.here hx rfl (hb hby d19_55) rfl rfl rfl k) ?_
  obtain ⟨T67, h67, X67, e67, W67, st67⟩ := putF X66 hx hZ hown (host := "") (Or.inl (hw _ (own_mem 57 rfl))) Via.refl e66 c66_4 c66_2 (Or.inl (hw _ (own_mem 58 rfl))) (hw _ (own_mem 36 rfl)) (ty := (.array (.object "java/lang/Object"))) (by decide) rfl rfl (g := (mkF m 56 #[.val (.ref a0), .val (.int (1 : Int32)), .val (.int (0 : Int32)), .unset] [(.ref b66), (.ref a0), (.ref b66)])) rfl rfl (hb hby d19_56)
  have ne_w_a0 : w ≠ a0 := (Exa.neArv c66_2 c66_1 (hw _ (own_mem 36 rfl))).symm
  have c67_0 := c66_0.wr W67
  have c67_1 := c66_1.other W67 ne_w_a0
  have c67_2 := c66_2.wr W67
  have c67_3 := c66_3.other W67 (Or.inr (slot_ne (Or.inl (hw _ (own_mem 98 rfl))) (Or.inl (hw _ (own_mem 58 rfl))) (by decide) (t := .int) (t' := (.array (.object "java/lang/Object"))) (by decide) (by decide)))
  have c67_5 := c66_5.other W67 (Or.inr (slot_ne (Or.inl (hw _ (own_mem 55 rfl))) (Or.inl (hw _ (own_mem 58 rfl))) (by decide) (t := .int) (t' := (.array (.object "java/lang/Object"))) (by decide) (by decide)))
  have c67_6 := V_b66.other W67 (Ne.symm ne_a0_b66)
  have w67 : Fld Z h67 a0 "java/util/ArrayList" "elementData" "[Ljava/lang/Object;" (.ref b66) := c66_4.same W67
  have Z67 : n0 ≤ h67.size := Nat.le_trans Z66 (Keep.of_wr W67).1
  have K67 := Keep.wr K66 W67 (Or.inl (by simp))
  have N67 := Fr.snoc X67 N65 g_a0
  refine own_go (U' := T67.setTop (mkF m 59 #[.val (.ref a0), .val (.int (1 : Int32)), .val (.int (0 : Int32)), .unset] [(.ref b66)])) (fun _ k => st67 _ k) ?_
  refine own_ret X67 (v := (some (.ref b66))) hlk (fun h => by rw [Bd.returns] at h; cases h) (by decide) (by decide) (fun fs hr => own_retR X67 hx Bd.returns rfl rfl rfl (hb hby d19_59) hr) ?_
  show (Q19 Z a0 w k0 mc h0 n0) _ T67.heap _
  rw [e67]
  exact ⟨_, _, rfl, N67, K67, sz_b66, c67_2, c67_3, w67, c67_5, c67_6, O66⟩
theorem d18_0 : decode jdk_38_method_7_code 0 = .ok (.aload_n 0, 1) := by decide +kernel
theorem d18_1 : decode jdk_38_method_7_code 1 = .ok (.aload_n 0, 1) := by decide +kernel
theorem d18_2 : decode jdk_38_method_7_code 2 = .ok (.getfield 48, 3) := by decide +kernel
theorem d18_5 : decode jdk_38_method_7_code 5 = .ok (.iconst 1, 1) := by decide +kernel
theorem d18_6 : decode jdk_38_method_7_code 6 = .ok (.iadd, 1) := by decide +kernel
theorem d18_7 : decode jdk_38_method_7_code 7 = .ok (.invokevirtual 69, 3) := by decide +kernel
theorem own_pd11 : parseMethodDescriptor "(I)[Ljava/lang/Object;" = some ⟨[.int], some (.array (.object "java/lang/Object"))⟩ := by decide +kernel
theorem d18_10 : decode jdk_38_method_7_code 10 = .ok (.areturn, 1) := by decide +kernel
theorem own_ef18 (m : MethodId) (x0 : Addr) : entryFrame m #[(.ref x0)] 1 = mkF m 0 #[.val (.ref x0)] [] := by first | (simp [entryFrame, mkF, argsToLocals, Value.category]; done) | rfl
def Q18 (Z : State) (a0 : Addr) (w : Addr) (k0 : ClassId) (mc : Int32) (h0 : Heap) (n0 : Nat) (v : Option Value) (h : Heap) (L : List Loc) : Prop := ∃ (r : Addr) (k : ClassId), v = some (.ref r) ∧ Fr n0 L ∧ Keep h0 h [a0] ∧ h0.size ≤ r ∧ Exa Z h a0 "java/util/ArrayList" ∧ Fld Z h a0 "java/util/ArrayList" "size" "I" (.int (0 : Int32)) ∧ Fld Z h a0 "java/util/ArrayList" "elementData" "[Ljava/lang/Object;" (.ref r) ∧ Fld Z h a0 "java/util/AbstractList" "modCount" "I" (.int mc) ∧ Arv Z h r k (.object "java/lang/Object") (10 : Int32) [.null, .null, .null, .null, .null, .null, .null, .null, .null, .null] .null ∧ Ovr Z k "java/lang/Object"
set_option maxRecDepth 65536 in
set_option maxHeartbeats 40000000 in
theorem rm18 (l : Launch) (Z : State) (aw : Array Value) (hw : ∀ d ∈ tables_1, d.before aw Z = true) (ws : List Jvm.Cond) (a0 : Addr) (w : Addr) (k0 : ClassId) (mc : Int32) (h0 : Heap) (n0 : Nat) (Z0 : n0 ≤ h0.size) (S_df : Sta Z h0 "java/util/ArrayList" "DEFAULTCAPACITY_EMPTY_ELEMENTDATA" "[Ljava/lang/Object;" (.ref w)) (V_w : Arv Z h0 w k0 (.object "java/lang/Object") (0 : Int32) [] .null) (E_a : Exa Z h0 a0 "java/util/ArrayList") (F_s : Fld Z h0 a0 "java/util/ArrayList" "size" "I" (.int (0 : Int32))) (F_e : Fld Z h0 a0 "java/util/ArrayList" "elementData" "[Ljava/lang/Object;" (.ref w)) (F_m : Fld Z h0 a0 "java/util/AbstractList" "modCount" "I" (.int mc)) (g_a0 : n0 ≤ a0) :
    MetFree l (⟨"java/util/ArrayList", "grow", "()[Ljava/lang/Object;"⟩ : MethodName) (head1 (Jvm.Cond.code (⟨"java/util/ArrayList", "grow", "()[Ljava/lang/Object;"⟩ : MethodName) jdk_38_method_7_code 1 (some (.array (.object "java/lang/Object"))) :: ws) ({ frames := 2, cells := 1, slots := 10, locals := 29 } : Room)) (fun a U => a = #[(.ref a0)] ∧ Z.Warmed39 U.vm ∧ U.heap = h0) (fun _ _ _ _ _ => True) (fun _ U o U' => ∃ v L, o = .returned v ∧ (Q18 Z a0 w k0 mc h0 n0) v U'.heap L ∧ FrameEnd U o U' L ({ frames := 2, cells := 1, slots := 10, locals := 29 } : Room).cells ({ frames := 2, cells := 1, slots := 10, locals := 29 } : Room).slots) := by
  refine MetFree.of_bodySF (plainFor_of_name own_pn3) hisR ?_
  intro p e s m args below meth c s₁ Bd hml0 hP hK
  obtain ⟨rfl, hZ, hh⟩ := hP
  have hx := Bd.exec
  have hby := Bd.bytes
  have hml : c.maxLocals = 1 := hml0
  have hown : s.vm.findClass "java/util/ArrayList" = some m.cls := findClass_of_methodNamed Bd.named
  have hnm := (name_of_methodNamed Bd.named Bd.method).1
  have hlk : meth.locks = false := BodyLoose.notSynchronized (by assumption)
  have X0 : Stand p l e ({ frames := 2, cells := 1, slots := 10, locals := 29 } : Room) s m #[(.ref a0)] below meth c s₁ [] 0 0 := Stand.of_body Bd
  have e0 : s₁.heap = h0 := by rw [← hh, Bd.state]; rfl
  have N0 := Fr.nil n0
  show own_Done p e below s (Q18 Z a0 w k0 mc h0 n0) ({ frames := 2, cells := 1, slots := 10, locals := 29 } : Room).cells ({ frames := 2, cells := 1, slots := 10, locals := 29 } : Room).slots (s₁.setTop (entryFrame m #[(.ref a0)] 1))
  refine own_go (U' := s₁.setTop (mkF m 0 #[.val (.ref a0)] [])) (fun _ k => castTop (own_ef18 m a0) k) ?_
  refine own_go (U' := s₁.setTop (mkF m 2 #[.val (.ref a0)] [(.ref a0), (.ref a0)])) (fun _ k => XS.aloadN X0.here hx rfl (hb hby d18_0) rfl rfl (XS.aloadN X0.here hx rfl (hb hby d18_1) rfl rfl k)) ?_
  obtain ⟨T68, X68, e68, st68⟩ := getF X0 hx hZ hown (host := "") (Or.inl (hw _ (own_mem 97 rfl))) Via.refl e0 F_s (g := (mkF m 2 #[.val (.ref a0)] [(.ref a0), (.ref a0)])) rfl rfl (hb hby d18_2)
  refine own_go (U' := T68.setTop (mkF m 5 #[.val (.ref a0)] [(.int (0 : Int32)), (.ref a0)])) (fun _ k => st68 _ k) ?_
  refine own_go (U' := T68.setTop (mkF m 7 #[.val (.ref a0)] [(.int (1 : Int32)), (.ref a0)])) (fun _ k => XS.iconst X68.here hx rfl (hb hby d18_5) (XS.iadd X68.here hx rfl (hb hby d18_6) rfl k)) ?_
  obtain ⟨cq69, q69, q69'⟩ := E_a.cell
  obtain ⟨_, _, ⟨T69, L69, k69, n69⟩, -, X69, ⟨Lc69, hQ69, l69, y69, z69⟩, st69⟩ := X68.privateBack hx (y := (⟨"java/util/ArrayList", "grow", "(I)[Ljava/lang/Object;"⟩ : MethodName)) hown (mvT hZ (hw _ (own_mem 125 rfl))) (mvT hZ (hw _ (own_mem 126 rfl))) (mvT hZ (hw _ (own_mem 128 rfl))) (Cond.privateMethod_at (mvP hZ (hw _ (own_mem 127 rfl)) (args := #[]))) (mvT hZ (hw _ (own_mem 129 rfl))) (by decide) (backOf (W := 0) (rm19 l Z aw hw [] a0 w k0 mc h0 n0 Z0 S_df V_w E_a F_s F_e F_m (by first | assumption | decide | rfl)) hZ (hw _ (own_mem 129 rfl)) (hw _ (own_mem 37 rfl)) (by decide) (by decide)) (g := (mkF m 7 #[.val (.ref a0)] [(.int (1 : Int32)), (.ref a0)])) rfl (by rw [hml]; rfl) (Steps.refl _) (a := a0) (by rw [e68]; exact q69) q69' (argsL := [(.int (1 : Int32))]) (rest := []) (lenOf own_pd11 rfl) rfl (by show 2 * 0 + _ ≤ _; exact Nat.le_of_eq rfl) (hb hby d18_7) (fun _ _ => ⟨rfl, e68, (by decide : 0 + 1 ≤ _), (by decide : 0 + 10 ≤ _)⟩)
  dsimp only [Pt.U, Pt.locs, Pt.cells, Pt.slots] at X69 l69 y69 z69 st69 hQ69
  subst l69 y69 z69
  obtain ⟨r69, kr69, rfl, N69q, K69q, sr69, xE69, xS69, xD69, xM69, xV69, xO69⟩ := hQ69
  have N69 := Fr.app N0 N69q
  have ne_w_r69 : w ≠ r69 := Nat.ne_of_lt (Nat.lt_of_lt_of_le V_w.lt sr69)
  have ne_a0_r69 : a0 ≠ r69 := Nat.ne_of_lt (Nat.lt_of_lt_of_le E_a.lt sr69)
  have g_r69 : n0 ≤ r69 := Nat.le_trans Z0 sr69
  have sz_r69 : h0.size ≤ r69 := Nat.le_trans (Keep.refl h0 [a0]).1 sr69
  have ne_w_a0 : w ≠ a0 := (Exa.neArv E_a V_w (hw _ (own_mem 36 rfl))).symm
  have c69_0 := own_sta_keepX S_df K69q (allS E_a.nostat all0)
  have c69_1 := V_w.keep K69q (ninS ne_w_a0 nin0)
  have c69_2 := E_a.keep K69q
  have Z69 : n0 ≤ T69.heap.size := Nat.le_trans Z0 K69q.1
  have K69 := Keep.trans (Keep.refl h0 [a0]) K69q (allS (Or.inl (by simp)) all0)
  refine own_go (U' := T69.setTop (mkF m 10 #[.val (.ref a0)] [(.ref r69)])) (fun _ k => st69.trans k) ?_
  refine own_ret X69 (v := (some (.ref r69))) hlk (fun h => by rw [Bd.returns] at h; cases h) (by decide) (by decide) (fun fs hr => own_retR X69 hx Bd.returns rfl rfl rfl (hb hby d18_10) hr) ?_
  show (Q18 Z a0 w k0 mc h0 n0) _ T69.heap _
  exact ⟨_, _, rfl, N69, K69, sz_r69, xE69, xS69, xD69, xM69, xV69, xO69⟩
theorem d17_0 : decode jdk_38_method_24_code 0 = .ok (.iload_n 3, 1) := by decide +kernel
theorem d17_1 : decode jdk_38_method_24_code 1 = .ok (.aload_n 2, 1) := by decide +kernel
theorem d17_2 : decode jdk_38_method_24_code 2 = .ok (.arraylength, 1) := by decide +kernel
theorem d17_3 : decode jdk_38_method_24_code 3 = .ok (.if_icmp .ne 8, 3) := by decide +kernel
theorem d17_6 : decode jdk_38_method_24_code 6 = .ok (.aload_n 0, 1) := by decide +kernel
theorem d17_7 : decode jdk_38_method_24_code 7 = .ok (.invokevirtual 129, 3) := by decide +kernel
theorem own_pd12 : parseMethodDescriptor "()[Ljava/lang/Object;" = some ⟨[], some (.array (.object "java/lang/Object"))⟩ := by decide +kernel
theorem d17_10 : decode jdk_38_method_24_code 10 = .ok (.astore_n 2, 1) := by decide +kernel
theorem d17_11 : decode jdk_38_method_24_code 11 = .ok (.aload_n 2, 1) := by decide +kernel
theorem d17_12 : decode jdk_38_method_24_code 12 = .ok (.iload_n 3, 1) := by decide +kernel
theorem d17_13 : decode jdk_38_method_24_code 13 = .ok (.aload_n 1, 1) := by decide +kernel
theorem d17_14 : decode jdk_38_method_24_code 14 = .ok (.aastore, 1) := by decide +kernel
theorem d17_15 : decode jdk_38_method_24_code 15 = .ok (.aload_n 0, 1) := by decide +kernel
theorem d17_16 : decode jdk_38_method_24_code 16 = .ok (.iload_n 3, 1) := by decide +kernel
theorem d17_17 : decode jdk_38_method_24_code 17 = .ok (.iconst 1, 1) := by decide +kernel
theorem d17_18 : decode jdk_38_method_24_code 18 = .ok (.iadd, 1) := by decide +kernel
theorem d17_19 : decode jdk_38_method_24_code 19 = .ok (.putfield 48, 3) := by decide +kernel
theorem d17_22 : decode jdk_38_method_24_code 22 = .ok (.return_, 1) := by decide +kernel
theorem own_ef17g (m : MethodId) (x0 : Addr) (x1 : Addr) (x2 : Addr) : entryFrame m #[(.ref x0), (.ref x1), (.ref x2), (.int (0 : Int32))] 4 = mkF m 0 #[.val (.ref x0), .val (.ref x1), .val (.ref x2), .val (.int (0 : Int32))] [] := by first | (simp [entryFrame, mkF, argsToLocals, Value.category]; done) | rfl
def Q17g (Z : State) (a0 : Addr) (a1 : Addr) (w : Addr) (k0 : ClassId) (mc : Int32) (h0 : Heap) (n0 : Nat) (v : Option Value) (h : Heap) (L : List Loc) : Prop := ∃ (r : Addr) (k : ClassId), v = none ∧ Fr n0 L ∧ Keep h0 h [a0] ∧ h0.size ≤ r ∧ Exa Z h a0 "java/util/ArrayList" ∧ Fld Z h a0 "java/util/ArrayList" "size" "I" (.int (1 : Int32)) ∧ Fld Z h a0 "java/util/ArrayList" "elementData" "[Ljava/lang/Object;" (.ref r) ∧ Fld Z h a0 "java/util/AbstractList" "modCount" "I" (.int mc) ∧ Arv Z h r k (.object "java/lang/Object") (10 : Int32) [(.ref a1), .null, .null, .null, .null, .null, .null, .null, .null, .null] .null ∧ Ovr Z k "java/lang/Object"
set_option maxRecDepth 65536 in
set_option maxHeartbeats 40000000 in
theorem rm17g (l : Launch) (Z : State) (aw : Array Value) (hw : ∀ d ∈ tables_1, d.before aw Z = true) (ws : List Jvm.Cond) (a0 : Addr) (a1 : Addr) (w : Addr) (k0 : ClassId) (mc : Int32) (h0 : Heap) (n0 : Nat) (Z0 : n0 ≤ h0.size) (S_df : Sta Z h0 "java/util/ArrayList" "DEFAULTCAPACITY_EMPTY_ELEMENTDATA" "[Ljava/lang/Object;" (.ref w)) (V_w : Arv Z h0 w k0 (.object "java/lang/Object") (0 : Int32) [] .null) (I_e : Ins Z h0 a1 "java/lang/Object" true) (E_a : Exa Z h0 a0 "java/util/ArrayList") (F_s : Fld Z h0 a0 "java/util/ArrayList" "size" "I" (.int (0 : Int32))) (F_e : Fld Z h0 a0 "java/util/ArrayList" "elementData" "[Ljava/lang/Object;" (.ref w)) (F_m : Fld Z h0 a0 "java/util/AbstractList" "modCount" "I" (.int mc)) (g_a0 : n0 ≤ a0) :
    MetFree l (⟨"java/util/ArrayList", "add", "(Ljava/lang/Object;[Ljava/lang/Object;I)V"⟩ : MethodName) (head1 (Jvm.Cond.code (⟨"java/util/ArrayList", "add", "(Ljava/lang/Object;[Ljava/lang/Object;I)V"⟩ : MethodName) jdk_38_method_24_code 4 none :: ws) ({ frames := 3, cells := 1, slots := 10, locals := 41 } : Room)) (fun a U => a = #[(.ref a0), (.ref a1), (.ref w), (.int (0 : Int32))] ∧ Z.Warmed39 U.vm ∧ U.heap = h0) (fun _ _ _ _ _ => True) (fun _ U o U' => ∃ v L, o = .returned v ∧ (Q17g Z a0 a1 w k0 mc h0 n0) v U'.heap L ∧ FrameEnd U o U' L ({ frames := 3, cells := 1, slots := 10, locals := 41 } : Room).cells ({ frames := 3, cells := 1, slots := 10, locals := 41 } : Room).slots) := by
  refine MetFree.of_bodySF (plainFor_of_name own_pn3) hisR ?_
  intro p e s m args below meth c s₁ Bd hml0 hP hK
  obtain ⟨rfl, hZ, hh⟩ := hP
  have hx := Bd.exec
  have hby := Bd.bytes
  have hml : c.maxLocals = 4 := hml0
  have hown : s.vm.findClass "java/util/ArrayList" = some m.cls := findClass_of_methodNamed Bd.named
  have hnm := (name_of_methodNamed Bd.named Bd.method).1
  have hlk : meth.locks = false := BodyLoose.notSynchronized (by assumption)
  have X0 : Stand p l e ({ frames := 3, cells := 1, slots := 10, locals := 41 } : Room) s m #[(.ref a0), (.ref a1), (.ref w), (.int (0 : Int32))] below meth c s₁ [] 0 0 := Stand.of_body Bd
  have e0 : s₁.heap = h0 := by rw [← hh, Bd.state]; rfl
  have N0 := Fr.nil n0
  show own_Done p e below s (Q17g Z a0 a1 w k0 mc h0 n0) ({ frames := 3, cells := 1, slots := 10, locals := 41 } : Room).cells ({ frames := 3, cells := 1, slots := 10, locals := 41 } : Room).slots (s₁.setTop (entryFrame m #[(.ref a0), (.ref a1), (.ref w), (.int (0 : Int32))] 4))
  refine own_go (U' := s₁.setTop (mkF m 0 #[.val (.ref a0), .val (.ref a1), .val (.ref w), .val (.int (0 : Int32))] [])) (fun _ k => castTop (own_ef17g m a0 a1 w) k) ?_
  refine own_go (U' := s₁.setTop (mkF m 2 #[.val (.ref a0), .val (.ref a1), .val (.ref w), .val (.int (0 : Int32))] [(.ref w), (.int (0 : Int32))])) (fun _ k => XS.iloadN X0.here hx rfl (hb hby d17_0) rfl (XS.aloadN X0.here hx rfl (hb hby d17_1) rfl rfl k)) ?_
  have V70 := V_w
  obtain ⟨cl70, Ar70, q70, S70, Ng70, Hh70, G70⟩ := V70
  have hl70 := len_of S70 Ng70
  refine own_go (U' := s₁.setTop (mkF m 3 #[.val (.ref a0), .val (.ref a1), .val (.ref w), .val (.int (0 : Int32))] [(.int (0 : Int32)), (.int (0 : Int32))])) (fun _ k => X0.arraylength hx (own_cell e0 Ar70.1) (State.isArrayOf_alike hZ.alike Ar70.2.1) (g := (mkF m 2 #[.val (.ref a0), .val (.ref a1), .val (.ref w), .val (.int (0 : Int32))] [(.ref w), (.int (0 : Int32))])) rfl rfl (hb hby d17_2) _ (by rw [hl70]; exact k)) ?_
  refine own_go (U' := s₁.setTop (mkF m 7 #[.val (.ref a0), .val (.ref a1), .val (.ref w), .val (.int (0 : Int32))] [(.ref a0)])) (fun _ k => XS.icmpNo X0.here hx rfl (hb hby d17_3) rfl (teq (by decide : ((0 : Int32) = (0 : Int32)))).2 (XS.aloadN X0.here hx rfl (hb hby d17_6) rfl rfl k)) ?_
  obtain ⟨cq71, q71, q71'⟩ := E_a.cell
  obtain ⟨_, _, ⟨T71, L71, k71, n71⟩, -, X71, ⟨Lc71, hQ71, l71, y71, z71⟩, st71⟩ := X0.privateBack hx (y := (⟨"java/util/ArrayList", "grow", "()[Ljava/lang/Object;"⟩ : MethodName)) hown (mvT hZ (hw _ (own_mem 120 rfl))) (mvT hZ (hw _ (own_mem 121 rfl))) (mvT hZ (hw _ (own_mem 123 rfl))) (Cond.privateMethod_at (mvP hZ (hw _ (own_mem 122 rfl)) (args := #[]))) (mvT hZ (hw _ (own_mem 124 rfl))) (by decide) (backOf (W := 0) (rm18 l Z aw hw [] a0 w k0 mc h0 n0 Z0 S_df V_w E_a F_s F_e F_m (by first | assumption | decide | rfl)) hZ (hw _ (own_mem 124 rfl)) (hw _ (own_mem 37 rfl)) (by decide) (by decide)) (g := (mkF m 7 #[.val (.ref a0), .val (.ref a1), .val (.ref w), .val (.int (0 : Int32))] [(.ref a0)])) rfl (by rw [hml]; rfl) (Steps.refl _) (a := a0) (by rw [e0]; exact q71) q71' (argsL := []) (rest := []) (lenOf own_pd12 rfl) rfl (by show 2 * 0 + _ ≤ _; exact Nat.le_of_eq rfl) (hb hby d17_7) (fun _ _ => ⟨rfl, e0, (by decide : 0 + 1 ≤ _), (by decide : 0 + 10 ≤ _)⟩)
  dsimp only [Pt.U, Pt.locs, Pt.cells, Pt.slots] at X71 l71 y71 z71 st71 hQ71
  subst l71 y71 z71
  obtain ⟨r71, kr71, rfl, N71q, K71q, sr71, xE71, xS71, xD71, xM71, xV71, xO71⟩ := hQ71
  have N71 := Fr.app N0 N71q
  have ne_w_r71 : w ≠ r71 := Nat.ne_of_lt (Nat.lt_of_lt_of_le V_w.lt sr71)
  have ne_a0_r71 : a0 ≠ r71 := Nat.ne_of_lt (Nat.lt_of_lt_of_le E_a.lt sr71)
  have g_r71 : n0 ≤ r71 := Nat.le_trans Z0 sr71
  have sz_r71 : h0.size ≤ r71 := Nat.le_trans (Keep.refl h0 [a0]).1 sr71
  have ne_w_a0 : w ≠ a0 := (Exa.neArv E_a V_w (hw _ (own_mem 36 rfl))).symm
  have c71_0 := own_sta_keepX S_df K71q (allS E_a.nostat all0)
  have c71_1 := V_w.keep K71q (ninS ne_w_a0 nin0)
  have c71_2 := own_ins_keep I_e K71q
  have c71_3 := E_a.keep K71q
  have Z71 : n0 ≤ T71.heap.size := Nat.le_trans Z0 K71q.1
  have K71 := Keep.trans (Keep.refl h0 [a0]) K71q (allS (Or.inl (by simp)) all0)
  refine own_go (U' := T71.setTop (mkF m 10 #[.val (.ref a0), .val (.ref a1), .val (.ref w), .val (.int (0 : Int32))] [(.ref r71)])) (fun _ k => st71.trans k) ?_
  refine own_go (U' := T71.setTop (mkF m 14 #[.val (.ref a0), .val (.ref a1), .val (.ref r71), .val (.int (0 : Int32))] [(.ref a1), (.int (0 : Int32)), (.ref r71)])) (fun _ k => XS.astoreN X71.here hx rfl (hb hby d17_10) rfl rfl (l' := #[.val (.ref a0), .val (.ref a1), .val (.ref r71), .val (.int (0 : Int32))]) rfl (XS.aloadN X71.here hx rfl (hb hby d17_11) rfl rfl (XS.iloadN X71.here hx rfl (hb hby d17_12) rfl (XS.aloadN X71.here hx rfl (hb hby d17_13) rfl rfl k)))) ?_
  have V72 := xV71
  obtain ⟨cl72, Ar72, q72, S72, Ng72, Hh72, G72⟩ := V72
  have hj72 : ¬ (0 : Int32) < 0 ∧ (0 : Int32) < (10 : Int32) := ⟨by decide, by decide⟩
  obtain ⟨T73, h73, X73, e73, W73, st73⟩ := Jvm.RoadKit.stR X71 hx hZ rfl Ar72 (j := (0 : Int32)) (inb_of S72 hj72) rfl (Sto.ofV Ar72 q72 xO71 c71_2) (g := (mkF m 14 #[.val (.ref a0), .val (.ref a1), .val (.ref r71), .val (.int (0 : Int32))] [(.ref a1), (.int (0 : Int32)), (.ref r71)])) rfl rfl (hb hby d17_14)
  have c73_0 := c71_0.wr W73
  have c73_1 := c71_1.other W73 ne_w_r71
  have c73_2 := c71_2.wr W73
  have c73_3 := xE71.wr W73
  have c73_4 := xS71.other W73 (Or.inl ne_a0_r71)
  have c73_5 := xD71.other W73 (Or.inl ne_a0_r71)
  have c73_6 := xM71.other W73 (Or.inl ne_a0_r71)
  have w73 : Arv Z h73 r71 kr71 (.object "java/lang/Object") (10 : Int32) [(.ref a1), .null, .null, .null, .null, .null, .null, .null, .null, .null] .null := Arv.set Ar72 q72 S72 Ng72 Hh72 G72 rfl W73 0 rfl (Nat.le_of_ble_eq_true rfl)
  have Z73 : n0 ≤ h73.size := Nat.le_trans Z71 (Keep.of_wr W73).1
  have K73 := Keep.wr K71 W73 (Or.inr sz_r71)
  have N73 := Fr.snoc X73 N71 g_r71
  refine own_go (U' := T73.setTop (mkF m 15 #[.val (.ref a0), .val (.ref a1), .val (.ref r71), .val (.int (0 : Int32))] [])) (fun _ k => st73 _ k) ?_
  refine own_go (U' := T73.setTop (mkF m 19 #[.val (.ref a0), .val (.ref a1), .val (.ref r71), .val (.int (0 : Int32))] [(.int (1 : Int32)), (.ref a0)])) (fun _ k => XS.aloadN X73.here hx rfl (hb hby d17_15) rfl rfl (XS.iloadN X73.here hx rfl (hb hby d17_16) rfl (XS.iconst X73.here hx rfl (hb hby d17_17) (XS.iadd X73.here hx rfl (hb hby d17_18) rfl k)))) ?_
  obtain ⟨T74, h74, X74, e74, W74, st74⟩ := putF X73 hx hZ hown (host := "") (Or.inl (hw _ (own_mem 97 rfl))) Via.refl e73 c73_4 c73_3 (Or.inl (hw _ (own_mem 98 rfl))) (hw _ (own_mem 36 rfl)) (ty := .int) (by decide) rfl rfl (g := (mkF m 19 #[.val (.ref a0), .val (.ref a1), .val (.ref r71), .val (.int (0 : Int32))] [(.int (1 : Int32)), (.ref a0)])) rfl rfl (hb hby d17_19)
  have c74_0 := c73_0.wr W74
  have c74_1 := c73_1.other W74 ne_w_a0
  have c74_2 := c73_2.wr W74
  have c74_3 := c73_3.wr W74
  have c74_5 := c73_5.other W74 (Or.inr (slot_ne (Or.inl (hw _ (own_mem 58 rfl))) (Or.inl (hw _ (own_mem 98 rfl))) (by decide) (t := (.array (.object "java/lang/Object"))) (t' := .int) (by decide) (by decide)))
  have c74_6 := c73_6.other W74 (Or.inr (slot_ne (Or.inl (hw _ (own_mem 55 rfl))) (Or.inl (hw _ (own_mem 98 rfl))) (by decide) (t := .int) (t' := .int) (by decide) (by decide)))
  have c74_7 := w73.other W74 (Ne.symm ne_a0_r71)
  have w74 : Fld Z h74 a0 "java/util/ArrayList" "size" "I" (.int (1 : Int32)) := c73_4.same W74
  have Z74 : n0 ≤ h74.size := Nat.le_trans Z73 (Keep.of_wr W74).1
  have K74 := Keep.wr K73 W74 (Or.inl (by simp))
  have N74 := Fr.snoc X74 N73 g_a0
  refine own_go (U' := T74.setTop (mkF m 22 #[.val (.ref a0), .val (.ref a1), .val (.ref r71), .val (.int (0 : Int32))] [])) (fun _ k => st74 _ k) ?_
  refine own_ret X74 (v := none) hlk (fun _ => rfl) (by decide) (by decide) (fun fs hr => X74.returnOut hx Bd.returns (hb hby d17_22) hr) ?_
  show (Q17g Z a0 a1 w k0 mc h0 n0) _ T74.heap _
  rw [e74]
  exact ⟨_, _, rfl, N74, K74, sz_r71, c74_3, w74, c74_5, c74_6, c74_7, xO71⟩
theorem d16_0 : decode jdk_38_method_25_code 0 = .ok (.aload_n 0, 1) := by decide +kernel
theorem d16_1 : decode jdk_38_method_25_code 1 = .ok (.dup, 1) := by decide +kernel
theorem d16_2 : decode jdk_38_method_25_code 2 = .ok (.getfield 63, 3) := by decide +kernel
theorem d16_5 : decode jdk_38_method_25_code 5 = .ok (.iconst 1, 1) := by decide +kernel
theorem d16_6 : decode jdk_38_method_25_code 6 = .ok (.iadd, 1) := by decide +kernel
theorem d16_7 : decode jdk_38_method_25_code 7 = .ok (.putfield 63, 3) := by decide +kernel
theorem d16_10 : decode jdk_38_method_25_code 10 = .ok (.aload_n 0, 1) := by decide +kernel
theorem d16_11 : decode jdk_38_method_25_code 11 = .ok (.aload_n 1, 1) := by decide +kernel
theorem d16_12 : decode jdk_38_method_25_code 12 = .ok (.aload_n 0, 1) := by decide +kernel
theorem d16_13 : decode jdk_38_method_25_code 13 = .ok (.getfield 9, 3) := by decide +kernel
theorem d16_16 : decode jdk_38_method_25_code 16 = .ok (.aload_n 0, 1) := by decide +kernel
theorem d16_17 : decode jdk_38_method_25_code 17 = .ok (.getfield 48, 3) := by decide +kernel
theorem d16_20 : decode jdk_38_method_25_code 20 = .ok (.invokevirtual 131, 3) := by decide +kernel
theorem own_pd13 : parseMethodDescriptor "(Ljava/lang/Object;[Ljava/lang/Object;I)V" = some ⟨[(.object "java/lang/Object"), (.array (.object "java/lang/Object")), .int], none⟩ := by decide +kernel
theorem d16_23 : decode jdk_38_method_25_code 23 = .ok (.iconst 1, 1) := by decide +kernel
theorem d16_24 : decode jdk_38_method_25_code 24 = .ok (.ireturn, 1) := by decide +kernel
theorem own_ef16g (m : MethodId) (x0 : Addr) (x1 : Addr) : entryFrame m #[(.ref x0), (.ref x1)] 2 = mkF m 0 #[.val (.ref x0), .val (.ref x1)] [] := by first | (simp [entryFrame, mkF, argsToLocals, Value.category]; done) | rfl
def Q16g (Z : State) (a0 : Addr) (a1 : Addr) (w : Addr) (k0 : ClassId) (mc : Int32) (h0 : Heap) (n0 : Nat) (v : Option Value) (h : Heap) (L : List Loc) : Prop := ∃ (r : Addr) (k : ClassId), v = some (.int 1) ∧ Fr n0 L ∧ Keep h0 h [a0] ∧ h0.size ≤ r ∧ Exa Z h a0 "java/util/ArrayList" ∧ Fld Z h a0 "java/util/ArrayList" "size" "I" (.int (1 : Int32)) ∧ Fld Z h a0 "java/util/ArrayList" "elementData" "[Ljava/lang/Object;" (.ref r) ∧ Fld Z h a0 "java/util/AbstractList" "modCount" "I" (.int (mc + (1 : Int32))) ∧ Arv Z h r k (.object "java/lang/Object") (10 : Int32) [(.ref a1), .null, .null, .null, .null, .null, .null, .null, .null, .null] .null ∧ Ovr Z k "java/lang/Object"
set_option maxRecDepth 65536 in
set_option maxHeartbeats 40000000 in
theorem rm16g (l : Launch) (Z : State) (aw : Array Value) (hw : ∀ d ∈ tables_1, d.before aw Z = true) (ws : List Jvm.Cond) (a0 : Addr) (a1 : Addr) (w : Addr) (k0 : ClassId) (mc : Int32) (h0 : Heap) (n0 : Nat) (Z0 : n0 ≤ h0.size) (S_df : Sta Z h0 "java/util/ArrayList" "DEFAULTCAPACITY_EMPTY_ELEMENTDATA" "[Ljava/lang/Object;" (.ref w)) (V_w : Arv Z h0 w k0 (.object "java/lang/Object") (0 : Int32) [] .null) (I_e : Ins Z h0 a1 "java/lang/Object" true) (E_a : Exa Z h0 a0 "java/util/ArrayList") (F_s : Fld Z h0 a0 "java/util/ArrayList" "size" "I" (.int (0 : Int32))) (F_e : Fld Z h0 a0 "java/util/ArrayList" "elementData" "[Ljava/lang/Object;" (.ref w)) (F_m : Fld Z h0 a0 "java/util/AbstractList" "modCount" "I" (.int mc)) (g_a0 : n0 ≤ a0) :
    MetFree l (⟨"java/util/ArrayList", "add", "(Ljava/lang/Object;)Z"⟩ : MethodName) (head1 (Jvm.Cond.code (⟨"java/util/ArrayList", "add", "(Ljava/lang/Object;)Z"⟩ : MethodName) jdk_38_method_25_code 2 (some .boolean) :: ws) ({ frames := 4, cells := 1, slots := 10, locals := 56 } : Room)) (fun a U => a = #[(.ref a0), (.ref a1)] ∧ Z.Warmed39 U.vm ∧ U.heap = h0) (fun _ _ _ _ _ => True) (fun _ U o U' => ∃ v L, o = .returned v ∧ (Q16g Z a0 a1 w k0 mc h0 n0) v U'.heap L ∧ FrameEnd U o U' L ({ frames := 4, cells := 1, slots := 10, locals := 56 } : Room).cells ({ frames := 4, cells := 1, slots := 10, locals := 56 } : Room).slots) := by
  refine MetFree.of_bodySF (plainFor_of_name own_pn3) hisR ?_
  intro p e s m args below meth c s₁ Bd hml0 hP hK
  obtain ⟨rfl, hZ, hh⟩ := hP
  have hx := Bd.exec
  have hby := Bd.bytes
  have hml : c.maxLocals = 2 := hml0
  have hown : s.vm.findClass "java/util/ArrayList" = some m.cls := findClass_of_methodNamed Bd.named
  have hnm := (name_of_methodNamed Bd.named Bd.method).1
  have hlk : meth.locks = false := BodyLoose.notSynchronized (by assumption)
  have X0 : Stand p l e ({ frames := 4, cells := 1, slots := 10, locals := 56 } : Room) s m #[(.ref a0), (.ref a1)] below meth c s₁ [] 0 0 := Stand.of_body Bd
  have e0 : s₁.heap = h0 := by rw [← hh, Bd.state]; rfl
  have N0 := Fr.nil n0
  show own_Done p e below s (Q16g Z a0 a1 w k0 mc h0 n0) ({ frames := 4, cells := 1, slots := 10, locals := 56 } : Room).cells ({ frames := 4, cells := 1, slots := 10, locals := 56 } : Room).slots (s₁.setTop (entryFrame m #[(.ref a0), (.ref a1)] 2))
  refine own_go (U' := s₁.setTop (mkF m 0 #[.val (.ref a0), .val (.ref a1)] [])) (fun _ k => castTop (own_ef16g m a0 a1) k) ?_
  refine own_go (U' := s₁.setTop (mkF m 2 #[.val (.ref a0), .val (.ref a1)] [(.ref a0), (.ref a0)])) (fun _ k => XS.aloadN X0.here hx rfl (hb hby d16_0) rfl rfl (XS.dup X0.here hx rfl (hb hby d16_1) rfl rfl k)) ?_
  obtain ⟨T75, X75, e75, st75⟩ := getF X0 hx hZ hown (host := "") (Or.inl (hw _ (own_mem 113 rfl))) (Via.of (hw _ (own_mem 114 rfl))) e0 F_m (g := (mkF m 2 #[.val (.ref a0), .val (.ref a1)] [(.ref a0), (.ref a0)])) rfl rfl (hb hby d16_2)
  refine own_go (U' := T75.setTop (mkF m 5 #[.val (.ref a0), .val (.ref a1)] [(.int mc), (.ref a0)])) (fun _ k => st75 _ k) ?_
  refine own_go (U' := T75.setTop (mkF m 7 #[.val (.ref a0), .val (.ref a1)] [(.int (mc + (1 : Int32))), (.ref a0)])) (fun _ k => XS.iconst X75.here hx rfl (hb hby d16_5) (XS.iadd X75.here hx rfl (hb hby d16_6) rfl k)) ?_
  obtain ⟨T76, h76, X76, e76, W76, st76⟩ := putF X75 hx hZ hown (host := "") (Or.inl (hw _ (own_mem 113 rfl))) (Via.of (hw _ (own_mem 114 rfl))) e75 F_m E_a (Or.inl (hw _ (own_mem 55 rfl))) (hw _ (own_mem 36 rfl)) (ty := .int) (by decide) rfl rfl (g := (mkF m 7 #[.val (.ref a0), .val (.ref a1)] [(.int (mc + (1 : Int32))), (.ref a0)])) rfl rfl (hb hby d16_7)
  have ne_w_a0 : w ≠ a0 := (Exa.neArv E_a V_w (hw _ (own_mem 36 rfl))).symm
  have c76_0 := S_df.wr W76
  have c76_1 := V_w.other W76 ne_w_a0
  have c76_2 := I_e.wr W76
  have c76_3 := E_a.wr W76
  have c76_4 := F_s.other W76 (Or.inr (slot_ne (Or.inl (hw _ (own_mem 98 rfl))) (Or.inl (hw _ (own_mem 55 rfl))) (by decide) (t := .int) (t' := .int) (by decide) (by decide)))
  have c76_5 := F_e.other W76 (Or.inr (slot_ne (Or.inl (hw _ (own_mem 58 rfl))) (Or.inl (hw _ (own_mem 55 rfl))) (by decide) (t := (.array (.object "java/lang/Object"))) (t' := .int) (by decide) (by decide)))
  have w76 : Fld Z h76 a0 "java/util/AbstractList" "modCount" "I" (.int (mc + (1 : Int32))) := F_m.same W76
  have Z76 : n0 ≤ h76.size := Nat.le_trans Z0 (Keep.of_wr W76).1
  have K76 := Keep.wr (Keep.refl h0 [a0]) W76 (Or.inl (by simp))
  have N76 := Fr.snoc X76 N0 g_a0
  refine own_go (U' := T76.setTop (mkF m 10 #[.val (.ref a0), .val (.ref a1)] [])) (fun _ k => st76 _ k) ?_
  refine own_go (U' := T76.setTop (mkF m 13 #[.val (.ref a0), .val (.ref a1)] [(.ref a0), (.ref a1), (.ref a0)])) (fun _ k => XS.aloadN X76.here hx rfl (hb hby d16_10) rfl rfl (XS.aloadN X76.here hx rfl (hb hby d16_11) rfl rfl (XS.aloadN X76.here hx rfl (hb hby d16_12) rfl rfl k))) ?_
  obtain ⟨T77, X77, e77, st77⟩ := getF X76 hx hZ hown (host := "") (Or.inl (hw _ (own_mem 57 rfl))) Via.refl e76 c76_5 (g := (mkF m 13 #[.val (.ref a0), .val (.ref a1)] [(.ref a0), (.ref a1), (.ref a0)])) rfl rfl (hb hby d16_13)
  refine own_go (U' := T77.setTop (mkF m 16 #[.val (.ref a0), .val (.ref a1)] [(.ref w), (.ref a1), (.ref a0)])) (fun _ k => st77 _ k) ?_
  refine own_go (U' := T77.setTop (mkF m 17 #[.val (.ref a0), .val (.ref a1)] [(.ref a0), (.ref w), (.ref a1), (.ref a0)])) (fun _ k => XS.aloadN X77.here hx rfl (hb hby d16_16) rfl rfl k) ?_
  obtain ⟨T78, X78, e78, st78⟩ := getF X77 hx hZ hown (host := "") (Or.inl (hw _ (own_mem 97 rfl))) Via.refl e77 c76_4 (g := (mkF m 17 #[.val (.ref a0), .val (.ref a1)] [(.ref a0), (.ref w), (.ref a1), (.ref a0)])) rfl rfl (hb hby d16_17)
  refine own_go (U' := T78.setTop (mkF m 20 #[.val (.ref a0), .val (.ref a1)] [(.int (0 : Int32)), (.ref w), (.ref a1), (.ref a0)])) (fun _ k => st78 _ k) ?_
  obtain ⟨cq79, q79, q79'⟩ := c76_3.cell
  obtain ⟨_, _, ⟨T79, L79, k79, n79⟩, -, X79, ⟨Lc79, hQ79, l79, y79, z79⟩, st79⟩ := X78.privateBack hx (y := (⟨"java/util/ArrayList", "add", "(Ljava/lang/Object;[Ljava/lang/Object;I)V"⟩ : MethodName)) hown (mvT hZ (hw _ (own_mem 115 rfl))) (mvT hZ (hw _ (own_mem 116 rfl))) (mvT hZ (hw _ (own_mem 118 rfl))) (Cond.privateMethod_at (mvP hZ (hw _ (own_mem 117 rfl)) (args := #[]))) (mvT hZ (hw _ (own_mem 119 rfl))) (by decide) (backOf (W := 0) (rm17g l Z aw hw [] a0 a1 w k0 (mc + (1 : Int32)) h76 n0 Z76 c76_0 c76_1 c76_2 c76_3 c76_4 c76_5 w76 (by first | assumption | decide | rfl)) hZ (hw _ (own_mem 119 rfl)) (hw _ (own_mem 37 rfl)) (by decide) (by decide)) (g := (mkF m 20 #[.val (.ref a0), .val (.ref a1)] [(.int (0 : Int32)), (.ref w), (.ref a1), (.ref a0)])) rfl (by rw [hml]; rfl) (Steps.refl _) (a := a0) (by rw [e78]; exact q79) q79' (argsL := [(.ref a1), (.ref w), (.int (0 : Int32))]) (rest := []) (lenOf own_pd13 rfl) rfl (by show 2 * 0 + _ ≤ _; exact Nat.le_of_eq rfl) (hb hby d16_20) (fun _ _ => ⟨rfl, e78, (by decide : 0 + 1 ≤ _), (by decide : 0 + 10 ≤ _)⟩)
  dsimp only [Pt.U, Pt.locs, Pt.cells, Pt.slots] at X79 l79 y79 z79 st79 hQ79
  subst l79 y79 z79
  obtain ⟨r79, kr79, rfl, N79q, K79q, sr79, xE79, xS79, xD79, xM79, xV79, xO79⟩ := hQ79
  have N79 := Fr.app N76 N79q
  have ne_w_r79 : w ≠ r79 := Nat.ne_of_lt (Nat.lt_of_lt_of_le c76_1.lt sr79)
  have ne_a0_r79 : a0 ≠ r79 := Nat.ne_of_lt (Nat.lt_of_lt_of_le c76_3.lt sr79)
  have g_r79 : n0 ≤ r79 := Nat.le_trans Z76 sr79
  have sz_r79 : h0.size ≤ r79 := Nat.le_trans K76.1 sr79
  have c79_0 := own_sta_keepX c76_0 K79q (allS c76_3.nostat all0)
  have c79_1 := c76_1.keep K79q (ninS ne_w_a0 nin0)
  have c79_2 := own_ins_keep c76_2 K79q
  have c79_3 := c76_3.keep K79q
  have Z79 : n0 ≤ T79.heap.size := Nat.le_trans Z76 K79q.1
  have K79 := Keep.trans K76 K79q (allS (Or.inl (by simp)) all0)
  refine own_go (U' := T79.setTop (mkF m 23 #[.val (.ref a0), .val (.ref a1)] [])) (fun _ k => st79.trans k) ?_
  refine own_go (U' := T79.setTop (mkF m 24 #[.val (.ref a0), .val (.ref a1)] [(.int (1 : Int32))])) (fun _ k => XS.iconst X79.here hx rfl (hb hby d16_23) k) ?_
  refine own_ret X79 (v := (some (.int (1 : Int32)))) hlk (fun h => by rw [Bd.returns] at h; cases h) (by decide) (by decide) (fun fs hr => retN X79 hx (t := .boolean) Bd.returns (by simp) (hb hby d16_24) hr) ?_
  show (Q16g Z a0 a1 w k0 mc h0 n0) _ T79.heap _
  exact ⟨_, _, rfl, N79, K79, sz_r79, xE79, xS79, xD79, xM79, xV79, xO79⟩

theorem own_lt10 {j : Int32} {vs : List Value} (h : ¬ j < 0) (h2 : j < 10) (hl : vs.length = 10) : j.toNatClampNeg < vs.length := by
  have k0 : (0 : Int32).toInt = 0 := by decide
  have k : (10 : Int32).toInt = 10 := by decide
  rw [Int32.lt_iff_toInt_lt, k0] at h
  rw [Int32.lt_iff_toInt_lt, k] at h2
  rw [hl, Int32.toNatClampNeg]
  omega

theorem own_ef17s (m : MethodId) (x0 : Addr) (x1 : Addr) (x2 : Addr) (x3 : Int32) : entryFrame m #[(.ref x0), (.ref x1), (.ref x2), (.int x3)] 4 = mkF m 0 #[.val (.ref x0), .val (.ref x1), .val (.ref x2), .val (.int x3)] [] := by first | (simp [entryFrame, mkF, argsToLocals, Value.category]; done) | rfl
def Q17s (Z : State) (a0 : Addr) (a1 : Addr) (a2 : Addr) (p3 : Int32) (k1 : ClassId) (mc : Int32) (vs : List Value) (h0 : Heap) (n0 : Nat) (v : Option Value) (h : Heap) (L : List Loc) : Prop := v = none ∧ Fr n0 L ∧ Keep h0 h [a0, a2] ∧ Exa Z h a0 "java/util/ArrayList" ∧ Fld Z h a0 "java/util/ArrayList" "size" "I" (.int (p3 + (1 : Int32))) ∧ Fld Z h a0 "java/util/ArrayList" "elementData" "[Ljava/lang/Object;" (.ref a2) ∧ Fld Z h a0 "java/util/AbstractList" "modCount" "I" (.int mc) ∧ Arv Z h a2 k1 (.object "java/lang/Object") (10 : Int32) (vs.set (p3).toNatClampNeg (.ref a1)) .null
set_option maxRecDepth 65536 in
set_option maxHeartbeats 40000000 in
theorem rm17s (l : Launch) (Z : State) (aw : Array Value) (hw : ∀ d ∈ tables_1, d.before aw Z = true) (ws : List Jvm.Cond) (a0 : Addr) (a1 : Addr) (a2 : Addr) (p3 : Int32) (k1 : ClassId) (mc : Int32) (vs : List Value) (h0 : Heap) (n0 : Nat) (Z0 : n0 ≤ h0.size) (I_e : Ins Z h0 a1 "java/lang/Object" true) (E_a : Exa Z h0 a0 "java/util/ArrayList") (F_s : Fld Z h0 a0 "java/util/ArrayList" "size" "I" (.int p3)) (F_e : Fld Z h0 a0 "java/util/ArrayList" "elementData" "[Ljava/lang/Object;" (.ref a2)) (F_m : Fld Z h0 a0 "java/util/AbstractList" "modCount" "I" (.int mc)) (V_a : Arv Z h0 a2 k1 (.object "java/lang/Object") (10 : Int32) vs .null) (O_k : Ovr Z k1 "java/lang/Object") (hi : ¬ (p3 < (0 : Int32))) (hi10 : p3 < (10 : Int32)) (h10n : ¬ (p3 = (10 : Int32))) (hlen : vs.length = 10) (g_a0 : n0 ≤ a0) (g_a2 : n0 ≤ a2) (hne : a0 ≠ a2) :
    MetFree l (⟨"java/util/ArrayList", "add", "(Ljava/lang/Object;[Ljava/lang/Object;I)V"⟩ : MethodName) (head1 (Jvm.Cond.code (⟨"java/util/ArrayList", "add", "(Ljava/lang/Object;[Ljava/lang/Object;I)V"⟩ : MethodName) jdk_38_method_24_code 4 none :: ws) ({ frames := 0, cells := 0, slots := 0, locals := 0 } : Room)) (fun a U => a = #[(.ref a0), (.ref a1), (.ref a2), (.int p3)] ∧ Z.Warmed39 U.vm ∧ U.heap = h0) (fun _ _ _ _ _ => True) (fun _ U o U' => ∃ v L, o = .returned v ∧ (Q17s Z a0 a1 a2 p3 k1 mc vs h0 n0) v U'.heap L ∧ FrameEnd U o U' L ({ frames := 0, cells := 0, slots := 0, locals := 0 } : Room).cells ({ frames := 0, cells := 0, slots := 0, locals := 0 } : Room).slots) := by
  refine MetFree.of_bodySF (plainFor_of_name own_pn3) hisR ?_
  intro p e s m args below meth c s₁ Bd hml0 hP hK
  obtain ⟨rfl, hZ, hh⟩ := hP
  have hx := Bd.exec
  have hby := Bd.bytes
  have hml : c.maxLocals = 4 := hml0
  have hown : s.vm.findClass "java/util/ArrayList" = some m.cls := findClass_of_methodNamed Bd.named
  have hnm := (name_of_methodNamed Bd.named Bd.method).1
  have hlk : meth.locks = false := BodyLoose.notSynchronized (by assumption)
  have X0 : Stand p l e ({ frames := 0, cells := 0, slots := 0, locals := 0 } : Room) s m #[(.ref a0), (.ref a1), (.ref a2), (.int p3)] below meth c s₁ [] 0 0 := Stand.of_body Bd
  have e0 : s₁.heap = h0 := by rw [← hh, Bd.state]; rfl
  have N0 := Fr.nil n0
  show own_Done p e below s (Q17s Z a0 a1 a2 p3 k1 mc vs h0 n0) ({ frames := 0, cells := 0, slots := 0, locals := 0 } : Room).cells ({ frames := 0, cells := 0, slots := 0, locals := 0 } : Room).slots (s₁.setTop (entryFrame m #[(.ref a0), (.ref a1), (.ref a2), (.int p3)] 4))
  refine own_go (U' := s₁.setTop (mkF m 0 #[.val (.ref a0), .val (.ref a1), .val (.ref a2), .val (.int p3)] [])) (fun _ k => castTop (own_ef17s m a0 a1 a2 p3) k) ?_
  refine own_go (U' := s₁.setTop (mkF m 2 #[.val (.ref a0), .val (.ref a1), .val (.ref a2), .val (.int p3)] [(.ref a2), (.int p3)])) (fun _ k => XS.iloadN X0.here hx rfl (hb hby d17_0) rfl (XS.aloadN X0.here hx rfl (hb hby d17_1) rfl rfl k)) ?_
  have V80 := V_a
  obtain ⟨cl80, Ar80, q80, S80, Ng80, Hh80, G80⟩ := V80
  have hl80 := len_of S80 Ng80
  refine own_go (U' := s₁.setTop (mkF m 3 #[.val (.ref a0), .val (.ref a1), .val (.ref a2), .val (.int p3)] [(.int (10 : Int32)), (.int p3)])) (fun _ k => X0.arraylength hx (own_cell e0 Ar80.1) (State.isArrayOf_alike hZ.alike Ar80.2.1) (g := (mkF m 2 #[.val (.ref a0), .val (.ref a1), .val (.ref a2), .val (.int p3)] [(.ref a2), (.int p3)])) rfl rfl (hb hby d17_2) _ (by rw [hl80]; exact k)) ?_
  refine own_go (U' := s₁.setTop (mkF m 14 #[.val (.ref a0), .val (.ref a1), .val (.ref a2), .val (.int p3)] [(.ref a1), (.int p3), (.ref a2)])) (fun _ k => XS.icmpYes X0.here hx rfl (pc0 := 3) (pc' := 11) rfl (hb hby d17_3) rfl (feq h10n).2 (by decide) (by decide) (XS.aloadN X0.here hx rfl (hb hby d17_11) rfl rfl (XS.iloadN X0.here hx rfl (hb hby d17_12) rfl (XS.aloadN X0.here hx rfl (hb hby d17_13) rfl rfl k)))) ?_
  have V81 := V_a
  obtain ⟨cl81, Ar81, q81, S81, Ng81, Hh81, G81⟩ := V81
  have hj81 : ¬ p3 < 0 ∧ p3 < (10 : Int32) := ⟨hi, hi10⟩
  obtain ⟨T82, h82, X82, e82, W82, st82⟩ := Jvm.RoadKit.stR X0 hx hZ e0 Ar81 (j := p3) (inb_of S81 hj81) rfl (Sto.ofV Ar81 q81 O_k I_e) (g := (mkF m 14 #[.val (.ref a0), .val (.ref a1), .val (.ref a2), .val (.int p3)] [(.ref a1), (.int p3), (.ref a2)])) rfl rfl (hb hby d17_14)
  have c82_0 := I_e.wr W82
  have c82_1 := E_a.wr W82
  have c82_2 := F_s.other W82 (Or.inl hne)
  have c82_3 := F_e.other W82 (Or.inl hne)
  have c82_4 := F_m.other W82 (Or.inl hne)
  have w82 : Arv Z h82 a2 k1 (.object "java/lang/Object") (10 : Int32) (vs.set (p3).toNatClampNeg (.ref a1)) .null := Arv.set Ar81 q81 S81 Ng81 Hh81 G81 rfl W82 _ rfl (own_lt10 hi hi10 hlen)
  have Z82 : n0 ≤ h82.size := Nat.le_trans Z0 (Keep.of_wr W82).1
  have K82 := Keep.wr (Keep.refl h0 [a0, a2]) W82 (Or.inl (by simp))
  have N82 := Fr.snoc X82 N0 g_a2
  refine own_go (U' := T82.setTop (mkF m 15 #[.val (.ref a0), .val (.ref a1), .val (.ref a2), .val (.int p3)] [])) (fun _ k => st82 _ k) ?_
  refine own_go (U' := T82.setTop (mkF m 19 #[.val (.ref a0), .val (.ref a1), .val (.ref a2), .val (.int p3)] [(.int (p3 + (1 : Int32))), (.ref a0)])) (fun _ k => XS.aloadN X82.here hx rfl (hb hby d17_15) rfl rfl (XS.iloadN X82.here hx rfl (hb hby d17_16) rfl (XS.iconst X82.here hx rfl (hb hby d17_17) (XS.iadd X82.here hx rfl (hb hby d17_18) rfl k)))) ?_
  obtain ⟨T83, h83, X83, e83, W83, st83⟩ := putF X82 hx hZ hown (host := "") (Or.inl (hw _ (own_mem 97 rfl))) Via.refl e82 c82_2 c82_1 (Or.inl (hw _ (own_mem 98 rfl))) (hw _ (own_mem 36 rfl)) (ty := .int) (by decide) rfl rfl (g := (mkF m 19 #[.val (.ref a0), .val (.ref a1), .val (.ref a2), .val (.int p3)] [(.int (p3 + (1 : Int32))), (.ref a0)])) rfl rfl (hb hby d17_19)
  have c83_0 := c82_0.wr W83
  have c83_1 := c82_1.wr W83
  have c83_3 := c82_3.other W83 (Or.inr (slot_ne (Or.inl (hw _ (own_mem 58 rfl))) (Or.inl (hw _ (own_mem 98 rfl))) (by decide) (t := (.array (.object "java/lang/Object"))) (t' := .int) (by decide) (by decide)))
  have c83_4 := c82_4.other W83 (Or.inr (slot_ne (Or.inl (hw _ (own_mem 55 rfl))) (Or.inl (hw _ (own_mem 98 rfl))) (by decide) (t := .int) (t' := .int) (by decide) (by decide)))
  have c83_5 := w82.other W83 (Ne.symm hne)
  have w83 : Fld Z h83 a0 "java/util/ArrayList" "size" "I" (.int (p3 + (1 : Int32))) := c82_2.same W83
  have Z83 : n0 ≤ h83.size := Nat.le_trans Z82 (Keep.of_wr W83).1
  have K83 := Keep.wr K82 W83 (Or.inl (by simp))
  have N83 := Fr.snoc X83 N82 g_a0
  refine own_go (U' := T83.setTop (mkF m 22 #[.val (.ref a0), .val (.ref a1), .val (.ref a2), .val (.int p3)] [])) (fun _ k => st83 _ k) ?_
  refine own_ret X83 (v := none) hlk (fun _ => rfl) (by decide) (by decide) (fun fs hr => X83.returnOut hx Bd.returns (hb hby d17_22) hr) ?_
  show (Q17s Z a0 a1 a2 p3 k1 mc vs h0 n0) _ T83.heap _
  rw [e83]
  exact ⟨rfl, N83, K83, c83_1, w83, c83_3, c83_4, c83_5⟩
theorem own_ef16s (m : MethodId) (x0 : Addr) (x1 : Addr) : entryFrame m #[(.ref x0), (.ref x1)] 2 = mkF m 0 #[.val (.ref x0), .val (.ref x1)] [] := by first | (simp [entryFrame, mkF, argsToLocals, Value.category]; done) | rfl
def Q16s (Z : State) (a0 : Addr) (a1 : Addr) (arr : Addr) (k1 : ClassId) (sz : Int32) (mc : Int32) (vs : List Value) (h0 : Heap) (n0 : Nat) (v : Option Value) (h : Heap) (L : List Loc) : Prop := v = some (.int 1) ∧ Fr n0 L ∧ Keep h0 h [a0, arr] ∧ Exa Z h a0 "java/util/ArrayList" ∧ Fld Z h a0 "java/util/ArrayList" "size" "I" (.int (sz + (1 : Int32))) ∧ Fld Z h a0 "java/util/ArrayList" "elementData" "[Ljava/lang/Object;" (.ref arr) ∧ Fld Z h a0 "java/util/AbstractList" "modCount" "I" (.int (mc + (1 : Int32))) ∧ Arv Z h arr k1 (.object "java/lang/Object") (10 : Int32) (vs.set (sz).toNatClampNeg (.ref a1)) .null
set_option maxRecDepth 65536 in
set_option maxHeartbeats 40000000 in
theorem rm16s (l : Launch) (Z : State) (aw : Array Value) (hw : ∀ d ∈ tables_1, d.before aw Z = true) (ws : List Jvm.Cond) (a0 : Addr) (a1 : Addr) (arr : Addr) (k1 : ClassId) (sz : Int32) (mc : Int32) (vs : List Value) (h0 : Heap) (n0 : Nat) (Z0 : n0 ≤ h0.size) (I_e : Ins Z h0 a1 "java/lang/Object" true) (E_a : Exa Z h0 a0 "java/util/ArrayList") (F_s : Fld Z h0 a0 "java/util/ArrayList" "size" "I" (.int sz)) (F_e : Fld Z h0 a0 "java/util/ArrayList" "elementData" "[Ljava/lang/Object;" (.ref arr)) (F_m : Fld Z h0 a0 "java/util/AbstractList" "modCount" "I" (.int mc)) (V_a : Arv Z h0 arr k1 (.object "java/lang/Object") (10 : Int32) vs .null) (O_k : Ovr Z k1 "java/lang/Object") (hi : ¬ (sz < (0 : Int32))) (hi10 : sz < (10 : Int32)) (h10n : ¬ (sz = (10 : Int32))) (hlen : vs.length = 10) (g_a0 : n0 ≤ a0) (g_arr : n0 ≤ arr) (hne : a0 ≠ arr) :
    MetFree l (⟨"java/util/ArrayList", "add", "(Ljava/lang/Object;)Z"⟩ : MethodName) (head1 (Jvm.Cond.code (⟨"java/util/ArrayList", "add", "(Ljava/lang/Object;)Z"⟩ : MethodName) jdk_38_method_25_code 2 (some .boolean) :: ws) ({ frames := 1, cells := 0, slots := 0, locals := 15 } : Room)) (fun a U => a = #[(.ref a0), (.ref a1)] ∧ Z.Warmed39 U.vm ∧ U.heap = h0) (fun _ _ _ _ _ => True) (fun _ U o U' => ∃ v L, o = .returned v ∧ (Q16s Z a0 a1 arr k1 sz mc vs h0 n0) v U'.heap L ∧ FrameEnd U o U' L ({ frames := 1, cells := 0, slots := 0, locals := 15 } : Room).cells ({ frames := 1, cells := 0, slots := 0, locals := 15 } : Room).slots) := by
  refine MetFree.of_bodySF (plainFor_of_name own_pn3) hisR ?_
  intro p e s m args below meth c s₁ Bd hml0 hP hK
  obtain ⟨rfl, hZ, hh⟩ := hP
  have hx := Bd.exec
  have hby := Bd.bytes
  have hml : c.maxLocals = 2 := hml0
  have hown : s.vm.findClass "java/util/ArrayList" = some m.cls := findClass_of_methodNamed Bd.named
  have hnm := (name_of_methodNamed Bd.named Bd.method).1
  have hlk : meth.locks = false := BodyLoose.notSynchronized (by assumption)
  have X0 : Stand p l e ({ frames := 1, cells := 0, slots := 0, locals := 15 } : Room) s m #[(.ref a0), (.ref a1)] below meth c s₁ [] 0 0 := Stand.of_body Bd
  have e0 : s₁.heap = h0 := by rw [← hh, Bd.state]; rfl
  have N0 := Fr.nil n0
  show own_Done p e below s (Q16s Z a0 a1 arr k1 sz mc vs h0 n0) ({ frames := 1, cells := 0, slots := 0, locals := 15 } : Room).cells ({ frames := 1, cells := 0, slots := 0, locals := 15 } : Room).slots (s₁.setTop (entryFrame m #[(.ref a0), (.ref a1)] 2))
  refine own_go (U' := s₁.setTop (mkF m 0 #[.val (.ref a0), .val (.ref a1)] [])) (fun _ k => castTop (own_ef16s m a0 a1) k) ?_
  refine own_go (U' := s₁.setTop (mkF m 2 #[.val (.ref a0), .val (.ref a1)] [(.ref a0), (.ref a0)])) (fun _ k => XS.aloadN X0.here hx rfl (hb hby d16_0) rfl rfl (XS.dup X0.here hx rfl (hb hby d16_1) rfl rfl k)) ?_
  obtain ⟨T84, X84, e84, st84⟩ := getF X0 hx hZ hown (host := "") (Or.inl (hw _ (own_mem 113 rfl))) (Via.of (hw _ (own_mem 114 rfl))) e0 F_m (g := (mkF m 2 #[.val (.ref a0), .val (.ref a1)] [(.ref a0), (.ref a0)])) rfl rfl (hb hby d16_2)
  refine own_go (U' := T84.setTop (mkF m 5 #[.val (.ref a0), .val (.ref a1)] [(.int mc), (.ref a0)])) (fun _ k => st84 _ k) ?_
  refine own_go (U' := T84.setTop (mkF m 7 #[.val (.ref a0), .val (.ref a1)] [(.int (mc + (1 : Int32))), (.ref a0)])) (fun _ k => XS.iconst X84.here hx rfl (hb hby d16_5) (XS.iadd X84.here hx rfl (hb hby d16_6) rfl k)) ?_
  obtain ⟨T85, h85, X85, e85, W85, st85⟩ := putF X84 hx hZ hown (host := "") (Or.inl (hw _ (own_mem 113 rfl))) (Via.of (hw _ (own_mem 114 rfl))) e84 F_m E_a (Or.inl (hw _ (own_mem 55 rfl))) (hw _ (own_mem 36 rfl)) (ty := .int) (by decide) rfl rfl (g := (mkF m 7 #[.val (.ref a0), .val (.ref a1)] [(.int (mc + (1 : Int32))), (.ref a0)])) rfl rfl (hb hby d16_7)
  have c85_0 := I_e.wr W85
  have c85_1 := E_a.wr W85
  have c85_2 := F_s.other W85 (Or.inr (slot_ne (Or.inl (hw _ (own_mem 98 rfl))) (Or.inl (hw _ (own_mem 55 rfl))) (by decide) (t := .int) (t' := .int) (by decide) (by decide)))
  have c85_3 := F_e.other W85 (Or.inr (slot_ne (Or.inl (hw _ (own_mem 58 rfl))) (Or.inl (hw _ (own_mem 55 rfl))) (by decide) (t := (.array (.object "java/lang/Object"))) (t' := .int) (by decide) (by decide)))
  have c85_5 := V_a.other W85 (Ne.symm hne)
  have w85 : Fld Z h85 a0 "java/util/AbstractList" "modCount" "I" (.int (mc + (1 : Int32))) := F_m.same W85
  have Z85 : n0 ≤ h85.size := Nat.le_trans Z0 (Keep.of_wr W85).1
  have K85 := Keep.wr (Keep.refl h0 [a0, arr]) W85 (Or.inl (by simp))
  have N85 := Fr.snoc X85 N0 g_a0
  refine own_go (U' := T85.setTop (mkF m 10 #[.val (.ref a0), .val (.ref a1)] [])) (fun _ k => st85 _ k) ?_
  refine own_go (U' := T85.setTop (mkF m 13 #[.val (.ref a0), .val (.ref a1)] [(.ref a0), (.ref a1), (.ref a0)])) (fun _ k => XS.aloadN X85.here hx rfl (hb hby d16_10) rfl rfl (XS.aloadN X85.here hx rfl (hb hby d16_11) rfl rfl (XS.aloadN X85.here hx rfl (hb hby d16_12) rfl rfl k))) ?_
  obtain ⟨T86, X86, e86, st86⟩ := getF X85 hx hZ hown (host := "") (Or.inl (hw _ (own_mem 57 rfl))) Via.refl e85 c85_3 (g := (mkF m 13 #[.val (.ref a0), .val (.ref a1)] [(.ref a0), (.ref a1), (.ref a0)])) rfl rfl (hb hby d16_13)
  refine own_go (U' := T86.setTop (mkF m 16 #[.val (.ref a0), .val (.ref a1)] [(.ref arr), (.ref a1), (.ref a0)])) (fun _ k => st86 _ k) ?_
  refine own_go (U' := T86.setTop (mkF m 17 #[.val (.ref a0), .val (.ref a1)] [(.ref a0), (.ref arr), (.ref a1), (.ref a0)])) (fun _ k => XS.aloadN X86.here hx rfl (hb hby d16_16) rfl rfl k) ?_
  obtain ⟨T87, X87, e87, st87⟩ := getF X86 hx hZ hown (host := "") (Or.inl (hw _ (own_mem 97 rfl))) Via.refl e86 c85_2 (g := (mkF m 17 #[.val (.ref a0), .val (.ref a1)] [(.ref a0), (.ref arr), (.ref a1), (.ref a0)])) rfl rfl (hb hby d16_17)
  refine own_go (U' := T87.setTop (mkF m 20 #[.val (.ref a0), .val (.ref a1)] [(.int sz), (.ref arr), (.ref a1), (.ref a0)])) (fun _ k => st87 _ k) ?_
  obtain ⟨cq88, q88, q88'⟩ := c85_1.cell
  obtain ⟨_, _, ⟨T88, L88, k88, n88⟩, -, X88, ⟨Lc88, hQ88, l88, y88, z88⟩, st88⟩ := X87.privateBack hx (y := (⟨"java/util/ArrayList", "add", "(Ljava/lang/Object;[Ljava/lang/Object;I)V"⟩ : MethodName)) hown (mvT hZ (hw _ (own_mem 115 rfl))) (mvT hZ (hw _ (own_mem 116 rfl))) (mvT hZ (hw _ (own_mem 118 rfl))) (Cond.privateMethod_at (mvP hZ (hw _ (own_mem 117 rfl)) (args := #[]))) (mvT hZ (hw _ (own_mem 119 rfl))) (by decide) (backOf (W := 0) (rm17s l Z aw hw [] a0 a1 arr sz k1 (mc + (1 : Int32)) vs h85 n0 Z85 c85_0 c85_1 c85_2 c85_3 w85 c85_5 (by first | assumption | decide | rfl) (by first | assumption | decide | rfl) (by first | assumption | decide | rfl) (by first | assumption | decide | rfl) (by first | assumption | decide | rfl) (by first | assumption | decide | rfl) (by first | assumption | decide | rfl) (by first | assumption | decide | rfl)) hZ (hw _ (own_mem 119 rfl)) (hw _ (own_mem 37 rfl)) (by decide) (by decide)) (g := (mkF m 20 #[.val (.ref a0), .val (.ref a1)] [(.int sz), (.ref arr), (.ref a1), (.ref a0)])) rfl (by rw [hml]; rfl) (Steps.refl _) (a := a0) (by rw [e87]; exact q88) q88' (argsL := [(.ref a1), (.ref arr), (.int sz)]) (rest := []) (lenOf own_pd13 rfl) rfl (by show 2 * 0 + _ ≤ _; exact Nat.le_of_eq rfl) (hb hby d16_20) (fun _ _ => ⟨rfl, e87, (by decide : 0 + 0 ≤ _), (by decide : 0 + 0 ≤ _)⟩)
  dsimp only [Pt.U, Pt.locs, Pt.cells, Pt.slots] at X88 l88 y88 z88 st88 hQ88
  subst l88 y88 z88
  obtain ⟨rfl, N88q, K88q, xE88, xS88, xD88, xM88, xV88⟩ := hQ88
  have N88 := Fr.app N85 N88q
  have c88_0 := own_ins_keep c85_0 K88q
  have c88_1 := c85_1.keep K88q
  have Z88 : n0 ≤ T88.heap.size := Nat.le_trans Z85 K88q.1
  have K88 := Keep.trans K85 K88q (allS (Or.inl (by simp)) (allS (Or.inl (by simp)) all0))
  refine own_go (U' := T88.setTop (mkF m 23 #[.val (.ref a0), .val (.ref a1)] [])) (fun _ k => st88.trans k) ?_
  refine own_go (U' := T88.setTop (mkF m 24 #[.val (.ref a0), .val (.ref a1)] [(.int (1 : Int32))])) (fun _ k => XS.iconst X88.here hx rfl (hb hby d16_23) k) ?_
  refine own_ret X88 (v := (some (.int (1 : Int32)))) hlk (fun h => by rw [Bd.returns] at h; cases h) (by decide) (by decide) (fun fs hr => retN X88 hx (t := .boolean) Bd.returns (by simp) (hb hby d16_24) hr) ?_
  show (Q16s Z a0 a1 arr k1 sz mc vs h0 n0) _ T88.heap _
  exact ⟨rfl, N88, K88, xE88, xS88, xD88, xM88, xV88⟩
def own_EL : List (String × Nat) := [("com/example/hashtory/hashtory/Arguments", 35), ("com/example/hashtory/hashtory/ArgumentsPositionalsPinLaw", 34), ("com/example/hashtory/hashtory/ArgumentsPositionalsPinLaw", 36), ("com/example/hashtory/hashtory/ArgumentsPositionalsPinLaw", 38), ("com/example/hashtory/hashtory/ArgumentsPositionalsPinLaw", 40)]
theorem own_EW {Z : State} {a0 : Array Value} (hw : ∀ d ∈ tables_1, d.before a0 Z = true) : EW Z a0 own_EL := (EW.cons (hw _ (own_mem 159 rfl)) (by decide) (EW.cons (hw _ (own_mem 134 rfl)) (by decide) (EW.cons (hw _ (own_mem 198 rfl)) (by decide) (EW.cons (hw _ (own_mem 199 rfl)) (by decide) (EW.cons (hw _ (own_mem 200 rfl)) (by decide) EW.nil)))))
theorem own_wS {Z : State} {a0 : Array Value} (hw : ∀ d ∈ tables_1, d.before a0 Z = true) : ∀ a ∈ Bundle.stringAtoms, a.before a0 Z = true := by
  intro d hd
  simp only [Bundle.stringAtoms, List.mem_cons, List.not_mem_nil, or_false] at hd
  rcases hd with rfl | rfl | rfl | rfl | rfl | rfl | rfl
  · exact hw _ (List.mem_of_getElem? (i := 11) rfl)
  · exact hw _ (List.mem_of_getElem? (i := 19) rfl)
  · exact hw _ (List.mem_of_getElem? (i := 23) rfl)
  · exact hw _ (List.mem_of_getElem? (i := 32) rfl)
  · exact hw _ (List.mem_of_getElem? (i := 34) rfl)
  · exact hw _ (List.mem_of_getElem? (i := 135) rfl)
  · exact hw _ (List.mem_of_getElem? (i := 136) rfl)
theorem d11_0 : decode prog_1_method_1_code 0 = .ok (.aload_n 0, 1) := by decide +kernel
theorem d11_1 : decode prog_1_method_1_code 1 = .ok (.invokespecial 1, 3) := by decide +kernel
theorem d11_4 : decode prog_1_method_1_code 4 = .ok (.aload_n 0, 1) := by decide +kernel
theorem d11_5 : decode prog_1_method_1_code 5 = .ok (.new 7, 3) := by decide +kernel
theorem d11_8 : decode prog_1_method_1_code 8 = .ok (.dup, 1) := by decide +kernel
theorem d11_9 : decode prog_1_method_1_code 9 = .ok (.invokespecial 9, 3) := by decide +kernel
theorem d11_12 : decode prog_1_method_1_code 12 = .ok (.putfield 10, 3) := by decide +kernel
theorem d11_15 : decode prog_1_method_1_code 15 = .ok (.aload_n 0, 1) := by decide +kernel
theorem d11_16 : decode prog_1_method_1_code 16 = .ok (.new 16, 3) := by decide +kernel
theorem d11_19 : decode prog_1_method_1_code 19 = .ok (.dup, 1) := by decide +kernel
theorem d11_20 : decode prog_1_method_1_code 20 = .ok (.invokespecial 18, 3) := by decide +kernel
theorem d11_23 : decode prog_1_method_1_code 23 = .ok (.putfield 19, 3) := by decide +kernel
theorem d11_26 : decode prog_1_method_1_code 26 = .ok (.iconst 0, 1) := by decide +kernel
theorem d11_27 : decode prog_1_method_1_code 27 = .ok (.istore_n 3, 1) := by decide +kernel
theorem d11_28 : decode prog_1_method_1_code 28 = .ok (.iload_n 3, 1) := by decide +kernel
theorem d11_29 : decode prog_1_method_1_code 29 = .ok (.aload_n 1, 1) := by decide +kernel
theorem d11_30 : decode prog_1_method_1_code 30 = .ok (.invokeinterface 23 1, 5) := by decide +kernel
theorem d11_35 : decode prog_1_method_1_code 35 = .ok (.if_icmp .ge 139, 3) := by decide +kernel
theorem d11_174 : decode prog_1_method_1_code 174 = .ok (.return_, 1) := by decide +kernel
theorem own_pn10 : plainName "com/example/hashtory/hashtory/Arguments" = true := by first | (simp [plainName, overriddenIn]; done) | decide +kernel
theorem own_ef11_0 (m : MethodId) (x0 : Addr) (x1 : Addr) : entryFrame m #[(.ref x0), (.ref x1), .null] 5 = mkF m 0 #[.val (.ref x0), .val (.ref x1), .val .null, .unset, .unset] [] := by first | (simp [entryFrame, mkF, argsToLocals, Value.category]; done) | rfl
def Q11_0 (Z : State) (a0 : Addr) (a1 : Addr) (cs : Int32) (w : Addr) (k0 : ClassId) (h0 : Heap) (n0 : Nat) (v : Option Value) (h : Heap) (L : List Loc) : Prop := v = none ∧ Fr n0 L ∧ Keep h0 h [a0] ∧ Exa Z h a0 "com/example/hashtory/hashtory/Arguments" ∧ ∃ pl : Addr, h0.size ≤ pl ∧ Fld Z h a0 "com/example/hashtory/hashtory/Arguments" "positionals" "Ljava/util/List;" (.ref pl) ∧ Exa Z h pl "java/util/ArrayList" ∧ Fld Z h pl "java/util/ArrayList" "size" "I" (.int (0 : Int32))
set_option maxRecDepth 65536 in
set_option maxHeartbeats 40000000 in
theorem rm11_0 (l : Launch) (Z : State) (aw : Array Value) (hw : ∀ d ∈ tables_1, d.before aw Z = true) (ws : List Jvm.Cond) (a0 : Addr) (a1 : Addr) (cs : Int32) (w : Addr) (k0 : ClassId) (h0 : Heap) (n0 : Nat) (Z0 : n0 ≤ h0.size) (E_t : Exa Z h0 a0 "com/example/hashtory/hashtory/Arguments") (F_p : Fld Z h0 a0 "com/example/hashtory/hashtory/Arguments" "positionals" "Ljava/util/List;" .null) (F_o : Fld Z h0 a0 "com/example/hashtory/hashtory/Arguments" "options" "Ljava/util/Map;" .null) (S_cs : Sta Z h0 "java/lang/String" "COMPACT_STRINGS" "Z" (.int cs)) (S_df : Sta Z h0 "java/util/ArrayList" "DEFAULTCAPACITY_EMPTY_ELEMENTDATA" "[Ljava/lang/Object;" (.ref w)) (V_w : Arv Z h0 w k0 (.object "java/lang/Object") (0 : Int32) [] .null) (E_l : Exa Z h0 a1 "java/util/ArrayList") (F_l : Fld Z h0 a1 "java/util/ArrayList" "size" "I" (.int (0 : Int32))) (g_a0 : n0 ≤ a0) (hcs : ¬ (cs = (0 : Int32))) :
    MetFree l (⟨"com/example/hashtory/hashtory/Arguments", "<init>", "(Ljava/util/List;Ljava/util/Set;)V"⟩ : MethodName) (head1 (Jvm.Cond.code (⟨"com/example/hashtory/hashtory/Arguments", "<init>", "(Ljava/util/List;Ljava/util/Set;)V"⟩ : MethodName) prog_1_method_1_code 5 none :: ws) ({ frames := 4, cells := 2, slots := 11, locals := 50 } : Room)) (fun a U => a = #[(.ref a0), (.ref a1), .null] ∧ Z.Warmed39 U.vm ∧ U.heap = h0 ∧ CHv Z own_EL U.vm h0) (fun _ _ _ _ _ => True) (fun _ U o U' => ∃ v L, o = .returned v ∧ (Q11_0 Z a0 a1 cs w k0 h0 n0) v U'.heap L ∧ CHr Z own_EL U.vm U.heap U'.vm U'.heap ∧ ReturnedEndW U o U' L ({ frames := 4, cells := 2, slots := 11, locals := 50 } : Room).cells ({ frames := 4, cells := 2, slots := 11, locals := 50 } : Room).slots) := by
  refine MetFree.of_bodySF (plainFor_of_name own_pn10) hisR ?_
  intro p e s m args below meth c s₁ Bd hml0 hP hK
  obtain ⟨rfl, hZ, hh, hCH⟩ := hP
  have hx := Bd.exec
  have hby := Bd.bytes
  have hml : c.maxLocals = 5 := hml0
  have hown : s.vm.findClass "com/example/hashtory/hashtory/Arguments" = some m.cls := findClass_of_methodNamed Bd.named
  have hnm := (name_of_methodNamed Bd.named Bd.method).1
  have hlk : meth.locks = false := BodyLoose.notSynchronized (by assumption)
  have X0 : Stand p l e ({ frames := 4, cells := 2, slots := 11, locals := 50 } : Room) s m #[(.ref a0), (.ref a1), .null] below meth c s₁ [] 0 0 := Stand.of_body Bd
  have e0 : s₁.heap = h0 := by rw [← hh, Bd.state]; rfl
  have N0 := Fr.nil n0
  have hS0 : s.Since s.vm 0 := (State.WarmedH.refl s).since 0
  show own_DoneW p e below s Z own_EL (Q11_0 Z a0 a1 cs w k0 h0 n0) ({ frames := 4, cells := 2, slots := 11, locals := 50 } : Room).cells ({ frames := 4, cells := 2, slots := 11, locals := 50 } : Room).slots (s₁.setTop (entryFrame m #[(.ref a0), (.ref a1), .null] 5))
  refine own_goW (U' := s₁.setTop (mkF m 0 #[.val (.ref a0), .val (.ref a1), .val .null, .unset, .unset] [])) (fun _ k => castTop (own_ef11_0 m a0 a1) k) ?_
  have hCR0 := CHr.refl hCH
  have hSz0 : 0 ≤ h0.size := Nat.zero_le _
  refine own_goW (U' := s₁.setTop (mkF m 1 #[.val (.ref a0), .val (.ref a1), .val .null, .unset, .unset] [(.ref a0)])) (fun _ k => XS.aloadN X0.here hx rfl (hb hby d11_0) rfl rfl k) ?_
  obtain ⟨T89, X89, e89, st89⟩ := initO X0 hx hZ hown (hw _ (own_mem 65 rfl)) (hw _ (own_mem 29 rfl)) (hw _ (own_mem 30 rfl)) e0 (g := (mkF m 1 #[.val (.ref a0), .val (.ref a1), .val .null, .unset, .unset] [(.ref a0)])) rfl (by rw [hml]; rfl) rfl (hb hby d11_1) (by decide) (W := 0) (by show 2 * 0 + _ ≤ _; exact Nat.le_of_eq rfl) (by decide)
  refine own_goW (U' := T89.setTop (mkF m 4 #[.val (.ref a0), .val (.ref a1), .val .null, .unset, .unset] [])) (fun _ k => st89 _ k) ?_
  refine own_goW (U' := T89.setTop (mkF m 5 #[.val (.ref a0), .val (.ref a1), .val .null, .unset, .unset] [(.ref a0)])) (fun _ k => XS.aloadN X89.here hx rfl (hb hby d11_4) rfl rfl k) ?_
  obtain ⟨T90, h90, X90, e90, E90, A90, D90, -, st90⟩ := newO X89 hx hZ hown (hw _ (own_mem 66 rfl)) (hw _ (own_mem 36 rfl)) (hw _ (own_mem 37 rfl)) e89 (g := (mkF m 5 #[.val (.ref a0), .val (.ref a1), .val .null, .unset, .unset] [(.ref a0)])) rfl (hb hby d11_5) (by decide) (by decide)
  obtain ⟨b90, g90⟩ : ∃ z, z = h0.size := ⟨_, rfl⟩
  have g_b90 : n0 ≤ b90 := Nat.le_trans Z0 (Nat.le_of_eq g90.symm)
  have sz_b90 : h0.size ≤ b90 := Nat.le_trans (Keep.refl h0 [a0]).1 (Nat.le_of_eq g90.symm)
  have ne_a0_b90 : a0 ≠ b90 := Nat.ne_of_lt (Nat.lt_of_lt_of_le E_t.lt (Nat.le_of_eq g90.symm))
  have ne_w_b90 : w ≠ b90 := Nat.ne_of_lt (Nat.lt_of_lt_of_le V_w.lt (Nat.le_of_eq g90.symm))
  have ne_a1_b90 : a1 ≠ b90 := Nat.ne_of_lt (Nat.lt_of_lt_of_le E_l.lt (Nat.le_of_eq g90.symm))
  rw [← g90] at A90 D90 st90
  have c90_0 := E_t.ext E90
  have c90_1 := F_p.ext E90
  have c90_2 := F_o.ext E90
  have c90_3 := S_cs.ext E90
  have c90_4 := S_df.ext E90
  have c90_5 := V_w.ext E90
  have c90_6 := E_l.ext E90
  have c90_7 := F_l.ext E90
  have c90_8 := CHr.trans hCR0 (CHr.ext E90 hCR0.1)
  have c90_9 : 0 ≤ h90.size := Nat.le_trans hSz0 E90.1
  have Z90 : n0 ≤ h90.size := Nat.le_trans Z0 E90.1
  have K90 := Keep.ext (Keep.refl h0 [a0]) E90
  have F90_55 : Fld Z h90 b90 "java/util/AbstractList" "modCount" "I" (.int (0 : Int32)) := D90 (Or.inl (hw _ (own_mem 55 rfl))) (ty := .int) (by decide)
  have F90_58 : Fld Z h90 b90 "java/util/ArrayList" "elementData" "[Ljava/lang/Object;" .null := D90 (Or.inl (hw _ (own_mem 58 rfl))) (ty := (.array (.object "java/lang/Object"))) (by decide)
  have F90_98 : Fld Z h90 b90 "java/util/ArrayList" "size" "I" (.int (0 : Int32)) := D90 (Or.inl (hw _ (own_mem 98 rfl))) (ty := .int) (by decide)
  refine own_goW (U' := T90.setTop (mkF m 8 #[.val (.ref a0), .val (.ref a1), .val .null, .unset, .unset] [(.ref b90), (.ref a0)])) (fun _ k => st90 _ k) ?_
  refine own_goW (U' := T90.setTop (mkF m 9 #[.val (.ref a0), .val (.ref a1), .val .null, .unset, .unset] [(.ref b90), (.ref b90), (.ref a0)])) (fun _ k => XS.dup X90.here hx rfl (hb hby d11_8) rfl rfl k) ?_
  obtain ⟨_, _, ⟨T91, L91, k91, n91⟩, -, X91, ⟨Lc91, hQ91, l91, y91, z91⟩, st91⟩ := X90.specialBack hx (y := (⟨"java/util/ArrayList", "<init>", "()V"⟩ : MethodName)) rfl hown (mvT hZ (hw _ (own_mem 67 rfl))) (mvT hZ (hw _ (own_mem 39 rfl))) (mvT hZ (hw _ (own_mem 40 rfl))) (by decide) (backOf (W := 2) (rm8 l Z aw hw [] b90 w h90 n0 Z90 c90_4 A90 F90_98 F90_58 F90_55 (by first | assumption | decide | rfl)) hZ (hw _ (own_mem 40 rfl)) (hw _ (own_mem 37 rfl)) (by decide) (by decide)) (g := (mkF m 9 #[.val (.ref a0), .val (.ref a1), .val .null, .unset, .unset] [(.ref b90), (.ref b90), (.ref a0)])) rfl (by rw [hml]; rfl) (Steps.refl _) (a := b90) (argsL := []) (rest := [(.ref b90), (.ref a0)]) (lenOf own_pd10 rfl) rfl (by show 2 * 0 + _ ≤ _; exact Nat.le_of_eq rfl) (hb hby d11_9) (fun _ _ => ⟨rfl, e90, (by decide : 1 + 0 ≤ _), (by decide : 3 + 0 ≤ _)⟩)
  dsimp only [Pt.U, Pt.locs, Pt.cells, Pt.slots] at X91 l91 y91 z91 st91 hQ91
  subst l91 y91 z91
  obtain ⟨rfl, N91q, K91q, xE91, xS91, xD91, xM91⟩ := hQ91
  have N91 := Fr.app N0 N91q
  have c91_0 := c90_0.keep K91q
  have c91_1 := c90_1.keep K91q (ninS ne_a0_b90 nin0)
  have c91_2 := c90_2.keep K91q (ninS ne_a0_b90 nin0)
  have c91_3 := own_sta_keepX c90_3 K91q (allS A90.nostat all0)
  have c91_4 := own_sta_keepX c90_4 K91q (allS A90.nostat all0)
  have c91_5 := c90_5.keep K91q (ninS ne_w_b90 nin0)
  have c91_6 := c90_6.keep K91q
  have c91_7 := c90_7.keep K91q (ninS ne_a1_b90 nin0)
  have c91_8 := CHr.trans c90_8 (CHr.keep K91q (allS (Safe.exa hZ.alike A90 (by decide) (by decide)) all0) c90_8.1)
  have c91_9 : 0 ≤ T91.heap.size := Nat.le_trans c90_9 K91q.1
  have c91_10 := A90.keep K91q
  have Z91 : n0 ≤ T91.heap.size := Nat.le_trans Z90 K91q.1
  have K91 := Keep.trans K90 K91q (allS (Or.inr sz_b90) all0)
  refine own_goW (U' := T91.setTop (mkF m 12 #[.val (.ref a0), .val (.ref a1), .val .null, .unset, .unset] [(.ref b90), (.ref a0)])) (fun _ k => st91.trans k) ?_
  obtain ⟨T92, h92, X92, e92, W92, st92⟩ := putF X91 hx hZ hown (host := "") (Or.inl (hw _ (own_mem 68 rfl))) Via.refl rfl c91_1 c91_0 (Or.inr ⟨(hw _ (own_mem 69 rfl)), rfl, hnm⟩) (hw _ (own_mem 60 rfl)) (ty := (.object "java/util/List")) (by decide) rfl rfl (g := (mkF m 12 #[.val (.ref a0), .val (.ref a1), .val .null, .unset, .unset] [(.ref b90), (.ref a0)])) rfl rfl (hb hby d11_12)
  have ne_w_a0 : w ≠ a0 := (Exa.neArv c91_0 c91_5 (hw _ (own_mem 60 rfl))).symm
  have ne_a1_a0 : a1 ≠ a0 := Exa.ne c91_6 c91_0 (by decide)
  have c92_0 := c91_0.wr W92
  have c92_2 := c91_2.other W92 (Or.inr (slot_ne (Or.inr (hw _ (own_mem 87 rfl))) (Or.inr (hw _ (own_mem 69 rfl))) (by decide) (t := (.object "java/util/Map")) (t' := (.object "java/util/List")) (by decide) (by decide)))
  have c92_3 := c91_3.wr W92
  have c92_4 := c91_4.wr W92
  have c92_5 := c91_5.other W92 ne_w_a0
  have c92_6 := c91_6.wr W92
  have c92_7 := c91_7.other W92 (Or.inl ne_a1_a0)
  have c92_8 := CHr.trans c91_8 (CHr.wr W92 (Safe.exa hZ.alike c91_0 (by decide) (by decide)) c91_8.1)
  have c92_9 : 0 ≤ h92.size := Nat.le_trans c91_9 (Keep.of_wr W92).1
  have c92_10 := xE91.wr W92
  have c92_11 := xS91.other W92 (Or.inl (Ne.symm ne_a0_b90))
  have c92_12 := xD91.other W92 (Or.inl (Ne.symm ne_a0_b90))
  have c92_13 := xM91.other W92 (Or.inl (Ne.symm ne_a0_b90))
  have w92 : Fld Z h92 a0 "com/example/hashtory/hashtory/Arguments" "positionals" "Ljava/util/List;" (.ref b90) := c91_1.same W92
  have Z92 : n0 ≤ h92.size := Nat.le_trans Z91 (Keep.of_wr W92).1
  have K92 := Keep.wr K91 W92 (Or.inl (by simp))
  have N92 := Fr.snoc X92 N91 g_a0
  refine own_goW (U' := T92.setTop (mkF m 15 #[.val (.ref a0), .val (.ref a1), .val .null, .unset, .unset] [])) (fun _ k => st92 _ k) ?_
  refine own_goW (U' := T92.setTop (mkF m 16 #[.val (.ref a0), .val (.ref a1), .val .null, .unset, .unset] [(.ref a0)])) (fun _ k => XS.aloadN X92.here hx rfl (hb hby d11_15) rfl rfl k) ?_
  obtain ⟨T93, h93, X93, e93, E93, A93, D93, -, st93⟩ := newO X92 hx hZ hown (hw _ (own_mem 70 rfl)) (hw _ (own_mem 71 rfl)) (hw _ (own_mem 72 rfl)) e92 (g := (mkF m 16 #[.val (.ref a0), .val (.ref a1), .val .null, .unset, .unset] [(.ref a0)])) rfl (hb hby d11_16) (by decide) (by decide)
  obtain ⟨b93, g93⟩ : ∃ z, z = h92.size := ⟨_, rfl⟩
  have g_b93 : n0 ≤ b93 := Nat.le_trans Z92 (Nat.le_of_eq g93.symm)
  have sz_b93 : h0.size ≤ b93 := Nat.le_trans K92.1 (Nat.le_of_eq g93.symm)
  have ne_a0_b93 : a0 ≠ b93 := Nat.ne_of_lt (Nat.lt_of_lt_of_le c92_0.lt (Nat.le_of_eq g93.symm))
  have ne_w_b93 : w ≠ b93 := Nat.ne_of_lt (Nat.lt_of_lt_of_le c92_5.lt (Nat.le_of_eq g93.symm))
  have ne_a1_b93 : a1 ≠ b93 := Nat.ne_of_lt (Nat.lt_of_lt_of_le c92_6.lt (Nat.le_of_eq g93.symm))
  have ne_b90_b93 : b90 ≠ b93 := Nat.ne_of_lt (Nat.lt_of_lt_of_le c92_10.lt (Nat.le_of_eq g93.symm))
  rw [← g93] at A93 D93 st93
  have c93_0 := c92_0.ext E93
  have c93_1 := w92.ext E93
  have c93_2 := c92_2.ext E93
  have c93_3 := c92_3.ext E93
  have c93_4 := c92_4.ext E93
  have c93_5 := c92_5.ext E93
  have c93_6 := c92_6.ext E93
  have c93_7 := c92_7.ext E93
  have c93_8 := CHr.trans c92_8 (CHr.ext E93 c92_8.1)
  have c93_9 : 0 ≤ h93.size := Nat.le_trans c92_9 E93.1
  have c93_10 := c92_10.ext E93
  have c93_11 := c92_11.ext E93
  have c93_12 := c92_12.ext E93
  have c93_13 := c92_13.ext E93
  have Z93 : n0 ≤ h93.size := Nat.le_trans Z92 E93.1
  have K93 := Keep.ext K92 E93
  have F93_85 : Fld Z h93 b93 "java/util/HashMap" "loadFactor" "F" (.float (0 : UInt32)) := D93 (Or.inr (hw _ (own_mem 85 rfl))) (ty := .float) (by decide)
  refine own_goW (U' := T93.setTop (mkF m 19 #[.val (.ref a0), .val (.ref a1), .val .null, .unset, .unset] [(.ref b93), (.ref a0)])) (fun _ k => st93 _ k) ?_
  refine own_goW (U' := T93.setTop (mkF m 20 #[.val (.ref a0), .val (.ref a1), .val .null, .unset, .unset] [(.ref b93), (.ref b93), (.ref a0)])) (fun _ k => XS.dup X93.here hx rfl (hb hby d11_19) rfl rfl k) ?_
  obtain ⟨_, _, ⟨T94, L94, k94, n94⟩, -, X94, ⟨Lc94, hQ94, l94, y94, z94⟩, st94⟩ := X93.specialBack hx (y := (⟨"java/util/HashMap", "<init>", "()V"⟩ : MethodName)) rfl hown (mvT hZ (hw _ (own_mem 73 rfl))) (mvT hZ (hw _ (own_mem 74 rfl))) (mvT hZ (hw _ (own_mem 75 rfl))) (by decide) (backOf (W := 2) (rm12 l Z aw hw [] b93 h93 n0 Z93 A93 F93_85 (by first | assumption | decide | rfl)) hZ (hw _ (own_mem 75 rfl)) (hw _ (own_mem 72 rfl)) (by decide) (by decide)) (g := (mkF m 20 #[.val (.ref a0), .val (.ref a1), .val .null, .unset, .unset] [(.ref b93), (.ref b93), (.ref a0)])) rfl (by rw [hml]; rfl) (Steps.refl _) (a := b93) (argsL := []) (rest := [(.ref b93), (.ref a0)]) (lenOf own_pd10 rfl) rfl (by show 2 * 0 + _ ≤ _; exact Nat.le_of_eq rfl) (hb hby d11_20) (fun _ _ => ⟨rfl, e93, (by decide : 2 + 0 ≤ _), (by decide : 11 + 0 ≤ _)⟩)
  dsimp only [Pt.U, Pt.locs, Pt.cells, Pt.slots] at X94 l94 y94 z94 st94 hQ94
  subst l94 y94 z94
  obtain ⟨rfl, N94q, K94q, xE94⟩ := hQ94
  have N94 := Fr.app N92 N94q
  have c94_0 := c93_0.keep K94q
  have c94_1 := c93_1.keep K94q (ninS ne_a0_b93 nin0)
  have c94_2 := c93_2.keep K94q (ninS ne_a0_b93 nin0)
  have c94_3 := own_sta_keepX c93_3 K94q (allS A93.nostat all0)
  have c94_4 := own_sta_keepX c93_4 K94q (allS A93.nostat all0)
  have c94_5 := c93_5.keep K94q (ninS ne_w_b93 nin0)
  have c94_6 := c93_6.keep K94q
  have c94_7 := c93_7.keep K94q (ninS ne_a1_b93 nin0)
  have c94_8 := CHr.trans c93_8 (CHr.keep K94q (allS (Safe.exa hZ.alike A93 (by decide) (by decide)) all0) c93_8.1)
  have c94_9 : 0 ≤ T94.heap.size := Nat.le_trans c93_9 K94q.1
  have c94_10 := c93_10.keep K94q
  have c94_11 := c93_11.keep K94q (ninS ne_b90_b93 nin0)
  have c94_12 := c93_12.keep K94q (ninS ne_b90_b93 nin0)
  have c94_13 := c93_13.keep K94q (ninS ne_b90_b93 nin0)
  have c94_14 := A93.keep K94q
  have Z94 : n0 ≤ T94.heap.size := Nat.le_trans Z93 K94q.1
  have K94 := Keep.trans K93 K94q (allS (Or.inr sz_b93) all0)
  refine own_goW (U' := T94.setTop (mkF m 23 #[.val (.ref a0), .val (.ref a1), .val .null, .unset, .unset] [(.ref b93), (.ref a0)])) (fun _ k => st94.trans k) ?_
  obtain ⟨T95, h95, X95, e95, W95, st95⟩ := putF X94 hx hZ hown (host := "") (Or.inl (hw _ (own_mem 86 rfl))) Via.refl rfl c94_2 c94_0 (Or.inr ⟨(hw _ (own_mem 87 rfl)), rfl, hnm⟩) (hw _ (own_mem 60 rfl)) (ty := (.object "java/util/Map")) (by decide) rfl rfl (g := (mkF m 23 #[.val (.ref a0), .val (.ref a1), .val .null, .unset, .unset] [(.ref b93), (.ref a0)])) rfl rfl (hb hby d11_23)
  have c95_0 := c94_0.wr W95
  have c95_1 := c94_1.other W95 (Or.inr (slot_ne (Or.inr (hw _ (own_mem 69 rfl))) (Or.inr (hw _ (own_mem 87 rfl))) (by decide) (t := (.object "java/util/List")) (t' := (.object "java/util/Map")) (by decide) (by decide)))
  have c95_3 := c94_3.wr W95
  have c95_4 := c94_4.wr W95
  have c95_5 := c94_5.other W95 ne_w_a0
  have c95_6 := c94_6.wr W95
  have c95_7 := c94_7.other W95 (Or.inl ne_a1_a0)
  have c95_8 := CHr.trans c94_8 (CHr.wr W95 (Safe.exa hZ.alike c94_0 (by decide) (by decide)) c94_8.1)
  have c95_9 : 0 ≤ h95.size := Nat.le_trans c94_9 (Keep.of_wr W95).1
  have c95_10 := c94_10.wr W95
  have c95_11 := c94_11.other W95 (Or.inl (Ne.symm ne_a0_b90))
  have c95_12 := c94_12.other W95 (Or.inl (Ne.symm ne_a0_b90))
  have c95_13 := c94_13.other W95 (Or.inl (Ne.symm ne_a0_b90))
  have c95_14 := xE94.wr W95
  have w95 : Fld Z h95 a0 "com/example/hashtory/hashtory/Arguments" "options" "Ljava/util/Map;" (.ref b93) := c94_2.same W95
  have Z95 : n0 ≤ h95.size := Nat.le_trans Z94 (Keep.of_wr W95).1
  have K95 := Keep.wr K94 W95 (Or.inl (by simp))
  have N95 := Fr.snoc X95 N94 g_a0
  refine own_goW (U' := T95.setTop (mkF m 26 #[.val (.ref a0), .val (.ref a1), .val .null, .unset, .unset] [])) (fun _ k => st95 _ k) ?_
  refine own_goW (U' := T95.setTop (mkF m 30 #[.val (.ref a0), .val (.ref a1), .val .null, .val (.int (0 : Int32)), .unset] [(.ref a1), (.int (0 : Int32))])) (fun _ k => XS.iconst X95.here hx rfl (hb hby d11_26) (XS.istoreN X95.here hx rfl (hb hby d11_27) rfl (l' := #[.val (.ref a0), .val (.ref a1), .val .null, .val (.int (0 : Int32)), .unset]) rfl (XS.iloadN X95.here hx rfl (hb hby d11_28) rfl (XS.aloadN X95.here hx rfl (hb hby d11_29) rfl rfl k)))) ?_
  obtain ⟨cq96, kq96, q96a, q96b, q96c⟩ := isOf hZ e95 c95_6
  obtain ⟨_, _, ⟨T96, L96, k96, n96⟩, -, X96, ⟨Lc96, hQ96, l96, y96, z96⟩, st96⟩ := X95.interfaceBack hx (xi := (⟨"java/util/List", "size", "()I"⟩ : MethodName)) (y := (⟨"java/util/ArrayList", "size", "()I"⟩ : MethodName)) hown (mvT hZ (hw _ (own_mem 88 rfl))) (mvT hZ (hw _ (own_mem 89 rfl))) (mvT hZ (hw _ (own_mem 90 rfl))) (mvT hZ (hw _ (own_mem 91 rfl))) (mvT hZ (hw _ (own_mem 92 rfl))) (mvT hZ (hw _ (own_mem 93 rfl))) (mvT hZ (hw _ (own_mem 94 rfl))) (mvT hZ (hw _ (own_mem 95 rfl))) (by decide) (backOf (W := 1) (rm14 l Z aw hw [] a1 (0 : Int32) h95 n0 Z95 c95_7) hZ (hw _ (own_mem 96 rfl)) (hw _ (own_mem 37 rfl)) (by decide) (by decide)) q96a q96b q96c (g := (mkF m 30 #[.val (.ref a0), .val (.ref a1), .val .null, .val (.int (0 : Int32)), .unset] [(.ref a1), (.int (0 : Int32))])) rfl (by rw [hml]; rfl) (Steps.refl _) (argsL := []) (rest := [(.int (0 : Int32))]) (lenOf own_pd5 rfl) rfl (by show 2 * 0 + _ ≤ _; exact Nat.le_of_eq rfl) (hb hby d11_30) (fun _ _ => ⟨rfl, e95, (by decide : 2 + 0 ≤ _), (by decide : 11 + 0 ≤ _)⟩)
  dsimp only [Pt.U, Pt.locs, Pt.cells, Pt.slots] at X96 l96 y96 z96 st96 hQ96
  subst l96 y96 z96
  obtain ⟨rfl, N96q, e96⟩ := hQ96
  have N96 := Fr.app N95 N96q
  refine own_goW (U' := T96.setTop (mkF m 35 #[.val (.ref a0), .val (.ref a1), .val .null, .val (.int (0 : Int32)), .unset] [(.int (0 : Int32)), (.int (0 : Int32))])) (fun _ k => st96.trans k) ?_
  refine own_goW (U' := T96.setTop (mkF m 174 #[.val (.ref a0), .val (.ref a1), .val .null, .val (.int (0 : Int32)), .unset] [])) (fun _ k => XS.icmpYes X96.here hx rfl (pc0 := 35) (pc' := 174) rfl (hb hby d11_35) rfl (flt (by decide : ¬ ((0 : Int32) < (0 : Int32)))).2.1 (by decide) (by decide) k) ?_
  refine own_retW (vm₁ := s.vm) X96 hS0 (by rw [show T96.heap = h95 from e96]; exact c95_9) (by rw [hh, show T96.heap = h95 from e96]; exact CHr.trans c95_8 (CHv.at (s := s) (vm0 := s.vm) X96 hZ (own_EW hw) c95_8.1)) (v := none) hlk (fun _ => rfl) (by decide) (by decide) (fun fs hr => X96.returnOut hx Bd.returns (hb hby d11_174) hr) ?_
  show (Q11_0 Z a0 a1 cs w k0 h0 n0) _ T96.heap _
  rw [e96]
  exact ⟨rfl, N96, K95, c95_0, ⟨_, sz_b90, c95_1, c95_10, c95_11⟩⟩
theorem d11_38 : decode prog_1_method_1_code 38 = .ok (.aload_n 1, 1) := by decide +kernel
theorem d11_39 : decode prog_1_method_1_code 39 = .ok (.iload_n 3, 1) := by decide +kernel
theorem d11_40 : decode prog_1_method_1_code 40 = .ok (.invokeinterface 29 2, 5) := by decide +kernel
theorem d11_45 : decode prog_1_method_1_code 45 = .ok (.checkcast 33, 3) := by decide +kernel
theorem d11_48 : decode prog_1_method_1_code 48 = .ok (.astore 4, 2) := by decide +kernel
theorem d11_50 : decode prog_1_method_1_code 50 = .ok (.iinc 3 1, 3) := by decide +kernel
theorem d11_53 : decode prog_1_method_1_code 53 = .ok (.aload 4, 2) := by decide +kernel
theorem d11_55 : decode prog_1_method_1_code 55 = .ok (.ldc 35, 2) := by decide +kernel
theorem own_text159 : (∀ c ∈ ("--" : String).toList, c.toNat < 256) ∧ ("--" : String).toList.map (fun c => Value.int (Jvm.Lit.byteI c.toNat.toUInt16)) = [(.int (45 : Int32)), (.int (45 : Int32))] := by decide +kernel
theorem d11_57 : decode prog_1_method_1_code 57 = .ok (.invokevirtual 37, 3) := by decide +kernel
theorem own_pd14 : parseMethodDescriptor "(Ljava/lang/String;)Z" = some ⟨[(.object "java/lang/String")], some .boolean⟩ := by decide +kernel
theorem d11_60 : decode prog_1_method_1_code 60 = .ok (.ifCond .ne 18, 3) := by decide +kernel
theorem d11_63 : decode prog_1_method_1_code 63 = .ok (.aload_n 0, 1) := by decide +kernel
theorem d11_64 : decode prog_1_method_1_code 64 = .ok (.getfield 10, 3) := by decide +kernel
theorem d11_67 : decode prog_1_method_1_code 67 = .ok (.aload 4, 2) := by decide +kernel
theorem d11_69 : decode prog_1_method_1_code 69 = .ok (.invokeinterface 41 2, 5) := by decide +kernel
theorem own_pd15 : parseMethodDescriptor "(Ljava/lang/Object;)Z" = some ⟨[(.object "java/lang/Object")], some .boolean⟩ := by decide +kernel
theorem d11_74 : decode prog_1_method_1_code 74 = .ok (.pop, 1) := by decide +kernel
theorem d11_75 : decode prog_1_method_1_code 75 = .ok (.goto (-47), 3) := by decide +kernel
theorem own_ef11_1 (m : MethodId) (x0 : Addr) (x1 : Addr) : entryFrame m #[(.ref x0), (.ref x1), .null] 5 = mkF m 0 #[.val (.ref x0), .val (.ref x1), .val .null, .unset, .unset] [] := by first | (simp [entryFrame, mkF, argsToLocals, Value.category]; done) | rfl
def Q11_1 (Z : State) (a0 : Addr) (a1 : Addr) (cs : Int32) (w : Addr) (k0 : ClassId) (arr : Addr) (k1 : ClassId) (el0 : Addr) (h0 : Heap) (n0 : Nat) (v : Option Value) (h : Heap) (L : List Loc) : Prop := v = none ∧ Fr n0 L ∧ Keep h0 h [a0] ∧ Exa Z h a0 "com/example/hashtory/hashtory/Arguments" ∧ ∃ pl : Addr, h0.size ≤ pl ∧ Fld Z h a0 "com/example/hashtory/hashtory/Arguments" "positionals" "Ljava/util/List;" (.ref pl) ∧ Exa Z h pl "java/util/ArrayList" ∧ Fld Z h pl "java/util/ArrayList" "size" "I" (.int (1 : Int32)) ∧ ∃ (pa : Addr) (k : ClassId), Fld Z h pl "java/util/ArrayList" "elementData" "[Ljava/lang/Object;" (.ref pa) ∧ Arv Z h pa k (.object "java/lang/Object") (10 : Int32) [(.ref el0), .null, .null, .null, .null, .null, .null, .null, .null, .null] .null
set_option maxRecDepth 65536 in
set_option maxHeartbeats 40000000 in
theorem rm11_1 (l : Launch) (Z : State) (aw : Array Value) (hw : ∀ d ∈ tables_1, d.before aw Z = true) (ws : List Jvm.Cond) (a0 : Addr) (a1 : Addr) (cs : Int32) (w : Addr) (k0 : ClassId) (arr : Addr) (k1 : ClassId) (el0 : Addr) (h0 : Heap) (n0 : Nat) (Z0 : n0 ≤ h0.size) (E_t : Exa Z h0 a0 "com/example/hashtory/hashtory/Arguments") (F_p : Fld Z h0 a0 "com/example/hashtory/hashtory/Arguments" "positionals" "Ljava/util/List;" .null) (F_o : Fld Z h0 a0 "com/example/hashtory/hashtory/Arguments" "options" "Ljava/util/Map;" .null) (S_cs : Sta Z h0 "java/lang/String" "COMPACT_STRINGS" "Z" (.int cs)) (S_df : Sta Z h0 "java/util/ArrayList" "DEFAULTCAPACITY_EMPTY_ELEMENTDATA" "[Ljava/lang/Object;" (.ref w)) (V_w : Arv Z h0 w k0 (.object "java/lang/Object") (0 : Int32) [] .null) (E_l : Exa Z h0 a1 "java/util/ArrayList") (F_l : Fld Z h0 a1 "java/util/ArrayList" "size" "I" (.int (1 : Int32))) (F_x : Fld Z h0 a1 "java/util/ArrayList" "elementData" "[Ljava/lang/Object;" (.ref arr)) (V_x : Arv Z h0 arr k1 (.object "java/lang/Object") (10 : Int32) [(.ref el0), .null, .null, .null, .null, .null, .null, .null, .null, .null] .null) (E_0 : Exa Z h0 el0 "java/lang/String") (g_a0 : n0 ≤ a0) (hcs : ¬ (cs = (0 : Int32))) (S_0 : own_S Z h0 el0) :
    MetFree l (⟨"com/example/hashtory/hashtory/Arguments", "<init>", "(Ljava/util/List;Ljava/util/Set;)V"⟩ : MethodName) (head1 (Jvm.Cond.code (⟨"com/example/hashtory/hashtory/Arguments", "<init>", "(Ljava/util/List;Ljava/util/Set;)V"⟩ : MethodName) prog_1_method_1_code 5 none :: ws) ({ frames := 5, cells := 5, slots := 33, locals := 69 } : Room)) (fun a U => a = #[(.ref a0), (.ref a1), .null] ∧ Z.Warmed39 U.vm ∧ U.heap = h0 ∧ CHv Z own_EL U.vm h0) (fun _ _ _ _ _ => True) (fun _ U o U' => ∃ v L, o = .returned v ∧ (Q11_1 Z a0 a1 cs w k0 arr k1 el0 h0 n0) v U'.heap L ∧ CHr Z own_EL U.vm U.heap U'.vm U'.heap ∧ ReturnedEndW U o U' L ({ frames := 5, cells := 5, slots := 33, locals := 69 } : Room).cells ({ frames := 5, cells := 5, slots := 33, locals := 69 } : Room).slots) := by
  refine MetFree.of_bodySF (plainFor_of_name own_pn10) hisR ?_
  intro p e s m args below meth c s₁ Bd hml0 hP hK
  obtain ⟨rfl, hZ, hh, hCH⟩ := hP
  have hx := Bd.exec
  have hby := Bd.bytes
  have hml : c.maxLocals = 5 := hml0
  have hown : s.vm.findClass "com/example/hashtory/hashtory/Arguments" = some m.cls := findClass_of_methodNamed Bd.named
  have hnm := (name_of_methodNamed Bd.named Bd.method).1
  have hlk : meth.locks = false := BodyLoose.notSynchronized (by assumption)
  have X0 : Stand p l e ({ frames := 5, cells := 5, slots := 33, locals := 69 } : Room) s m #[(.ref a0), (.ref a1), .null] below meth c s₁ [] 0 0 := Stand.of_body Bd
  have e0 : s₁.heap = h0 := by rw [← hh, Bd.state]; rfl
  have N0 := Fr.nil n0
  have hS0 : s.Since s.vm 0 := (State.WarmedH.refl s).since 0
  show own_DoneW p e below s Z own_EL (Q11_1 Z a0 a1 cs w k0 arr k1 el0 h0 n0) ({ frames := 5, cells := 5, slots := 33, locals := 69 } : Room).cells ({ frames := 5, cells := 5, slots := 33, locals := 69 } : Room).slots (s₁.setTop (entryFrame m #[(.ref a0), (.ref a1), .null] 5))
  refine own_goW (U' := s₁.setTop (mkF m 0 #[.val (.ref a0), .val (.ref a1), .val .null, .unset, .unset] [])) (fun _ k => castTop (own_ef11_1 m a0 a1) k) ?_
  have hCR0 := CHr.refl hCH
  have hSz0 : 0 ≤ h0.size := Nat.zero_le _
  refine own_goW (U' := s₁.setTop (mkF m 1 #[.val (.ref a0), .val (.ref a1), .val .null, .unset, .unset] [(.ref a0)])) (fun _ k => XS.aloadN X0.here hx rfl (hb hby d11_0) rfl rfl k) ?_
  obtain ⟨T97, X97, e97, st97⟩ := initO X0 hx hZ hown (hw _ (own_mem 65 rfl)) (hw _ (own_mem 29 rfl)) (hw _ (own_mem 30 rfl)) e0 (g := (mkF m 1 #[.val (.ref a0), .val (.ref a1), .val .null, .unset, .unset] [(.ref a0)])) rfl (by rw [hml]; rfl) rfl (hb hby d11_1) (by decide) (W := 0) (by show 2 * 0 + _ ≤ _; exact Nat.le_of_eq rfl) (by decide)
  refine own_goW (U' := T97.setTop (mkF m 4 #[.val (.ref a0), .val (.ref a1), .val .null, .unset, .unset] [])) (fun _ k => st97 _ k) ?_
  refine own_goW (U' := T97.setTop (mkF m 5 #[.val (.ref a0), .val (.ref a1), .val .null, .unset, .unset] [(.ref a0)])) (fun _ k => XS.aloadN X97.here hx rfl (hb hby d11_4) rfl rfl k) ?_
  obtain ⟨T98, h98, X98, e98, E98, A98, D98, -, st98⟩ := newO X97 hx hZ hown (hw _ (own_mem 66 rfl)) (hw _ (own_mem 36 rfl)) (hw _ (own_mem 37 rfl)) e97 (g := (mkF m 5 #[.val (.ref a0), .val (.ref a1), .val .null, .unset, .unset] [(.ref a0)])) rfl (hb hby d11_5) (by decide) (by decide)
  obtain ⟨b98, g98⟩ : ∃ z, z = h0.size := ⟨_, rfl⟩
  have g_b98 : n0 ≤ b98 := Nat.le_trans Z0 (Nat.le_of_eq g98.symm)
  have sz_b98 : h0.size ≤ b98 := Nat.le_trans (Keep.refl h0 [a0]).1 (Nat.le_of_eq g98.symm)
  have ne_a0_b98 : a0 ≠ b98 := Nat.ne_of_lt (Nat.lt_of_lt_of_le E_t.lt (Nat.le_of_eq g98.symm))
  have ne_w_b98 : w ≠ b98 := Nat.ne_of_lt (Nat.lt_of_lt_of_le V_w.lt (Nat.le_of_eq g98.symm))
  have ne_a1_b98 : a1 ≠ b98 := Nat.ne_of_lt (Nat.lt_of_lt_of_le E_l.lt (Nat.le_of_eq g98.symm))
  have ne_arr_b98 : arr ≠ b98 := Nat.ne_of_lt (Nat.lt_of_lt_of_le V_x.lt (Nat.le_of_eq g98.symm))
  have ne_el0_b98 : el0 ≠ b98 := Nat.ne_of_lt (Nat.lt_of_lt_of_le E_0.lt (Nat.le_of_eq g98.symm))
  rw [← g98] at A98 D98 st98
  have c98_0 := E_t.ext E98
  have c98_1 := F_p.ext E98
  have c98_2 := F_o.ext E98
  have c98_3 := S_cs.ext E98
  have c98_4 := S_df.ext E98
  have c98_5 := V_w.ext E98
  have c98_6 := E_l.ext E98
  have c98_7 := F_l.ext E98
  have c98_8 := F_x.ext E98
  have c98_9 := V_x.ext E98
  have c98_10 := E_0.ext E98
  have c98_11 := CHr.trans hCR0 (CHr.ext E98 hCR0.1)
  have c98_12 : 0 ≤ h98.size := Nat.le_trans hSz0 E98.1
  have Z98 : n0 ≤ h98.size := Nat.le_trans Z0 E98.1
  have K98 := Keep.ext (Keep.refl h0 [a0]) E98
  have F98_55 : Fld Z h98 b98 "java/util/AbstractList" "modCount" "I" (.int (0 : Int32)) := D98 (Or.inl (hw _ (own_mem 55 rfl))) (ty := .int) (by decide)
  have F98_58 : Fld Z h98 b98 "java/util/ArrayList" "elementData" "[Ljava/lang/Object;" .null := D98 (Or.inl (hw _ (own_mem 58 rfl))) (ty := (.array (.object "java/lang/Object"))) (by decide)
  have F98_98 : Fld Z h98 b98 "java/util/ArrayList" "size" "I" (.int (0 : Int32)) := D98 (Or.inl (hw _ (own_mem 98 rfl))) (ty := .int) (by decide)
  refine own_goW (U' := T98.setTop (mkF m 8 #[.val (.ref a0), .val (.ref a1), .val .null, .unset, .unset] [(.ref b98), (.ref a0)])) (fun _ k => st98 _ k) ?_
  refine own_goW (U' := T98.setTop (mkF m 9 #[.val (.ref a0), .val (.ref a1), .val .null, .unset, .unset] [(.ref b98), (.ref b98), (.ref a0)])) (fun _ k => XS.dup X98.here hx rfl (hb hby d11_8) rfl rfl k) ?_
  obtain ⟨_, _, ⟨T99, L99, k99, n99⟩, -, X99, ⟨Lc99, hQ99, l99, y99, z99⟩, st99⟩ := X98.specialBack hx (y := (⟨"java/util/ArrayList", "<init>", "()V"⟩ : MethodName)) rfl hown (mvT hZ (hw _ (own_mem 67 rfl))) (mvT hZ (hw _ (own_mem 39 rfl))) (mvT hZ (hw _ (own_mem 40 rfl))) (by decide) (backOf (W := 2) (rm8 l Z aw hw [] b98 w h98 n0 Z98 c98_4 A98 F98_98 F98_58 F98_55 (by first | assumption | decide | rfl)) hZ (hw _ (own_mem 40 rfl)) (hw _ (own_mem 37 rfl)) (by decide) (by decide)) (g := (mkF m 9 #[.val (.ref a0), .val (.ref a1), .val .null, .unset, .unset] [(.ref b98), (.ref b98), (.ref a0)])) rfl (by rw [hml]; rfl) (Steps.refl _) (a := b98) (argsL := []) (rest := [(.ref b98), (.ref a0)]) (lenOf own_pd10 rfl) rfl (by show 2 * 0 + _ ≤ _; exact Nat.le_of_eq rfl) (hb hby d11_9) (fun _ _ => ⟨rfl, e98, (by decide : 1 + 0 ≤ _), (by decide : 3 + 0 ≤ _)⟩)
  dsimp only [Pt.U, Pt.locs, Pt.cells, Pt.slots] at X99 l99 y99 z99 st99 hQ99
  subst l99 y99 z99
  obtain ⟨rfl, N99q, K99q, xE99, xS99, xD99, xM99⟩ := hQ99
  have N99 := Fr.app N0 N99q
  have c99_0 := c98_0.keep K99q
  have c99_1 := c98_1.keep K99q (ninS ne_a0_b98 nin0)
  have c99_2 := c98_2.keep K99q (ninS ne_a0_b98 nin0)
  have c99_3 := own_sta_keepX c98_3 K99q (allS A98.nostat all0)
  have c99_4 := own_sta_keepX c98_4 K99q (allS A98.nostat all0)
  have c99_5 := c98_5.keep K99q (ninS ne_w_b98 nin0)
  have c99_6 := c98_6.keep K99q
  have c99_7 := c98_7.keep K99q (ninS ne_a1_b98 nin0)
  have c99_8 := c98_8.keep K99q (ninS ne_a1_b98 nin0)
  have c99_9 := c98_9.keep K99q (ninS ne_arr_b98 nin0)
  have c99_10 := c98_10.keep K99q
  have c99_11 := CHr.trans c98_11 (CHr.keep K99q (allS (Safe.exa hZ.alike A98 (by decide) (by decide)) all0) c98_11.1)
  have c99_12 : 0 ≤ T99.heap.size := Nat.le_trans c98_12 K99q.1
  have c99_13 := A98.keep K99q
  have Z99 : n0 ≤ T99.heap.size := Nat.le_trans Z98 K99q.1
  have K99 := Keep.trans K98 K99q (allS (Or.inr sz_b98) all0)
  refine own_goW (U' := T99.setTop (mkF m 12 #[.val (.ref a0), .val (.ref a1), .val .null, .unset, .unset] [(.ref b98), (.ref a0)])) (fun _ k => st99.trans k) ?_
  obtain ⟨T100, h100, X100, e100, W100, st100⟩ := putF X99 hx hZ hown (host := "") (Or.inl (hw _ (own_mem 68 rfl))) Via.refl rfl c99_1 c99_0 (Or.inr ⟨(hw _ (own_mem 69 rfl)), rfl, hnm⟩) (hw _ (own_mem 60 rfl)) (ty := (.object "java/util/List")) (by decide) rfl rfl (g := (mkF m 12 #[.val (.ref a0), .val (.ref a1), .val .null, .unset, .unset] [(.ref b98), (.ref a0)])) rfl rfl (hb hby d11_12)
  have ne_w_a0 : w ≠ a0 := (Exa.neArv c99_0 c99_5 (hw _ (own_mem 60 rfl))).symm
  have ne_a1_a0 : a1 ≠ a0 := Exa.ne c99_6 c99_0 (by decide)
  have ne_arr_a0 : arr ≠ a0 := (Exa.neArv c99_0 c99_9 (hw _ (own_mem 60 rfl))).symm
  have ne_el0_a0 : el0 ≠ a0 := Exa.ne c99_10 c99_0 (by decide)
  have c100_0 := c99_0.wr W100
  have c100_2 := c99_2.other W100 (Or.inr (slot_ne (Or.inr (hw _ (own_mem 87 rfl))) (Or.inr (hw _ (own_mem 69 rfl))) (by decide) (t := (.object "java/util/Map")) (t' := (.object "java/util/List")) (by decide) (by decide)))
  have c100_3 := c99_3.wr W100
  have c100_4 := c99_4.wr W100
  have c100_5 := c99_5.other W100 ne_w_a0
  have c100_6 := c99_6.wr W100
  have c100_7 := c99_7.other W100 (Or.inl ne_a1_a0)
  have c100_8 := c99_8.other W100 (Or.inl ne_a1_a0)
  have c100_9 := c99_9.other W100 ne_arr_a0
  have c100_10 := c99_10.wr W100
  have c100_11 := CHr.trans c99_11 (CHr.wr W100 (Safe.exa hZ.alike c99_0 (by decide) (by decide)) c99_11.1)
  have c100_12 : 0 ≤ h100.size := Nat.le_trans c99_12 (Keep.of_wr W100).1
  have c100_13 := xE99.wr W100
  have c100_14 := xS99.other W100 (Or.inl (Ne.symm ne_a0_b98))
  have c100_15 := xD99.other W100 (Or.inl (Ne.symm ne_a0_b98))
  have c100_16 := xM99.other W100 (Or.inl (Ne.symm ne_a0_b98))
  have w100 : Fld Z h100 a0 "com/example/hashtory/hashtory/Arguments" "positionals" "Ljava/util/List;" (.ref b98) := c99_1.same W100
  have Z100 : n0 ≤ h100.size := Nat.le_trans Z99 (Keep.of_wr W100).1
  have K100 := Keep.wr K99 W100 (Or.inl (by simp))
  have N100 := Fr.snoc X100 N99 g_a0
  refine own_goW (U' := T100.setTop (mkF m 15 #[.val (.ref a0), .val (.ref a1), .val .null, .unset, .unset] [])) (fun _ k => st100 _ k) ?_
  refine own_goW (U' := T100.setTop (mkF m 16 #[.val (.ref a0), .val (.ref a1), .val .null, .unset, .unset] [(.ref a0)])) (fun _ k => XS.aloadN X100.here hx rfl (hb hby d11_15) rfl rfl k) ?_
  obtain ⟨T101, h101, X101, e101, E101, A101, D101, -, st101⟩ := newO X100 hx hZ hown (hw _ (own_mem 70 rfl)) (hw _ (own_mem 71 rfl)) (hw _ (own_mem 72 rfl)) e100 (g := (mkF m 16 #[.val (.ref a0), .val (.ref a1), .val .null, .unset, .unset] [(.ref a0)])) rfl (hb hby d11_16) (by decide) (by decide)
  obtain ⟨b101, g101⟩ : ∃ z, z = h100.size := ⟨_, rfl⟩
  have g_b101 : n0 ≤ b101 := Nat.le_trans Z100 (Nat.le_of_eq g101.symm)
  have sz_b101 : h0.size ≤ b101 := Nat.le_trans K100.1 (Nat.le_of_eq g101.symm)
  have ne_a0_b101 : a0 ≠ b101 := Nat.ne_of_lt (Nat.lt_of_lt_of_le c100_0.lt (Nat.le_of_eq g101.symm))
  have ne_w_b101 : w ≠ b101 := Nat.ne_of_lt (Nat.lt_of_lt_of_le c100_5.lt (Nat.le_of_eq g101.symm))
  have ne_a1_b101 : a1 ≠ b101 := Nat.ne_of_lt (Nat.lt_of_lt_of_le c100_6.lt (Nat.le_of_eq g101.symm))
  have ne_arr_b101 : arr ≠ b101 := Nat.ne_of_lt (Nat.lt_of_lt_of_le c100_9.lt (Nat.le_of_eq g101.symm))
  have ne_el0_b101 : el0 ≠ b101 := Nat.ne_of_lt (Nat.lt_of_lt_of_le c100_10.lt (Nat.le_of_eq g101.symm))
  have ne_b98_b101 : b98 ≠ b101 := Nat.ne_of_lt (Nat.lt_of_lt_of_le c100_13.lt (Nat.le_of_eq g101.symm))
  rw [← g101] at A101 D101 st101
  have c101_0 := c100_0.ext E101
  have c101_1 := w100.ext E101
  have c101_2 := c100_2.ext E101
  have c101_3 := c100_3.ext E101
  have c101_4 := c100_4.ext E101
  have c101_5 := c100_5.ext E101
  have c101_6 := c100_6.ext E101
  have c101_7 := c100_7.ext E101
  have c101_8 := c100_8.ext E101
  have c101_9 := c100_9.ext E101
  have c101_10 := c100_10.ext E101
  have c101_11 := CHr.trans c100_11 (CHr.ext E101 c100_11.1)
  have c101_12 : 0 ≤ h101.size := Nat.le_trans c100_12 E101.1
  have c101_13 := c100_13.ext E101
  have c101_14 := c100_14.ext E101
  have c101_15 := c100_15.ext E101
  have c101_16 := c100_16.ext E101
  have Z101 : n0 ≤ h101.size := Nat.le_trans Z100 E101.1
  have K101 := Keep.ext K100 E101
  have F101_85 : Fld Z h101 b101 "java/util/HashMap" "loadFactor" "F" (.float (0 : UInt32)) := D101 (Or.inr (hw _ (own_mem 85 rfl))) (ty := .float) (by decide)
  refine own_goW (U' := T101.setTop (mkF m 19 #[.val (.ref a0), .val (.ref a1), .val .null, .unset, .unset] [(.ref b101), (.ref a0)])) (fun _ k => st101 _ k) ?_
  refine own_goW (U' := T101.setTop (mkF m 20 #[.val (.ref a0), .val (.ref a1), .val .null, .unset, .unset] [(.ref b101), (.ref b101), (.ref a0)])) (fun _ k => XS.dup X101.here hx rfl (hb hby d11_19) rfl rfl k) ?_
  obtain ⟨_, _, ⟨T102, L102, k102, n102⟩, -, X102, ⟨Lc102, hQ102, l102, y102, z102⟩, st102⟩ := X101.specialBack hx (y := (⟨"java/util/HashMap", "<init>", "()V"⟩ : MethodName)) rfl hown (mvT hZ (hw _ (own_mem 73 rfl))) (mvT hZ (hw _ (own_mem 74 rfl))) (mvT hZ (hw _ (own_mem 75 rfl))) (by decide) (backOf (W := 2) (rm12 l Z aw hw [] b101 h101 n0 Z101 A101 F101_85 (by first | assumption | decide | rfl)) hZ (hw _ (own_mem 75 rfl)) (hw _ (own_mem 72 rfl)) (by decide) (by decide)) (g := (mkF m 20 #[.val (.ref a0), .val (.ref a1), .val .null, .unset, .unset] [(.ref b101), (.ref b101), (.ref a0)])) rfl (by rw [hml]; rfl) (Steps.refl _) (a := b101) (argsL := []) (rest := [(.ref b101), (.ref a0)]) (lenOf own_pd10 rfl) rfl (by show 2 * 0 + _ ≤ _; exact Nat.le_of_eq rfl) (hb hby d11_20) (fun _ _ => ⟨rfl, e101, (by decide : 2 + 0 ≤ _), (by decide : 11 + 0 ≤ _)⟩)
  dsimp only [Pt.U, Pt.locs, Pt.cells, Pt.slots] at X102 l102 y102 z102 st102 hQ102
  subst l102 y102 z102
  obtain ⟨rfl, N102q, K102q, xE102⟩ := hQ102
  have N102 := Fr.app N100 N102q
  have c102_0 := c101_0.keep K102q
  have c102_1 := c101_1.keep K102q (ninS ne_a0_b101 nin0)
  have c102_2 := c101_2.keep K102q (ninS ne_a0_b101 nin0)
  have c102_3 := own_sta_keepX c101_3 K102q (allS A101.nostat all0)
  have c102_4 := own_sta_keepX c101_4 K102q (allS A101.nostat all0)
  have c102_5 := c101_5.keep K102q (ninS ne_w_b101 nin0)
  have c102_6 := c101_6.keep K102q
  have c102_7 := c101_7.keep K102q (ninS ne_a1_b101 nin0)
  have c102_8 := c101_8.keep K102q (ninS ne_a1_b101 nin0)
  have c102_9 := c101_9.keep K102q (ninS ne_arr_b101 nin0)
  have c102_10 := c101_10.keep K102q
  have c102_11 := CHr.trans c101_11 (CHr.keep K102q (allS (Safe.exa hZ.alike A101 (by decide) (by decide)) all0) c101_11.1)
  have c102_12 : 0 ≤ T102.heap.size := Nat.le_trans c101_12 K102q.1
  have c102_13 := c101_13.keep K102q
  have c102_14 := c101_14.keep K102q (ninS ne_b98_b101 nin0)
  have c102_15 := c101_15.keep K102q (ninS ne_b98_b101 nin0)
  have c102_16 := c101_16.keep K102q (ninS ne_b98_b101 nin0)
  have c102_17 := A101.keep K102q
  have Z102 : n0 ≤ T102.heap.size := Nat.le_trans Z101 K102q.1
  have K102 := Keep.trans K101 K102q (allS (Or.inr sz_b101) all0)
  refine own_goW (U' := T102.setTop (mkF m 23 #[.val (.ref a0), .val (.ref a1), .val .null, .unset, .unset] [(.ref b101), (.ref a0)])) (fun _ k => st102.trans k) ?_
  obtain ⟨T103, h103, X103, e103, W103, st103⟩ := putF X102 hx hZ hown (host := "") (Or.inl (hw _ (own_mem 86 rfl))) Via.refl rfl c102_2 c102_0 (Or.inr ⟨(hw _ (own_mem 87 rfl)), rfl, hnm⟩) (hw _ (own_mem 60 rfl)) (ty := (.object "java/util/Map")) (by decide) rfl rfl (g := (mkF m 23 #[.val (.ref a0), .val (.ref a1), .val .null, .unset, .unset] [(.ref b101), (.ref a0)])) rfl rfl (hb hby d11_23)
  have c103_0 := c102_0.wr W103
  have c103_1 := c102_1.other W103 (Or.inr (slot_ne (Or.inr (hw _ (own_mem 69 rfl))) (Or.inr (hw _ (own_mem 87 rfl))) (by decide) (t := (.object "java/util/List")) (t' := (.object "java/util/Map")) (by decide) (by decide)))
  have c103_3 := c102_3.wr W103
  have c103_4 := c102_4.wr W103
  have c103_5 := c102_5.other W103 ne_w_a0
  have c103_6 := c102_6.wr W103
  have c103_7 := c102_7.other W103 (Or.inl ne_a1_a0)
  have c103_8 := c102_8.other W103 (Or.inl ne_a1_a0)
  have c103_9 := c102_9.other W103 ne_arr_a0
  have c103_10 := c102_10.wr W103
  have c103_11 := CHr.trans c102_11 (CHr.wr W103 (Safe.exa hZ.alike c102_0 (by decide) (by decide)) c102_11.1)
  have c103_12 : 0 ≤ h103.size := Nat.le_trans c102_12 (Keep.of_wr W103).1
  have c103_13 := c102_13.wr W103
  have c103_14 := c102_14.other W103 (Or.inl (Ne.symm ne_a0_b98))
  have c103_15 := c102_15.other W103 (Or.inl (Ne.symm ne_a0_b98))
  have c103_16 := c102_16.other W103 (Or.inl (Ne.symm ne_a0_b98))
  have c103_17 := xE102.wr W103
  have w103 : Fld Z h103 a0 "com/example/hashtory/hashtory/Arguments" "options" "Ljava/util/Map;" (.ref b101) := c102_2.same W103
  have Z103 : n0 ≤ h103.size := Nat.le_trans Z102 (Keep.of_wr W103).1
  have K103 := Keep.wr K102 W103 (Or.inl (by simp))
  have N103 := Fr.snoc X103 N102 g_a0
  refine own_goW (U' := T103.setTop (mkF m 26 #[.val (.ref a0), .val (.ref a1), .val .null, .unset, .unset] [])) (fun _ k => st103 _ k) ?_
  refine own_goW (U' := T103.setTop (mkF m 30 #[.val (.ref a0), .val (.ref a1), .val .null, .val (.int (0 : Int32)), .unset] [(.ref a1), (.int (0 : Int32))])) (fun _ k => XS.iconst X103.here hx rfl (hb hby d11_26) (XS.istoreN X103.here hx rfl (hb hby d11_27) rfl (l' := #[.val (.ref a0), .val (.ref a1), .val .null, .val (.int (0 : Int32)), .unset]) rfl (XS.iloadN X103.here hx rfl (hb hby d11_28) rfl (XS.aloadN X103.here hx rfl (hb hby d11_29) rfl rfl k)))) ?_
  obtain ⟨cq104, kq104, q104a, q104b, q104c⟩ := isOf hZ e103 c103_6
  obtain ⟨_, _, ⟨T104, L104, k104, n104⟩, -, X104, ⟨Lc104, hQ104, l104, y104, z104⟩, st104⟩ := X103.interfaceBack hx (xi := (⟨"java/util/List", "size", "()I"⟩ : MethodName)) (y := (⟨"java/util/ArrayList", "size", "()I"⟩ : MethodName)) hown (mvT hZ (hw _ (own_mem 88 rfl))) (mvT hZ (hw _ (own_mem 89 rfl))) (mvT hZ (hw _ (own_mem 90 rfl))) (mvT hZ (hw _ (own_mem 91 rfl))) (mvT hZ (hw _ (own_mem 92 rfl))) (mvT hZ (hw _ (own_mem 93 rfl))) (mvT hZ (hw _ (own_mem 94 rfl))) (mvT hZ (hw _ (own_mem 95 rfl))) (by decide) (backOf (W := 1) (rm14 l Z aw hw [] a1 (1 : Int32) h103 n0 Z103 c103_7) hZ (hw _ (own_mem 96 rfl)) (hw _ (own_mem 37 rfl)) (by decide) (by decide)) q104a q104b q104c (g := (mkF m 30 #[.val (.ref a0), .val (.ref a1), .val .null, .val (.int (0 : Int32)), .unset] [(.ref a1), (.int (0 : Int32))])) rfl (by rw [hml]; rfl) (Steps.refl _) (argsL := []) (rest := [(.int (0 : Int32))]) (lenOf own_pd5 rfl) rfl (by show 2 * 0 + _ ≤ _; exact Nat.le_of_eq rfl) (hb hby d11_30) (fun _ _ => ⟨rfl, e103, (by decide : 2 + 0 ≤ _), (by decide : 11 + 0 ≤ _)⟩)
  dsimp only [Pt.U, Pt.locs, Pt.cells, Pt.slots] at X104 l104 y104 z104 st104 hQ104
  subst l104 y104 z104
  obtain ⟨rfl, N104q, e104⟩ := hQ104
  have N104 := Fr.app N103 N104q
  refine own_goW (U' := T104.setTop (mkF m 35 #[.val (.ref a0), .val (.ref a1), .val .null, .val (.int (0 : Int32)), .unset] [(.int (1 : Int32)), (.int (0 : Int32))])) (fun _ k => st104.trans k) ?_
  refine own_goW (U' := T104.setTop (mkF m 40 #[.val (.ref a0), .val (.ref a1), .val .null, .val (.int (0 : Int32)), .unset] [(.int (0 : Int32)), (.ref a1)])) (fun _ k => XS.icmpNo X104.here hx rfl (hb hby d11_35) rfl (tlt (by decide : ((0 : Int32) < (1 : Int32)))).2.1 (XS.aloadN X104.here hx rfl (hb hby d11_38) rfl rfl (XS.iloadN X104.here hx rfl (hb hby d11_39) rfl k))) ?_
  obtain ⟨cq105, kq105, q105a, q105b, q105c⟩ := isOf hZ e104 c103_6
  obtain ⟨_, _, ⟨T105, L105, k105, n105⟩, -, X105, ⟨Lc105, hQ105, l105, y105, z105⟩, st105⟩ := X104.interfaceBack hx (xi := (⟨"java/util/List", "get", "(I)Ljava/lang/Object;"⟩ : MethodName)) (y := (⟨"java/util/ArrayList", "get", "(I)Ljava/lang/Object;"⟩ : MethodName)) hown (mvT hZ (hw _ (own_mem 137 rfl))) (mvT hZ (hw _ (own_mem 138 rfl))) (mvT hZ (hw _ (own_mem 139 rfl))) (mvT hZ (hw _ (own_mem 140 rfl))) (mvT hZ (hw _ (own_mem 141 rfl))) (mvT hZ (hw _ (own_mem 142 rfl))) (mvT hZ (hw _ (own_mem 143 rfl))) (mvT hZ (hw _ (own_mem 95 rfl))) (by decide) (backOf (W := 0) (rm20 l Z aw hw [] a1 (0 : Int32) (1 : Int32) arr k1 [(.ref el0), .null, .null, .null, .null, .null, .null, .null, .null, .null] el0 h103 n0 Z103 c103_6 c103_7 c103_8 c103_9 (by first | assumption | decide | rfl) (by first | assumption | decide | rfl) (by first | assumption | decide | rfl) (by first | assumption | decide | rfl)) hZ (hw _ (own_mem 144 rfl)) (hw _ (own_mem 37 rfl)) (by decide) (by decide)) q105a q105b q105c (g := (mkF m 40 #[.val (.ref a0), .val (.ref a1), .val .null, .val (.int (0 : Int32)), .unset] [(.int (0 : Int32)), (.ref a1)])) rfl (by rw [hml]; rfl) (Steps.refl _) (argsL := [(.int (0 : Int32))]) (rest := []) (lenOf own_pd9 rfl) rfl (by show 2 * 0 + _ ≤ _; exact Nat.le_of_eq rfl) (hb hby d11_40) (fun _ _ => ⟨rfl, e104, (by decide : 2 + 0 ≤ _), (by decide : 11 + 0 ≤ _)⟩)
  dsimp only [Pt.U, Pt.locs, Pt.cells, Pt.slots] at X105 l105 y105 z105 st105 hQ105
  subst l105 y105 z105
  obtain ⟨rfl, N105q, e105⟩ := hQ105
  have N105 := Fr.app N104 N105q
  refine own_goW (U' := T105.setTop (mkF m 45 #[.val (.ref a0), .val (.ref a1), .val .null, .val (.int (0 : Int32)), .unset] [(.ref el0)])) (fun _ k => st105.trans k) ?_
  obtain ⟨T106, X106, e106, st106⟩ := castY X105 hx hZ hown (hw _ (own_mem 158 rfl)) e105 (Ins.self c103_10) (g := (mkF m 45 #[.val (.ref a0), .val (.ref a1), .val .null, .val (.int (0 : Int32)), .unset] [(.ref el0)])) rfl rfl (hb hby d11_45)
  refine own_goW (U' := T106.setTop (mkF m 48 #[.val (.ref a0), .val (.ref a1), .val .null, .val (.int (0 : Int32)), .unset] [(.ref el0)])) (fun _ k => st106 _ k) ?_
  refine own_goW (U' := T106.setTop (mkF m 55 #[.val (.ref a0), .val (.ref a1), .val .null, .val (.int (1 : Int32)), .val (.ref el0)] [(.ref el0)])) (fun _ k => XS.astore X106.here hx rfl (hb hby d11_48) rfl rfl (l' := #[.val (.ref a0), .val (.ref a1), .val .null, .val (.int (0 : Int32)), .val (.ref el0)]) rfl (XS.iinc X106.here hx rfl (hb hby d11_50) rfl (l' := #[.val (.ref a0), .val (.ref a1), .val .null, .val (.int (1 : Int32)), .val (.ref el0)]) rfl (XS.aload X106.here hx rfl (hb hby d11_53) rfl rfl k))) ?_
  obtain ⟨a107, T107, h107, k107, b107, kc107, X107, e107, E107, hS107, hk107, hZ, hown, Ex107, Fc107, Fv107, Vb107, -, -, CH107, -, -, st107⟩ := ldcCH (s := s) (vm0 := s.vm) X106 hx hZ hown (hw _ (own_mem 159 rfl)) (own_wS hw) e106 hS0 c103_12 (own_EW hw) (by decide) c103_11.1 (z := (2 : Int32)) own_text159 (by decide) rfl (g := (mkF m 55 #[.val (.ref a0), .val (.ref a1), .val .null, .val (.int (1 : Int32)), .val (.ref el0)] [(.ref el0)])) rfl (hb hby d11_55) (n := 8) (by decide) (by decide) (by decide) (by decide)
  have c107_0 := c103_0.ext E107
  have c107_1 := c103_1.ext E107
  have c107_2 := w103.ext E107
  have c107_3 := c103_3.ext E107
  have c107_4 := c103_4.ext E107
  have c107_5 := c103_5.ext E107
  have c107_6 := c103_6.ext E107
  have c107_7 := c103_7.ext E107
  have c107_8 := c103_8.ext E107
  have c107_9 := c103_9.ext E107
  have c107_10 := c103_10.ext E107
  have c107_11 := c103_13.ext E107
  have c107_12 := c103_14.ext E107
  have c107_13 := c103_15.ext E107
  have c107_14 := c103_16.ext E107
  have c107_15 := c103_17.ext E107
  have Z107 : n0 ≤ h107.size := Nat.le_trans Z103 E107.1
  have K107 := Keep.ext K103 E107
  have CR107 := CHr.trans c103_11 CH107
  refine own_goW (U' := T107.setTop (mkF m 57 #[.val (.ref a0), .val (.ref a1), .val .null, .val (.int (1 : Int32)), .val (.ref el0)] [(.ref a107), (.ref el0)])) (fun _ k => st107 _ k) ?_
  have hO108 : own_S Z h107 el0 := own_S.keepA hw S_0 K107 E_t
  obtain ⟨cq109, kq109, q109a, q109b, q109c⟩ := isOf hZ e107 c107_10
  obtain ⟨_, _, ⟨T109, L109, k109, n109⟩, -, X109, ⟨Lc109, hQ109, l109, y109, z109⟩, st109⟩ := X107.virtualBack hx (y := (⟨"java/lang/String", "startsWith", "(Ljava/lang/String;)Z"⟩ : MethodName)) (z := (⟨"java/lang/String", "startsWith", "(Ljava/lang/String;)Z"⟩ : MethodName)) hown (mvT hZ (hw _ (own_mem 160 rfl))) (mvT hZ (hw _ (own_mem 161 rfl))) (notFace_of_selects (args := #[]) (mvT hZ (hw _ (own_mem 163 rfl)))) (mvT hZ (hw _ (own_mem 163 rfl))) (mvT hZ (hw _ (own_mem 162 rfl))) (by decide) (backOf (W := 0) (rm24 l Z aw hw [] el0 a107 cs b107 kc107 h107 n0 Z107 c107_3 c107_10 Ex107 Fc107 Fv107 Vb107 (by first | assumption | decide | rfl) (by first | assumption | decide | rfl)) hZ (hw _ (own_mem 164 rfl)) (hw _ (own_mem 11 rfl)) (by decide) (by decide)) q109a q109c (g := (mkF m 57 #[.val (.ref a0), .val (.ref a1), .val .null, .val (.int (1 : Int32)), .val (.ref el0)] [(.ref a107), (.ref el0)])) rfl (by rw [hml]; rfl) (Steps.refl _) (argsL := [(.ref a107)]) (rest := []) (lenOf own_pd14 rfl) rfl (by show 2 * 0 + _ ≤ _; exact Nat.le_of_eq rfl) (hb hby d11_57) (fun _ _ => ⟨rfl, e107, (by decide : 4 + 0 ≤ _), (by decide : 23 + 0 ≤ _)⟩)
  dsimp only [Pt.U, Pt.locs, Pt.cells, Pt.slots] at X109 l109 y109 z109 st109 hQ109
  subst l109 y109 z109
  obtain ⟨rfl, N109q, e109⟩ := hQ109
  have N109 := Fr.app N105 N109q
  refine own_goW (U' := T109.setTop (mkF m 60 #[.val (.ref a0), .val (.ref a1), .val .null, .val (.int (1 : Int32)), .val (.ref el0)] [(.int (0 : Int32))])) (fun _ k => st109.trans k) ?_
  refine own_goW (U' := T109.setTop (mkF m 64 #[.val (.ref a0), .val (.ref a1), .val .null, .val (.int (1 : Int32)), .val (.ref el0)] [(.ref a0)])) (fun _ k => XS.ifNo X109.here hx rfl (hb hby d11_60) rfl ((if0 _ _).trans (teq (by decide : ((0 : Int32) = (0 : Int32)))).2) (XS.aloadN X109.here hx rfl (hb hby d11_63) rfl rfl k)) ?_
  obtain ⟨T110, X110, e110, st110⟩ := getF X109 hx hZ hown (host := "") (Or.inl (hw _ (own_mem 68 rfl))) Via.refl e109 c107_1 (g := (mkF m 64 #[.val (.ref a0), .val (.ref a1), .val .null, .val (.int (1 : Int32)), .val (.ref el0)] [(.ref a0)])) rfl rfl (hb hby d11_64)
  refine own_goW (U' := T110.setTop (mkF m 67 #[.val (.ref a0), .val (.ref a1), .val .null, .val (.int (1 : Int32)), .val (.ref el0)] [(.ref b98)])) (fun _ k => st110 _ k) ?_
  refine own_goW (U' := T110.setTop (mkF m 69 #[.val (.ref a0), .val (.ref a1), .val .null, .val (.int (1 : Int32)), .val (.ref el0)] [(.ref el0), (.ref b98)])) (fun _ k => XS.aload X110.here hx rfl (hb hby d11_67) rfl rfl k) ?_
  obtain ⟨cq111, kq111, q111a, q111b, q111c⟩ := isOf hZ e110 c107_11
  obtain ⟨_, _, ⟨T111, L111, k111, n111⟩, -, X111, ⟨Lc111, hQ111, l111, y111, z111⟩, st111⟩ := X110.interfaceBack hx (xi := (⟨"java/util/List", "add", "(Ljava/lang/Object;)Z"⟩ : MethodName)) (y := (⟨"java/util/ArrayList", "add", "(Ljava/lang/Object;)Z"⟩ : MethodName)) hown (mvT hZ (hw _ (own_mem 180 rfl))) (mvT hZ (hw _ (own_mem 106 rfl))) (mvT hZ (hw _ (own_mem 107 rfl))) (mvT hZ (hw _ (own_mem 108 rfl))) (mvT hZ (hw _ (own_mem 109 rfl))) (mvT hZ (hw _ (own_mem 110 rfl))) (mvT hZ (hw _ (own_mem 111 rfl))) (mvT hZ (hw _ (own_mem 95 rfl))) (by decide) (backOf (W := 0) (rm16g l Z aw hw [] b98 el0 w k0 (0 : Int32) h107 n0 Z107 c107_4 c107_5 (Ins.of_exa c107_10 (hw _ (own_mem 133 rfl))) c107_11 c107_12 c107_13 c107_14 (by first | assumption | decide | rfl)) hZ (hw _ (own_mem 112 rfl)) (hw _ (own_mem 37 rfl)) (by decide) (by decide)) q111a q111b q111c (g := (mkF m 69 #[.val (.ref a0), .val (.ref a1), .val .null, .val (.int (1 : Int32)), .val (.ref el0)] [(.ref el0), (.ref b98)])) rfl (by rw [hml]; rfl) (Steps.refl _) (argsL := [(.ref el0)]) (rest := []) (lenOf own_pd15 rfl) rfl (by show 2 * 0 + _ ≤ _; exact Nat.le_of_eq rfl) (hb hby d11_69) (fun _ _ => ⟨rfl, e110, (by decide : 4 + 1 ≤ _), (by decide : 23 + 10 ≤ _)⟩)
  dsimp only [Pt.U, Pt.locs, Pt.cells, Pt.slots] at X111 l111 y111 z111 st111 hQ111
  subst l111 y111 z111
  obtain ⟨r111, kr111, rfl, N111q, K111q, sr111, xE111, xS111, xD111, xM111, xV111, xO111⟩ := hQ111
  have N111 := Fr.app N109 N111q
  have ne_a0_r111 : a0 ≠ r111 := Nat.ne_of_lt (Nat.lt_of_lt_of_le c107_0.lt sr111)
  have ne_w_r111 : w ≠ r111 := Nat.ne_of_lt (Nat.lt_of_lt_of_le c107_5.lt sr111)
  have ne_a1_r111 : a1 ≠ r111 := Nat.ne_of_lt (Nat.lt_of_lt_of_le c107_6.lt sr111)
  have ne_arr_r111 : arr ≠ r111 := Nat.ne_of_lt (Nat.lt_of_lt_of_le c107_9.lt sr111)
  have ne_el0_r111 : el0 ≠ r111 := Nat.ne_of_lt (Nat.lt_of_lt_of_le c107_10.lt sr111)
  have ne_b98_r111 : b98 ≠ r111 := Nat.ne_of_lt (Nat.lt_of_lt_of_le c107_11.lt sr111)
  have ne_b101_r111 : b101 ≠ r111 := Nat.ne_of_lt (Nat.lt_of_lt_of_le c107_15.lt sr111)
  have ne_a107_r111 : a107 ≠ r111 := Nat.ne_of_lt (Nat.lt_of_lt_of_le Ex107.lt sr111)
  have g_r111 : n0 ≤ r111 := Nat.le_trans Z107 sr111
  have sz_r111 : h0.size ≤ r111 := Nat.le_trans K107.1 sr111
  have ne_a107_b98 : a107 ≠ b98 := Exa.ne Ex107 c107_11 (by decide)
  have c111_0 := c107_0.keep K111q
  have c111_1 := c107_1.keep K111q (ninS ne_a0_b98 nin0)
  have c111_2 := c107_2.keep K111q (ninS ne_a0_b98 nin0)
  have c111_3 := own_sta_keepX c107_3 K111q (allS c107_11.nostat all0)
  have c111_4 := own_sta_keepX c107_4 K111q (allS c107_11.nostat all0)
  have c111_5 := c107_5.keep K111q (ninS ne_w_b98 nin0)
  have c111_6 := c107_6.keep K111q
  have c111_7 := c107_7.keep K111q (ninS ne_a1_b98 nin0)
  have c111_8 := c107_8.keep K111q (ninS ne_a1_b98 nin0)
  have c111_9 := c107_9.keep K111q (ninS ne_arr_b98 nin0)
  have c111_10 := c107_10.keep K111q
  have c111_11 := c107_11.keep K111q
  have c111_15 := c107_15.keep K111q
  have c111_16 := Ex107.keep K111q
  have c111_17 := CHr.trans CR107 (CHr.keep K111q (allS (Safe.exa hZ.alike c107_11 (by decide) (by decide)) all0) CR107.1)
  have c111_18 : k107 ≤ T111.heap.size := Nat.le_trans hk107 K111q.1
  have c111_19 := own_ins_keep (Ins.of_exa c107_10 (hw _ (own_mem 133 rfl))) K111q
  have nf112 : Fld Z T111.heap b98 "java/util/AbstractList" "modCount" "I" (.int (1 : Int32)) := xM111
  have Z111 : n0 ≤ T111.heap.size := Nat.le_trans Z107 K111q.1
  have K111 := Keep.trans K107 K111q (allS (Or.inr sz_b98) all0)
  refine own_goW (U' := T111.setTop (mkF m 74 #[.val (.ref a0), .val (.ref a1), .val .null, .val (.int (1 : Int32)), .val (.ref el0)] [(.int (1 : Int32))])) (fun _ k => st111.trans k) ?_
  refine own_goW (U' := T111.setTop (mkF m 30 #[.val (.ref a0), .val (.ref a1), .val .null, .val (.int (1 : Int32)), .val (.ref el0)] [(.ref a1), (.int (1 : Int32))])) (fun _ k => XS.pop X111.here hx rfl (hb hby d11_74) rfl rfl (XS.goto X111.here hx rfl (pc0 := 75) (pc' := 28) rfl (hb hby d11_75) (by decide) (by decide) (XS.iloadN X111.here hx rfl (hb hby d11_28) rfl (XS.aloadN X111.here hx rfl (hb hby d11_29) rfl rfl k)))) ?_
  obtain ⟨cq113, kq113, q113a, q113b, q113c⟩ := isOf hZ rfl c111_6
  obtain ⟨_, _, ⟨T113, L113, k113, n113⟩, -, X113, ⟨Lc113, hQ113, l113, y113, z113⟩, st113⟩ := X111.interfaceBack hx (xi := (⟨"java/util/List", "size", "()I"⟩ : MethodName)) (y := (⟨"java/util/ArrayList", "size", "()I"⟩ : MethodName)) hown (mvT hZ (hw _ (own_mem 88 rfl))) (mvT hZ (hw _ (own_mem 89 rfl))) (mvT hZ (hw _ (own_mem 90 rfl))) (mvT hZ (hw _ (own_mem 91 rfl))) (mvT hZ (hw _ (own_mem 92 rfl))) (mvT hZ (hw _ (own_mem 93 rfl))) (mvT hZ (hw _ (own_mem 94 rfl))) (mvT hZ (hw _ (own_mem 95 rfl))) (by decide) (backOf (W := 1) (rm14 l Z aw hw [] a1 (1 : Int32) T111.heap n0 Z111 c111_7) hZ (hw _ (own_mem 96 rfl)) (hw _ (own_mem 37 rfl)) (by decide) (by decide)) q113a q113b q113c (g := (mkF m 30 #[.val (.ref a0), .val (.ref a1), .val .null, .val (.int (1 : Int32)), .val (.ref el0)] [(.ref a1), (.int (1 : Int32))])) rfl (by rw [hml]; rfl) (Steps.refl _) (argsL := []) (rest := [(.int (1 : Int32))]) (lenOf own_pd5 rfl) rfl (by show 2 * 0 + _ ≤ _; exact Nat.le_of_eq rfl) (hb hby d11_30) (fun _ _ => ⟨rfl, rfl, (by decide : 5 + 0 ≤ _), (by decide : 33 + 0 ≤ _)⟩)
  dsimp only [Pt.U, Pt.locs, Pt.cells, Pt.slots] at X113 l113 y113 z113 st113 hQ113
  subst l113 y113 z113
  obtain ⟨rfl, N113q, e113⟩ := hQ113
  have N113 := Fr.app N111 N113q
  refine own_goW (U' := T113.setTop (mkF m 35 #[.val (.ref a0), .val (.ref a1), .val .null, .val (.int (1 : Int32)), .val (.ref el0)] [(.int (1 : Int32)), (.int (1 : Int32))])) (fun _ k => st113.trans k) ?_
  refine own_goW (U' := T113.setTop (mkF m 174 #[.val (.ref a0), .val (.ref a1), .val .null, .val (.int (1 : Int32)), .val (.ref el0)] [])) (fun _ k => XS.icmpYes X113.here hx rfl (pc0 := 35) (pc' := 174) rfl (hb hby d11_35) rfl (flt (by decide : ¬ ((1 : Int32) < (1 : Int32)))).2.1 (by decide) (by decide) k) ?_
  refine own_retW (vm₁ := T107.vm) X113 hS107 (by rw [show T113.heap = T111.heap from e113]; exact c111_18) (by rw [hh, show T113.heap = T111.heap from e113]; exact CHr.trans c111_17 (CHv.at (s := s) (vm0 := T107.vm) X113 hZ (own_EW hw) c111_17.1)) (v := none) hlk (fun _ => rfl) (by decide) (by decide) (fun fs hr => X113.returnOut hx Bd.returns (hb hby d11_174) hr) ?_
  show (Q11_1 Z a0 a1 cs w k0 arr k1 el0 h0 n0) _ T113.heap _
  rw [e113]
  exact ⟨rfl, N113, K111, c111_0, ⟨_, sz_b98, c111_1, xE111, xS111, ⟨_, _, xD111, xV111⟩⟩⟩
theorem own_ef11_2 (m : MethodId) (x0 : Addr) (x1 : Addr) : entryFrame m #[(.ref x0), (.ref x1), .null] 5 = mkF m 0 #[.val (.ref x0), .val (.ref x1), .val .null, .unset, .unset] [] := by first | (simp [entryFrame, mkF, argsToLocals, Value.category]; done) | rfl
def Q11_2 (Z : State) (a0 : Addr) (a1 : Addr) (cs : Int32) (w : Addr) (k0 : ClassId) (arr : Addr) (k1 : ClassId) (el0 : Addr) (el1 : Addr) (h0 : Heap) (n0 : Nat) (v : Option Value) (h : Heap) (L : List Loc) : Prop := v = none ∧ Fr n0 L ∧ Keep h0 h [a0] ∧ Exa Z h a0 "com/example/hashtory/hashtory/Arguments" ∧ ∃ pl : Addr, h0.size ≤ pl ∧ Fld Z h a0 "com/example/hashtory/hashtory/Arguments" "positionals" "Ljava/util/List;" (.ref pl) ∧ Exa Z h pl "java/util/ArrayList" ∧ Fld Z h pl "java/util/ArrayList" "size" "I" (.int (2 : Int32)) ∧ ∃ (pa : Addr) (k : ClassId), Fld Z h pl "java/util/ArrayList" "elementData" "[Ljava/lang/Object;" (.ref pa) ∧ Arv Z h pa k (.object "java/lang/Object") (10 : Int32) [(.ref el0), (.ref el1), .null, .null, .null, .null, .null, .null, .null, .null] .null
set_option maxRecDepth 65536 in
set_option maxHeartbeats 40000000 in
theorem rm11_2 (l : Launch) (Z : State) (aw : Array Value) (hw : ∀ d ∈ tables_1, d.before aw Z = true) (ws : List Jvm.Cond) (a0 : Addr) (a1 : Addr) (cs : Int32) (w : Addr) (k0 : ClassId) (arr : Addr) (k1 : ClassId) (el0 : Addr) (el1 : Addr) (h0 : Heap) (n0 : Nat) (Z0 : n0 ≤ h0.size) (E_t : Exa Z h0 a0 "com/example/hashtory/hashtory/Arguments") (F_p : Fld Z h0 a0 "com/example/hashtory/hashtory/Arguments" "positionals" "Ljava/util/List;" .null) (F_o : Fld Z h0 a0 "com/example/hashtory/hashtory/Arguments" "options" "Ljava/util/Map;" .null) (S_cs : Sta Z h0 "java/lang/String" "COMPACT_STRINGS" "Z" (.int cs)) (S_df : Sta Z h0 "java/util/ArrayList" "DEFAULTCAPACITY_EMPTY_ELEMENTDATA" "[Ljava/lang/Object;" (.ref w)) (V_w : Arv Z h0 w k0 (.object "java/lang/Object") (0 : Int32) [] .null) (E_l : Exa Z h0 a1 "java/util/ArrayList") (F_l : Fld Z h0 a1 "java/util/ArrayList" "size" "I" (.int (2 : Int32))) (F_x : Fld Z h0 a1 "java/util/ArrayList" "elementData" "[Ljava/lang/Object;" (.ref arr)) (V_x : Arv Z h0 arr k1 (.object "java/lang/Object") (10 : Int32) [(.ref el0), (.ref el1), .null, .null, .null, .null, .null, .null, .null, .null] .null) (E_0 : Exa Z h0 el0 "java/lang/String") (E_1 : Exa Z h0 el1 "java/lang/String") (g_a0 : n0 ≤ a0) (hcs : ¬ (cs = (0 : Int32))) (S_0 : own_S Z h0 el0) (S_1 : own_S Z h0 el1) :
    MetFree l (⟨"com/example/hashtory/hashtory/Arguments", "<init>", "(Ljava/util/List;Ljava/util/Set;)V"⟩ : MethodName) (head1 (Jvm.Cond.code (⟨"com/example/hashtory/hashtory/Arguments", "<init>", "(Ljava/util/List;Ljava/util/Set;)V"⟩ : MethodName) prog_1_method_1_code 5 none :: ws) ({ frames := 5, cells := 7, slots := 45, locals := 69 } : Room)) (fun a U => a = #[(.ref a0), (.ref a1), .null] ∧ Z.Warmed39 U.vm ∧ U.heap = h0 ∧ CHv Z own_EL U.vm h0) (fun _ _ _ _ _ => True) (fun _ U o U' => ∃ v L, o = .returned v ∧ (Q11_2 Z a0 a1 cs w k0 arr k1 el0 el1 h0 n0) v U'.heap L ∧ CHr Z own_EL U.vm U.heap U'.vm U'.heap ∧ ReturnedEndW U o U' L ({ frames := 5, cells := 7, slots := 45, locals := 69 } : Room).cells ({ frames := 5, cells := 7, slots := 45, locals := 69 } : Room).slots) := by
  refine MetFree.of_bodySF (plainFor_of_name own_pn10) hisR ?_
  intro p e s m args below meth c s₁ Bd hml0 hP hK
  obtain ⟨rfl, hZ, hh, hCH⟩ := hP
  have hx := Bd.exec
  have hby := Bd.bytes
  have hml : c.maxLocals = 5 := hml0
  have hown : s.vm.findClass "com/example/hashtory/hashtory/Arguments" = some m.cls := findClass_of_methodNamed Bd.named
  have hnm := (name_of_methodNamed Bd.named Bd.method).1
  have hlk : meth.locks = false := BodyLoose.notSynchronized (by assumption)
  have X0 : Stand p l e ({ frames := 5, cells := 7, slots := 45, locals := 69 } : Room) s m #[(.ref a0), (.ref a1), .null] below meth c s₁ [] 0 0 := Stand.of_body Bd
  have e0 : s₁.heap = h0 := by rw [← hh, Bd.state]; rfl
  have N0 := Fr.nil n0
  have hS0 : s.Since s.vm 0 := (State.WarmedH.refl s).since 0
  show own_DoneW p e below s Z own_EL (Q11_2 Z a0 a1 cs w k0 arr k1 el0 el1 h0 n0) ({ frames := 5, cells := 7, slots := 45, locals := 69 } : Room).cells ({ frames := 5, cells := 7, slots := 45, locals := 69 } : Room).slots (s₁.setTop (entryFrame m #[(.ref a0), (.ref a1), .null] 5))
  refine own_goW (U' := s₁.setTop (mkF m 0 #[.val (.ref a0), .val (.ref a1), .val .null, .unset, .unset] [])) (fun _ k => castTop (own_ef11_2 m a0 a1) k) ?_
  have hCR0 := CHr.refl hCH
  have hSz0 : 0 ≤ h0.size := Nat.zero_le _
  refine own_goW (U' := s₁.setTop (mkF m 1 #[.val (.ref a0), .val (.ref a1), .val .null, .unset, .unset] [(.ref a0)])) (fun _ k => XS.aloadN X0.here hx rfl (hb hby d11_0) rfl rfl k) ?_
  obtain ⟨T114, X114, e114, st114⟩ := initO X0 hx hZ hown (hw _ (own_mem 65 rfl)) (hw _ (own_mem 29 rfl)) (hw _ (own_mem 30 rfl)) e0 (g := (mkF m 1 #[.val (.ref a0), .val (.ref a1), .val .null, .unset, .unset] [(.ref a0)])) rfl (by rw [hml]; rfl) rfl (hb hby d11_1) (by decide) (W := 0) (by show 2 * 0 + _ ≤ _; exact Nat.le_of_eq rfl) (by decide)
  refine own_goW (U' := T114.setTop (mkF m 4 #[.val (.ref a0), .val (.ref a1), .val .null, .unset, .unset] [])) (fun _ k => st114 _ k) ?_
  refine own_goW (U' := T114.setTop (mkF m 5 #[.val (.ref a0), .val (.ref a1), .val .null, .unset, .unset] [(.ref a0)])) (fun _ k => XS.aloadN X114.here hx rfl (hb hby d11_4) rfl rfl k) ?_
  obtain ⟨T115, h115, X115, e115, E115, A115, D115, -, st115⟩ := newO X114 hx hZ hown (hw _ (own_mem 66 rfl)) (hw _ (own_mem 36 rfl)) (hw _ (own_mem 37 rfl)) e114 (g := (mkF m 5 #[.val (.ref a0), .val (.ref a1), .val .null, .unset, .unset] [(.ref a0)])) rfl (hb hby d11_5) (by decide) (by decide)
  obtain ⟨b115, g115⟩ : ∃ z, z = h0.size := ⟨_, rfl⟩
  have g_b115 : n0 ≤ b115 := Nat.le_trans Z0 (Nat.le_of_eq g115.symm)
  have sz_b115 : h0.size ≤ b115 := Nat.le_trans (Keep.refl h0 [a0]).1 (Nat.le_of_eq g115.symm)
  have ne_a0_b115 : a0 ≠ b115 := Nat.ne_of_lt (Nat.lt_of_lt_of_le E_t.lt (Nat.le_of_eq g115.symm))
  have ne_w_b115 : w ≠ b115 := Nat.ne_of_lt (Nat.lt_of_lt_of_le V_w.lt (Nat.le_of_eq g115.symm))
  have ne_a1_b115 : a1 ≠ b115 := Nat.ne_of_lt (Nat.lt_of_lt_of_le E_l.lt (Nat.le_of_eq g115.symm))
  have ne_arr_b115 : arr ≠ b115 := Nat.ne_of_lt (Nat.lt_of_lt_of_le V_x.lt (Nat.le_of_eq g115.symm))
  have ne_el0_b115 : el0 ≠ b115 := Nat.ne_of_lt (Nat.lt_of_lt_of_le E_0.lt (Nat.le_of_eq g115.symm))
  have ne_el1_b115 : el1 ≠ b115 := Nat.ne_of_lt (Nat.lt_of_lt_of_le E_1.lt (Nat.le_of_eq g115.symm))
  rw [← g115] at A115 D115 st115
  have c115_0 := E_t.ext E115
  have c115_1 := F_p.ext E115
  have c115_2 := F_o.ext E115
  have c115_3 := S_cs.ext E115
  have c115_4 := S_df.ext E115
  have c115_5 := V_w.ext E115
  have c115_6 := E_l.ext E115
  have c115_7 := F_l.ext E115
  have c115_8 := F_x.ext E115
  have c115_9 := V_x.ext E115
  have c115_10 := E_0.ext E115
  have c115_11 := E_1.ext E115
  have c115_12 := CHr.trans hCR0 (CHr.ext E115 hCR0.1)
  have c115_13 : 0 ≤ h115.size := Nat.le_trans hSz0 E115.1
  have Z115 : n0 ≤ h115.size := Nat.le_trans Z0 E115.1
  have K115 := Keep.ext (Keep.refl h0 [a0]) E115
  have F115_55 : Fld Z h115 b115 "java/util/AbstractList" "modCount" "I" (.int (0 : Int32)) := D115 (Or.inl (hw _ (own_mem 55 rfl))) (ty := .int) (by decide)
  have F115_58 : Fld Z h115 b115 "java/util/ArrayList" "elementData" "[Ljava/lang/Object;" .null := D115 (Or.inl (hw _ (own_mem 58 rfl))) (ty := (.array (.object "java/lang/Object"))) (by decide)
  have F115_98 : Fld Z h115 b115 "java/util/ArrayList" "size" "I" (.int (0 : Int32)) := D115 (Or.inl (hw _ (own_mem 98 rfl))) (ty := .int) (by decide)
  refine own_goW (U' := T115.setTop (mkF m 8 #[.val (.ref a0), .val (.ref a1), .val .null, .unset, .unset] [(.ref b115), (.ref a0)])) (fun _ k => st115 _ k) ?_
  refine own_goW (U' := T115.setTop (mkF m 9 #[.val (.ref a0), .val (.ref a1), .val .null, .unset, .unset] [(.ref b115), (.ref b115), (.ref a0)])) (fun _ k => XS.dup X115.here hx rfl (hb hby d11_8) rfl rfl k) ?_
  obtain ⟨_, _, ⟨T116, L116, k116, n116⟩, -, X116, ⟨Lc116, hQ116, l116, y116, z116⟩, st116⟩ := X115.specialBack hx (y := (⟨"java/util/ArrayList", "<init>", "()V"⟩ : MethodName)) rfl hown (mvT hZ (hw _ (own_mem 67 rfl))) (mvT hZ (hw _ (own_mem 39 rfl))) (mvT hZ (hw _ (own_mem 40 rfl))) (by decide) (backOf (W := 2) (rm8 l Z aw hw [] b115 w h115 n0 Z115 c115_4 A115 F115_98 F115_58 F115_55 (by first | assumption | decide | rfl)) hZ (hw _ (own_mem 40 rfl)) (hw _ (own_mem 37 rfl)) (by decide) (by decide)) (g := (mkF m 9 #[.val (.ref a0), .val (.ref a1), .val .null, .unset, .unset] [(.ref b115), (.ref b115), (.ref a0)])) rfl (by rw [hml]; rfl) (Steps.refl _) (a := b115) (argsL := []) (rest := [(.ref b115), (.ref a0)]) (lenOf own_pd10 rfl) rfl (by show 2 * 0 + _ ≤ _; exact Nat.le_of_eq rfl) (hb hby d11_9) (fun _ _ => ⟨rfl, e115, (by decide : 1 + 0 ≤ _), (by decide : 3 + 0 ≤ _)⟩)
  dsimp only [Pt.U, Pt.locs, Pt.cells, Pt.slots] at X116 l116 y116 z116 st116 hQ116
  subst l116 y116 z116
  obtain ⟨rfl, N116q, K116q, xE116, xS116, xD116, xM116⟩ := hQ116
  have N116 := Fr.app N0 N116q
  have c116_0 := c115_0.keep K116q
  have c116_1 := c115_1.keep K116q (ninS ne_a0_b115 nin0)
  have c116_2 := c115_2.keep K116q (ninS ne_a0_b115 nin0)
  have c116_3 := own_sta_keepX c115_3 K116q (allS A115.nostat all0)
  have c116_4 := own_sta_keepX c115_4 K116q (allS A115.nostat all0)
  have c116_5 := c115_5.keep K116q (ninS ne_w_b115 nin0)
  have c116_6 := c115_6.keep K116q
  have c116_7 := c115_7.keep K116q (ninS ne_a1_b115 nin0)
  have c116_8 := c115_8.keep K116q (ninS ne_a1_b115 nin0)
  have c116_9 := c115_9.keep K116q (ninS ne_arr_b115 nin0)
  have c116_10 := c115_10.keep K116q
  have c116_11 := c115_11.keep K116q
  have c116_12 := CHr.trans c115_12 (CHr.keep K116q (allS (Safe.exa hZ.alike A115 (by decide) (by decide)) all0) c115_12.1)
  have c116_13 : 0 ≤ T116.heap.size := Nat.le_trans c115_13 K116q.1
  have c116_14 := A115.keep K116q
  have Z116 : n0 ≤ T116.heap.size := Nat.le_trans Z115 K116q.1
  have K116 := Keep.trans K115 K116q (allS (Or.inr sz_b115) all0)
  refine own_goW (U' := T116.setTop (mkF m 12 #[.val (.ref a0), .val (.ref a1), .val .null, .unset, .unset] [(.ref b115), (.ref a0)])) (fun _ k => st116.trans k) ?_
  obtain ⟨T117, h117, X117, e117, W117, st117⟩ := putF X116 hx hZ hown (host := "") (Or.inl (hw _ (own_mem 68 rfl))) Via.refl rfl c116_1 c116_0 (Or.inr ⟨(hw _ (own_mem 69 rfl)), rfl, hnm⟩) (hw _ (own_mem 60 rfl)) (ty := (.object "java/util/List")) (by decide) rfl rfl (g := (mkF m 12 #[.val (.ref a0), .val (.ref a1), .val .null, .unset, .unset] [(.ref b115), (.ref a0)])) rfl rfl (hb hby d11_12)
  have ne_w_a0 : w ≠ a0 := (Exa.neArv c116_0 c116_5 (hw _ (own_mem 60 rfl))).symm
  have ne_a1_a0 : a1 ≠ a0 := Exa.ne c116_6 c116_0 (by decide)
  have ne_arr_a0 : arr ≠ a0 := (Exa.neArv c116_0 c116_9 (hw _ (own_mem 60 rfl))).symm
  have ne_el0_a0 : el0 ≠ a0 := Exa.ne c116_10 c116_0 (by decide)
  have ne_el1_a0 : el1 ≠ a0 := Exa.ne c116_11 c116_0 (by decide)
  have c117_0 := c116_0.wr W117
  have c117_2 := c116_2.other W117 (Or.inr (slot_ne (Or.inr (hw _ (own_mem 87 rfl))) (Or.inr (hw _ (own_mem 69 rfl))) (by decide) (t := (.object "java/util/Map")) (t' := (.object "java/util/List")) (by decide) (by decide)))
  have c117_3 := c116_3.wr W117
  have c117_4 := c116_4.wr W117
  have c117_5 := c116_5.other W117 ne_w_a0
  have c117_6 := c116_6.wr W117
  have c117_7 := c116_7.other W117 (Or.inl ne_a1_a0)
  have c117_8 := c116_8.other W117 (Or.inl ne_a1_a0)
  have c117_9 := c116_9.other W117 ne_arr_a0
  have c117_10 := c116_10.wr W117
  have c117_11 := c116_11.wr W117
  have c117_12 := CHr.trans c116_12 (CHr.wr W117 (Safe.exa hZ.alike c116_0 (by decide) (by decide)) c116_12.1)
  have c117_13 : 0 ≤ h117.size := Nat.le_trans c116_13 (Keep.of_wr W117).1
  have c117_14 := xE116.wr W117
  have c117_15 := xS116.other W117 (Or.inl (Ne.symm ne_a0_b115))
  have c117_16 := xD116.other W117 (Or.inl (Ne.symm ne_a0_b115))
  have c117_17 := xM116.other W117 (Or.inl (Ne.symm ne_a0_b115))
  have w117 : Fld Z h117 a0 "com/example/hashtory/hashtory/Arguments" "positionals" "Ljava/util/List;" (.ref b115) := c116_1.same W117
  have Z117 : n0 ≤ h117.size := Nat.le_trans Z116 (Keep.of_wr W117).1
  have K117 := Keep.wr K116 W117 (Or.inl (by simp))
  have N117 := Fr.snoc X117 N116 g_a0
  refine own_goW (U' := T117.setTop (mkF m 15 #[.val (.ref a0), .val (.ref a1), .val .null, .unset, .unset] [])) (fun _ k => st117 _ k) ?_
  refine own_goW (U' := T117.setTop (mkF m 16 #[.val (.ref a0), .val (.ref a1), .val .null, .unset, .unset] [(.ref a0)])) (fun _ k => XS.aloadN X117.here hx rfl (hb hby d11_15) rfl rfl k) ?_
  obtain ⟨T118, h118, X118, e118, E118, A118, D118, -, st118⟩ := newO X117 hx hZ hown (hw _ (own_mem 70 rfl)) (hw _ (own_mem 71 rfl)) (hw _ (own_mem 72 rfl)) e117 (g := (mkF m 16 #[.val (.ref a0), .val (.ref a1), .val .null, .unset, .unset] [(.ref a0)])) rfl (hb hby d11_16) (by decide) (by decide)
  obtain ⟨b118, g118⟩ : ∃ z, z = h117.size := ⟨_, rfl⟩
  have g_b118 : n0 ≤ b118 := Nat.le_trans Z117 (Nat.le_of_eq g118.symm)
  have sz_b118 : h0.size ≤ b118 := Nat.le_trans K117.1 (Nat.le_of_eq g118.symm)
  have ne_a0_b118 : a0 ≠ b118 := Nat.ne_of_lt (Nat.lt_of_lt_of_le c117_0.lt (Nat.le_of_eq g118.symm))
  have ne_w_b118 : w ≠ b118 := Nat.ne_of_lt (Nat.lt_of_lt_of_le c117_5.lt (Nat.le_of_eq g118.symm))
  have ne_a1_b118 : a1 ≠ b118 := Nat.ne_of_lt (Nat.lt_of_lt_of_le c117_6.lt (Nat.le_of_eq g118.symm))
  have ne_arr_b118 : arr ≠ b118 := Nat.ne_of_lt (Nat.lt_of_lt_of_le c117_9.lt (Nat.le_of_eq g118.symm))
  have ne_el0_b118 : el0 ≠ b118 := Nat.ne_of_lt (Nat.lt_of_lt_of_le c117_10.lt (Nat.le_of_eq g118.symm))
  have ne_el1_b118 : el1 ≠ b118 := Nat.ne_of_lt (Nat.lt_of_lt_of_le c117_11.lt (Nat.le_of_eq g118.symm))
  have ne_b115_b118 : b115 ≠ b118 := Nat.ne_of_lt (Nat.lt_of_lt_of_le c117_14.lt (Nat.le_of_eq g118.symm))
  rw [← g118] at A118 D118 st118
  have c118_0 := c117_0.ext E118
  have c118_1 := w117.ext E118
  have c118_2 := c117_2.ext E118
  have c118_3 := c117_3.ext E118
  have c118_4 := c117_4.ext E118
  have c118_5 := c117_5.ext E118
  have c118_6 := c117_6.ext E118
  have c118_7 := c117_7.ext E118
  have c118_8 := c117_8.ext E118
  have c118_9 := c117_9.ext E118
  have c118_10 := c117_10.ext E118
  have c118_11 := c117_11.ext E118
  have c118_12 := CHr.trans c117_12 (CHr.ext E118 c117_12.1)
  have c118_13 : 0 ≤ h118.size := Nat.le_trans c117_13 E118.1
  have c118_14 := c117_14.ext E118
  have c118_15 := c117_15.ext E118
  have c118_16 := c117_16.ext E118
  have c118_17 := c117_17.ext E118
  have Z118 : n0 ≤ h118.size := Nat.le_trans Z117 E118.1
  have K118 := Keep.ext K117 E118
  have F118_85 : Fld Z h118 b118 "java/util/HashMap" "loadFactor" "F" (.float (0 : UInt32)) := D118 (Or.inr (hw _ (own_mem 85 rfl))) (ty := .float) (by decide)
  refine own_goW (U' := T118.setTop (mkF m 19 #[.val (.ref a0), .val (.ref a1), .val .null, .unset, .unset] [(.ref b118), (.ref a0)])) (fun _ k => st118 _ k) ?_
  refine own_goW (U' := T118.setTop (mkF m 20 #[.val (.ref a0), .val (.ref a1), .val .null, .unset, .unset] [(.ref b118), (.ref b118), (.ref a0)])) (fun _ k => XS.dup X118.here hx rfl (hb hby d11_19) rfl rfl k) ?_
  obtain ⟨_, _, ⟨T119, L119, k119, n119⟩, -, X119, ⟨Lc119, hQ119, l119, y119, z119⟩, st119⟩ := X118.specialBack hx (y := (⟨"java/util/HashMap", "<init>", "()V"⟩ : MethodName)) rfl hown (mvT hZ (hw _ (own_mem 73 rfl))) (mvT hZ (hw _ (own_mem 74 rfl))) (mvT hZ (hw _ (own_mem 75 rfl))) (by decide) (backOf (W := 2) (rm12 l Z aw hw [] b118 h118 n0 Z118 A118 F118_85 (by first | assumption | decide | rfl)) hZ (hw _ (own_mem 75 rfl)) (hw _ (own_mem 72 rfl)) (by decide) (by decide)) (g := (mkF m 20 #[.val (.ref a0), .val (.ref a1), .val .null, .unset, .unset] [(.ref b118), (.ref b118), (.ref a0)])) rfl (by rw [hml]; rfl) (Steps.refl _) (a := b118) (argsL := []) (rest := [(.ref b118), (.ref a0)]) (lenOf own_pd10 rfl) rfl (by show 2 * 0 + _ ≤ _; exact Nat.le_of_eq rfl) (hb hby d11_20) (fun _ _ => ⟨rfl, e118, (by decide : 2 + 0 ≤ _), (by decide : 11 + 0 ≤ _)⟩)
  dsimp only [Pt.U, Pt.locs, Pt.cells, Pt.slots] at X119 l119 y119 z119 st119 hQ119
  subst l119 y119 z119
  obtain ⟨rfl, N119q, K119q, xE119⟩ := hQ119
  have N119 := Fr.app N117 N119q
  have c119_0 := c118_0.keep K119q
  have c119_1 := c118_1.keep K119q (ninS ne_a0_b118 nin0)
  have c119_2 := c118_2.keep K119q (ninS ne_a0_b118 nin0)
  have c119_3 := own_sta_keepX c118_3 K119q (allS A118.nostat all0)
  have c119_4 := own_sta_keepX c118_4 K119q (allS A118.nostat all0)
  have c119_5 := c118_5.keep K119q (ninS ne_w_b118 nin0)
  have c119_6 := c118_6.keep K119q
  have c119_7 := c118_7.keep K119q (ninS ne_a1_b118 nin0)
  have c119_8 := c118_8.keep K119q (ninS ne_a1_b118 nin0)
  have c119_9 := c118_9.keep K119q (ninS ne_arr_b118 nin0)
  have c119_10 := c118_10.keep K119q
  have c119_11 := c118_11.keep K119q
  have c119_12 := CHr.trans c118_12 (CHr.keep K119q (allS (Safe.exa hZ.alike A118 (by decide) (by decide)) all0) c118_12.1)
  have c119_13 : 0 ≤ T119.heap.size := Nat.le_trans c118_13 K119q.1
  have c119_14 := c118_14.keep K119q
  have c119_15 := c118_15.keep K119q (ninS ne_b115_b118 nin0)
  have c119_16 := c118_16.keep K119q (ninS ne_b115_b118 nin0)
  have c119_17 := c118_17.keep K119q (ninS ne_b115_b118 nin0)
  have c119_18 := A118.keep K119q
  have Z119 : n0 ≤ T119.heap.size := Nat.le_trans Z118 K119q.1
  have K119 := Keep.trans K118 K119q (allS (Or.inr sz_b118) all0)
  refine own_goW (U' := T119.setTop (mkF m 23 #[.val (.ref a0), .val (.ref a1), .val .null, .unset, .unset] [(.ref b118), (.ref a0)])) (fun _ k => st119.trans k) ?_
  obtain ⟨T120, h120, X120, e120, W120, st120⟩ := putF X119 hx hZ hown (host := "") (Or.inl (hw _ (own_mem 86 rfl))) Via.refl rfl c119_2 c119_0 (Or.inr ⟨(hw _ (own_mem 87 rfl)), rfl, hnm⟩) (hw _ (own_mem 60 rfl)) (ty := (.object "java/util/Map")) (by decide) rfl rfl (g := (mkF m 23 #[.val (.ref a0), .val (.ref a1), .val .null, .unset, .unset] [(.ref b118), (.ref a0)])) rfl rfl (hb hby d11_23)
  have c120_0 := c119_0.wr W120
  have c120_1 := c119_1.other W120 (Or.inr (slot_ne (Or.inr (hw _ (own_mem 69 rfl))) (Or.inr (hw _ (own_mem 87 rfl))) (by decide) (t := (.object "java/util/List")) (t' := (.object "java/util/Map")) (by decide) (by decide)))
  have c120_3 := c119_3.wr W120
  have c120_4 := c119_4.wr W120
  have c120_5 := c119_5.other W120 ne_w_a0
  have c120_6 := c119_6.wr W120
  have c120_7 := c119_7.other W120 (Or.inl ne_a1_a0)
  have c120_8 := c119_8.other W120 (Or.inl ne_a1_a0)
  have c120_9 := c119_9.other W120 ne_arr_a0
  have c120_10 := c119_10.wr W120
  have c120_11 := c119_11.wr W120
  have c120_12 := CHr.trans c119_12 (CHr.wr W120 (Safe.exa hZ.alike c119_0 (by decide) (by decide)) c119_12.1)
  have c120_13 : 0 ≤ h120.size := Nat.le_trans c119_13 (Keep.of_wr W120).1
  have c120_14 := c119_14.wr W120
  have c120_15 := c119_15.other W120 (Or.inl (Ne.symm ne_a0_b115))
  have c120_16 := c119_16.other W120 (Or.inl (Ne.symm ne_a0_b115))
  have c120_17 := c119_17.other W120 (Or.inl (Ne.symm ne_a0_b115))
  have c120_18 := xE119.wr W120
  have w120 : Fld Z h120 a0 "com/example/hashtory/hashtory/Arguments" "options" "Ljava/util/Map;" (.ref b118) := c119_2.same W120
  have Z120 : n0 ≤ h120.size := Nat.le_trans Z119 (Keep.of_wr W120).1
  have K120 := Keep.wr K119 W120 (Or.inl (by simp))
  have N120 := Fr.snoc X120 N119 g_a0
  refine own_goW (U' := T120.setTop (mkF m 26 #[.val (.ref a0), .val (.ref a1), .val .null, .unset, .unset] [])) (fun _ k => st120 _ k) ?_
  refine own_goW (U' := T120.setTop (mkF m 30 #[.val (.ref a0), .val (.ref a1), .val .null, .val (.int (0 : Int32)), .unset] [(.ref a1), (.int (0 : Int32))])) (fun _ k => XS.iconst X120.here hx rfl (hb hby d11_26) (XS.istoreN X120.here hx rfl (hb hby d11_27) rfl (l' := #[.val (.ref a0), .val (.ref a1), .val .null, .val (.int (0 : Int32)), .unset]) rfl (XS.iloadN X120.here hx rfl (hb hby d11_28) rfl (XS.aloadN X120.here hx rfl (hb hby d11_29) rfl rfl k)))) ?_
  obtain ⟨cq121, kq121, q121a, q121b, q121c⟩ := isOf hZ e120 c120_6
  obtain ⟨_, _, ⟨T121, L121, k121, n121⟩, -, X121, ⟨Lc121, hQ121, l121, y121, z121⟩, st121⟩ := X120.interfaceBack hx (xi := (⟨"java/util/List", "size", "()I"⟩ : MethodName)) (y := (⟨"java/util/ArrayList", "size", "()I"⟩ : MethodName)) hown (mvT hZ (hw _ (own_mem 88 rfl))) (mvT hZ (hw _ (own_mem 89 rfl))) (mvT hZ (hw _ (own_mem 90 rfl))) (mvT hZ (hw _ (own_mem 91 rfl))) (mvT hZ (hw _ (own_mem 92 rfl))) (mvT hZ (hw _ (own_mem 93 rfl))) (mvT hZ (hw _ (own_mem 94 rfl))) (mvT hZ (hw _ (own_mem 95 rfl))) (by decide) (backOf (W := 1) (rm14 l Z aw hw [] a1 (2 : Int32) h120 n0 Z120 c120_7) hZ (hw _ (own_mem 96 rfl)) (hw _ (own_mem 37 rfl)) (by decide) (by decide)) q121a q121b q121c (g := (mkF m 30 #[.val (.ref a0), .val (.ref a1), .val .null, .val (.int (0 : Int32)), .unset] [(.ref a1), (.int (0 : Int32))])) rfl (by rw [hml]; rfl) (Steps.refl _) (argsL := []) (rest := [(.int (0 : Int32))]) (lenOf own_pd5 rfl) rfl (by show 2 * 0 + _ ≤ _; exact Nat.le_of_eq rfl) (hb hby d11_30) (fun _ _ => ⟨rfl, e120, (by decide : 2 + 0 ≤ _), (by decide : 11 + 0 ≤ _)⟩)
  dsimp only [Pt.U, Pt.locs, Pt.cells, Pt.slots] at X121 l121 y121 z121 st121 hQ121
  subst l121 y121 z121
  obtain ⟨rfl, N121q, e121⟩ := hQ121
  have N121 := Fr.app N120 N121q
  refine own_goW (U' := T121.setTop (mkF m 35 #[.val (.ref a0), .val (.ref a1), .val .null, .val (.int (0 : Int32)), .unset] [(.int (2 : Int32)), (.int (0 : Int32))])) (fun _ k => st121.trans k) ?_
  refine own_goW (U' := T121.setTop (mkF m 40 #[.val (.ref a0), .val (.ref a1), .val .null, .val (.int (0 : Int32)), .unset] [(.int (0 : Int32)), (.ref a1)])) (fun _ k => XS.icmpNo X121.here hx rfl (hb hby d11_35) rfl (tlt (by decide : ((0 : Int32) < (2 : Int32)))).2.1 (XS.aloadN X121.here hx rfl (hb hby d11_38) rfl rfl (XS.iloadN X121.here hx rfl (hb hby d11_39) rfl k))) ?_
  obtain ⟨cq122, kq122, q122a, q122b, q122c⟩ := isOf hZ e121 c120_6
  obtain ⟨_, _, ⟨T122, L122, k122, n122⟩, -, X122, ⟨Lc122, hQ122, l122, y122, z122⟩, st122⟩ := X121.interfaceBack hx (xi := (⟨"java/util/List", "get", "(I)Ljava/lang/Object;"⟩ : MethodName)) (y := (⟨"java/util/ArrayList", "get", "(I)Ljava/lang/Object;"⟩ : MethodName)) hown (mvT hZ (hw _ (own_mem 137 rfl))) (mvT hZ (hw _ (own_mem 138 rfl))) (mvT hZ (hw _ (own_mem 139 rfl))) (mvT hZ (hw _ (own_mem 140 rfl))) (mvT hZ (hw _ (own_mem 141 rfl))) (mvT hZ (hw _ (own_mem 142 rfl))) (mvT hZ (hw _ (own_mem 143 rfl))) (mvT hZ (hw _ (own_mem 95 rfl))) (by decide) (backOf (W := 0) (rm20 l Z aw hw [] a1 (0 : Int32) (2 : Int32) arr k1 [(.ref el0), (.ref el1), .null, .null, .null, .null, .null, .null, .null, .null] el0 h120 n0 Z120 c120_6 c120_7 c120_8 c120_9 (by first | assumption | decide | rfl) (by first | assumption | decide | rfl) (by first | assumption | decide | rfl) (by first | assumption | decide | rfl)) hZ (hw _ (own_mem 144 rfl)) (hw _ (own_mem 37 rfl)) (by decide) (by decide)) q122a q122b q122c (g := (mkF m 40 #[.val (.ref a0), .val (.ref a1), .val .null, .val (.int (0 : Int32)), .unset] [(.int (0 : Int32)), (.ref a1)])) rfl (by rw [hml]; rfl) (Steps.refl _) (argsL := [(.int (0 : Int32))]) (rest := []) (lenOf own_pd9 rfl) rfl (by show 2 * 0 + _ ≤ _; exact Nat.le_of_eq rfl) (hb hby d11_40) (fun _ _ => ⟨rfl, e121, (by decide : 2 + 0 ≤ _), (by decide : 11 + 0 ≤ _)⟩)
  dsimp only [Pt.U, Pt.locs, Pt.cells, Pt.slots] at X122 l122 y122 z122 st122 hQ122
  subst l122 y122 z122
  obtain ⟨rfl, N122q, e122⟩ := hQ122
  have N122 := Fr.app N121 N122q
  refine own_goW (U' := T122.setTop (mkF m 45 #[.val (.ref a0), .val (.ref a1), .val .null, .val (.int (0 : Int32)), .unset] [(.ref el0)])) (fun _ k => st122.trans k) ?_
  obtain ⟨T123, X123, e123, st123⟩ := castY X122 hx hZ hown (hw _ (own_mem 158 rfl)) e122 (Ins.self c120_10) (g := (mkF m 45 #[.val (.ref a0), .val (.ref a1), .val .null, .val (.int (0 : Int32)), .unset] [(.ref el0)])) rfl rfl (hb hby d11_45)
  refine own_goW (U' := T123.setTop (mkF m 48 #[.val (.ref a0), .val (.ref a1), .val .null, .val (.int (0 : Int32)), .unset] [(.ref el0)])) (fun _ k => st123 _ k) ?_
  refine own_goW (U' := T123.setTop (mkF m 55 #[.val (.ref a0), .val (.ref a1), .val .null, .val (.int (1 : Int32)), .val (.ref el0)] [(.ref el0)])) (fun _ k => XS.astore X123.here hx rfl (hb hby d11_48) rfl rfl (l' := #[.val (.ref a0), .val (.ref a1), .val .null, .val (.int (0 : Int32)), .val (.ref el0)]) rfl (XS.iinc X123.here hx rfl (hb hby d11_50) rfl (l' := #[.val (.ref a0), .val (.ref a1), .val .null, .val (.int (1 : Int32)), .val (.ref el0)]) rfl (XS.aload X123.here hx rfl (hb hby d11_53) rfl rfl k))) ?_
  obtain ⟨a124, T124, h124, k124, b124, kc124, X124, e124, E124, hS124, hk124, hZ, hown, Ex124, Fc124, Fv124, Vb124, -, -, CH124, -, -, st124⟩ := ldcCH (s := s) (vm0 := s.vm) X123 hx hZ hown (hw _ (own_mem 159 rfl)) (own_wS hw) e123 hS0 c120_13 (own_EW hw) (by decide) c120_12.1 (z := (2 : Int32)) own_text159 (by decide) rfl (g := (mkF m 55 #[.val (.ref a0), .val (.ref a1), .val .null, .val (.int (1 : Int32)), .val (.ref el0)] [(.ref el0)])) rfl (hb hby d11_55) (n := 8) (by decide) (by decide) (by decide) (by decide)
  have c124_0 := c120_0.ext E124
  have c124_1 := c120_1.ext E124
  have c124_2 := w120.ext E124
  have c124_3 := c120_3.ext E124
  have c124_4 := c120_4.ext E124
  have c124_5 := c120_5.ext E124
  have c124_6 := c120_6.ext E124
  have c124_7 := c120_7.ext E124
  have c124_8 := c120_8.ext E124
  have c124_9 := c120_9.ext E124
  have c124_10 := c120_10.ext E124
  have c124_11 := c120_11.ext E124
  have c124_12 := c120_14.ext E124
  have c124_13 := c120_15.ext E124
  have c124_14 := c120_16.ext E124
  have c124_15 := c120_17.ext E124
  have c124_16 := c120_18.ext E124
  have Z124 : n0 ≤ h124.size := Nat.le_trans Z120 E124.1
  have K124 := Keep.ext K120 E124
  have CR124 := CHr.trans c120_12 CH124
  refine own_goW (U' := T124.setTop (mkF m 57 #[.val (.ref a0), .val (.ref a1), .val .null, .val (.int (1 : Int32)), .val (.ref el0)] [(.ref a124), (.ref el0)])) (fun _ k => st124 _ k) ?_
  have hO125 : own_S Z h124 el0 := own_S.keepA hw S_0 K124 E_t
  obtain ⟨cq126, kq126, q126a, q126b, q126c⟩ := isOf hZ e124 c124_10
  obtain ⟨_, _, ⟨T126, L126, k126, n126⟩, -, X126, ⟨Lc126, hQ126, l126, y126, z126⟩, st126⟩ := X124.virtualBack hx (y := (⟨"java/lang/String", "startsWith", "(Ljava/lang/String;)Z"⟩ : MethodName)) (z := (⟨"java/lang/String", "startsWith", "(Ljava/lang/String;)Z"⟩ : MethodName)) hown (mvT hZ (hw _ (own_mem 160 rfl))) (mvT hZ (hw _ (own_mem 161 rfl))) (notFace_of_selects (args := #[]) (mvT hZ (hw _ (own_mem 163 rfl)))) (mvT hZ (hw _ (own_mem 163 rfl))) (mvT hZ (hw _ (own_mem 162 rfl))) (by decide) (backOf (W := 0) (rm24 l Z aw hw [] el0 a124 cs b124 kc124 h124 n0 Z124 c124_3 c124_10 Ex124 Fc124 Fv124 Vb124 (by first | assumption | decide | rfl) (by first | assumption | decide | rfl)) hZ (hw _ (own_mem 164 rfl)) (hw _ (own_mem 11 rfl)) (by decide) (by decide)) q126a q126c (g := (mkF m 57 #[.val (.ref a0), .val (.ref a1), .val .null, .val (.int (1 : Int32)), .val (.ref el0)] [(.ref a124), (.ref el0)])) rfl (by rw [hml]; rfl) (Steps.refl _) (argsL := [(.ref a124)]) (rest := []) (lenOf own_pd14 rfl) rfl (by show 2 * 0 + _ ≤ _; exact Nat.le_of_eq rfl) (hb hby d11_57) (fun _ _ => ⟨rfl, e124, (by decide : 4 + 0 ≤ _), (by decide : 23 + 0 ≤ _)⟩)
  dsimp only [Pt.U, Pt.locs, Pt.cells, Pt.slots] at X126 l126 y126 z126 st126 hQ126
  subst l126 y126 z126
  obtain ⟨rfl, N126q, e126⟩ := hQ126
  have N126 := Fr.app N122 N126q
  refine own_goW (U' := T126.setTop (mkF m 60 #[.val (.ref a0), .val (.ref a1), .val .null, .val (.int (1 : Int32)), .val (.ref el0)] [(.int (0 : Int32))])) (fun _ k => st126.trans k) ?_
  refine own_goW (U' := T126.setTop (mkF m 64 #[.val (.ref a0), .val (.ref a1), .val .null, .val (.int (1 : Int32)), .val (.ref el0)] [(.ref a0)])) (fun _ k => XS.ifNo X126.here hx rfl (hb hby d11_60) rfl ((if0 _ _).trans (teq (by decide : ((0 : Int32) = (0 : Int32)))).2) (XS.aloadN X126.here hx rfl (hb hby d11_63) rfl rfl k)) ?_
  obtain ⟨T127, X127, e127, st127⟩ := getF X126 hx hZ hown (host := "") (Or.inl (hw _ (own_mem 68 rfl))) Via.refl e126 c124_1 (g := (mkF m 64 #[.val (.ref a0), .val (.ref a1), .val .null, .val (.int (1 : Int32)), .val (.ref el0)] [(.ref a0)])) rfl rfl (hb hby d11_64)
  refine own_goW (U' := T127.setTop (mkF m 67 #[.val (.ref a0), .val (.ref a1), .val .null, .val (.int (1 : Int32)), .val (.ref el0)] [(.ref b115)])) (fun _ k => st127 _ k) ?_
  refine own_goW (U' := T127.setTop (mkF m 69 #[.val (.ref a0), .val (.ref a1), .val .null, .val (.int (1 : Int32)), .val (.ref el0)] [(.ref el0), (.ref b115)])) (fun _ k => XS.aload X127.here hx rfl (hb hby d11_67) rfl rfl k) ?_
  obtain ⟨cq128, kq128, q128a, q128b, q128c⟩ := isOf hZ e127 c124_12
  obtain ⟨_, _, ⟨T128, L128, k128, n128⟩, -, X128, ⟨Lc128, hQ128, l128, y128, z128⟩, st128⟩ := X127.interfaceBack hx (xi := (⟨"java/util/List", "add", "(Ljava/lang/Object;)Z"⟩ : MethodName)) (y := (⟨"java/util/ArrayList", "add", "(Ljava/lang/Object;)Z"⟩ : MethodName)) hown (mvT hZ (hw _ (own_mem 180 rfl))) (mvT hZ (hw _ (own_mem 106 rfl))) (mvT hZ (hw _ (own_mem 107 rfl))) (mvT hZ (hw _ (own_mem 108 rfl))) (mvT hZ (hw _ (own_mem 109 rfl))) (mvT hZ (hw _ (own_mem 110 rfl))) (mvT hZ (hw _ (own_mem 111 rfl))) (mvT hZ (hw _ (own_mem 95 rfl))) (by decide) (backOf (W := 0) (rm16g l Z aw hw [] b115 el0 w k0 (0 : Int32) h124 n0 Z124 c124_4 c124_5 (Ins.of_exa c124_10 (hw _ (own_mem 133 rfl))) c124_12 c124_13 c124_14 c124_15 (by first | assumption | decide | rfl)) hZ (hw _ (own_mem 112 rfl)) (hw _ (own_mem 37 rfl)) (by decide) (by decide)) q128a q128b q128c (g := (mkF m 69 #[.val (.ref a0), .val (.ref a1), .val .null, .val (.int (1 : Int32)), .val (.ref el0)] [(.ref el0), (.ref b115)])) rfl (by rw [hml]; rfl) (Steps.refl _) (argsL := [(.ref el0)]) (rest := []) (lenOf own_pd15 rfl) rfl (by show 2 * 0 + _ ≤ _; exact Nat.le_of_eq rfl) (hb hby d11_69) (fun _ _ => ⟨rfl, e127, (by decide : 4 + 1 ≤ _), (by decide : 23 + 10 ≤ _)⟩)
  dsimp only [Pt.U, Pt.locs, Pt.cells, Pt.slots] at X128 l128 y128 z128 st128 hQ128
  subst l128 y128 z128
  obtain ⟨r128, kr128, rfl, N128q, K128q, sr128, xE128, xS128, xD128, xM128, xV128, xO128⟩ := hQ128
  have N128 := Fr.app N126 N128q
  have ne_a0_r128 : a0 ≠ r128 := Nat.ne_of_lt (Nat.lt_of_lt_of_le c124_0.lt sr128)
  have ne_w_r128 : w ≠ r128 := Nat.ne_of_lt (Nat.lt_of_lt_of_le c124_5.lt sr128)
  have ne_a1_r128 : a1 ≠ r128 := Nat.ne_of_lt (Nat.lt_of_lt_of_le c124_6.lt sr128)
  have ne_arr_r128 : arr ≠ r128 := Nat.ne_of_lt (Nat.lt_of_lt_of_le c124_9.lt sr128)
  have ne_el0_r128 : el0 ≠ r128 := Nat.ne_of_lt (Nat.lt_of_lt_of_le c124_10.lt sr128)
  have ne_el1_r128 : el1 ≠ r128 := Nat.ne_of_lt (Nat.lt_of_lt_of_le c124_11.lt sr128)
  have ne_b115_r128 : b115 ≠ r128 := Nat.ne_of_lt (Nat.lt_of_lt_of_le c124_12.lt sr128)
  have ne_b118_r128 : b118 ≠ r128 := Nat.ne_of_lt (Nat.lt_of_lt_of_le c124_16.lt sr128)
  have ne_a124_r128 : a124 ≠ r128 := Nat.ne_of_lt (Nat.lt_of_lt_of_le Ex124.lt sr128)
  have g_r128 : n0 ≤ r128 := Nat.le_trans Z124 sr128
  have sz_r128 : h0.size ≤ r128 := Nat.le_trans K124.1 sr128
  have ne_a124_b115 : a124 ≠ b115 := Exa.ne Ex124 c124_12 (by decide)
  have c128_0 := c124_0.keep K128q
  have c128_1 := c124_1.keep K128q (ninS ne_a0_b115 nin0)
  have c128_2 := c124_2.keep K128q (ninS ne_a0_b115 nin0)
  have c128_3 := own_sta_keepX c124_3 K128q (allS c124_12.nostat all0)
  have c128_4 := own_sta_keepX c124_4 K128q (allS c124_12.nostat all0)
  have c128_5 := c124_5.keep K128q (ninS ne_w_b115 nin0)
  have c128_6 := c124_6.keep K128q
  have c128_7 := c124_7.keep K128q (ninS ne_a1_b115 nin0)
  have c128_8 := c124_8.keep K128q (ninS ne_a1_b115 nin0)
  have c128_9 := c124_9.keep K128q (ninS ne_arr_b115 nin0)
  have c128_10 := c124_10.keep K128q
  have c128_11 := c124_11.keep K128q
  have c128_12 := c124_12.keep K128q
  have c128_16 := c124_16.keep K128q
  have c128_17 := Ex124.keep K128q
  have c128_18 := CHr.trans CR124 (CHr.keep K128q (allS (Safe.exa hZ.alike c124_12 (by decide) (by decide)) all0) CR124.1)
  have c128_19 : k124 ≤ T128.heap.size := Nat.le_trans hk124 K128q.1
  have c128_20 := own_ins_keep (Ins.of_exa c124_10 (hw _ (own_mem 133 rfl))) K128q
  have nf129 : Fld Z T128.heap b115 "java/util/AbstractList" "modCount" "I" (.int (1 : Int32)) := xM128
  have Z128 : n0 ≤ T128.heap.size := Nat.le_trans Z124 K128q.1
  have K128 := Keep.trans K124 K128q (allS (Or.inr sz_b115) all0)
  refine own_goW (U' := T128.setTop (mkF m 74 #[.val (.ref a0), .val (.ref a1), .val .null, .val (.int (1 : Int32)), .val (.ref el0)] [(.int (1 : Int32))])) (fun _ k => st128.trans k) ?_
  refine own_goW (U' := T128.setTop (mkF m 30 #[.val (.ref a0), .val (.ref a1), .val .null, .val (.int (1 : Int32)), .val (.ref el0)] [(.ref a1), (.int (1 : Int32))])) (fun _ k => XS.pop X128.here hx rfl (hb hby d11_74) rfl rfl (XS.goto X128.here hx rfl (pc0 := 75) (pc' := 28) rfl (hb hby d11_75) (by decide) (by decide) (XS.iloadN X128.here hx rfl (hb hby d11_28) rfl (XS.aloadN X128.here hx rfl (hb hby d11_29) rfl rfl k)))) ?_
  obtain ⟨cq130, kq130, q130a, q130b, q130c⟩ := isOf hZ rfl c128_6
  obtain ⟨_, _, ⟨T130, L130, k130, n130⟩, -, X130, ⟨Lc130, hQ130, l130, y130, z130⟩, st130⟩ := X128.interfaceBack hx (xi := (⟨"java/util/List", "size", "()I"⟩ : MethodName)) (y := (⟨"java/util/ArrayList", "size", "()I"⟩ : MethodName)) hown (mvT hZ (hw _ (own_mem 88 rfl))) (mvT hZ (hw _ (own_mem 89 rfl))) (mvT hZ (hw _ (own_mem 90 rfl))) (mvT hZ (hw _ (own_mem 91 rfl))) (mvT hZ (hw _ (own_mem 92 rfl))) (mvT hZ (hw _ (own_mem 93 rfl))) (mvT hZ (hw _ (own_mem 94 rfl))) (mvT hZ (hw _ (own_mem 95 rfl))) (by decide) (backOf (W := 1) (rm14 l Z aw hw [] a1 (2 : Int32) T128.heap n0 Z128 c128_7) hZ (hw _ (own_mem 96 rfl)) (hw _ (own_mem 37 rfl)) (by decide) (by decide)) q130a q130b q130c (g := (mkF m 30 #[.val (.ref a0), .val (.ref a1), .val .null, .val (.int (1 : Int32)), .val (.ref el0)] [(.ref a1), (.int (1 : Int32))])) rfl (by rw [hml]; rfl) (Steps.refl _) (argsL := []) (rest := [(.int (1 : Int32))]) (lenOf own_pd5 rfl) rfl (by show 2 * 0 + _ ≤ _; exact Nat.le_of_eq rfl) (hb hby d11_30) (fun _ _ => ⟨rfl, rfl, (by decide : 5 + 0 ≤ _), (by decide : 33 + 0 ≤ _)⟩)
  dsimp only [Pt.U, Pt.locs, Pt.cells, Pt.slots] at X130 l130 y130 z130 st130 hQ130
  subst l130 y130 z130
  obtain ⟨rfl, N130q, e130⟩ := hQ130
  have N130 := Fr.app N128 N130q
  refine own_goW (U' := T130.setTop (mkF m 35 #[.val (.ref a0), .val (.ref a1), .val .null, .val (.int (1 : Int32)), .val (.ref el0)] [(.int (2 : Int32)), (.int (1 : Int32))])) (fun _ k => st130.trans k) ?_
  refine own_goW (U' := T130.setTop (mkF m 40 #[.val (.ref a0), .val (.ref a1), .val .null, .val (.int (1 : Int32)), .val (.ref el0)] [(.int (1 : Int32)), (.ref a1)])) (fun _ k => XS.icmpNo X130.here hx rfl (hb hby d11_35) rfl (tlt (by decide : ((1 : Int32) < (2 : Int32)))).2.1 (XS.aloadN X130.here hx rfl (hb hby d11_38) rfl rfl (XS.iloadN X130.here hx rfl (hb hby d11_39) rfl k))) ?_
  obtain ⟨cq131, kq131, q131a, q131b, q131c⟩ := isOf hZ e130 c128_6
  obtain ⟨_, _, ⟨T131, L131, k131, n131⟩, -, X131, ⟨Lc131, hQ131, l131, y131, z131⟩, st131⟩ := X130.interfaceBack hx (xi := (⟨"java/util/List", "get", "(I)Ljava/lang/Object;"⟩ : MethodName)) (y := (⟨"java/util/ArrayList", "get", "(I)Ljava/lang/Object;"⟩ : MethodName)) hown (mvT hZ (hw _ (own_mem 137 rfl))) (mvT hZ (hw _ (own_mem 138 rfl))) (mvT hZ (hw _ (own_mem 139 rfl))) (mvT hZ (hw _ (own_mem 140 rfl))) (mvT hZ (hw _ (own_mem 141 rfl))) (mvT hZ (hw _ (own_mem 142 rfl))) (mvT hZ (hw _ (own_mem 143 rfl))) (mvT hZ (hw _ (own_mem 95 rfl))) (by decide) (backOf (W := 0) (rm20 l Z aw hw [] a1 (1 : Int32) (2 : Int32) arr k1 [(.ref el0), (.ref el1), .null, .null, .null, .null, .null, .null, .null, .null] el1 T128.heap n0 Z128 c128_6 c128_7 c128_8 c128_9 (by first | assumption | decide | rfl) (by first | assumption | decide | rfl) (by first | assumption | decide | rfl) (by first | assumption | decide | rfl)) hZ (hw _ (own_mem 144 rfl)) (hw _ (own_mem 37 rfl)) (by decide) (by decide)) q131a q131b q131c (g := (mkF m 40 #[.val (.ref a0), .val (.ref a1), .val .null, .val (.int (1 : Int32)), .val (.ref el0)] [(.int (1 : Int32)), (.ref a1)])) rfl (by rw [hml]; rfl) (Steps.refl _) (argsL := [(.int (1 : Int32))]) (rest := []) (lenOf own_pd9 rfl) rfl (by show 2 * 0 + _ ≤ _; exact Nat.le_of_eq rfl) (hb hby d11_40) (fun _ _ => ⟨rfl, e130, (by decide : 5 + 0 ≤ _), (by decide : 33 + 0 ≤ _)⟩)
  dsimp only [Pt.U, Pt.locs, Pt.cells, Pt.slots] at X131 l131 y131 z131 st131 hQ131
  subst l131 y131 z131
  obtain ⟨rfl, N131q, e131⟩ := hQ131
  have N131 := Fr.app N130 N131q
  refine own_goW (U' := T131.setTop (mkF m 45 #[.val (.ref a0), .val (.ref a1), .val .null, .val (.int (1 : Int32)), .val (.ref el0)] [(.ref el1)])) (fun _ k => st131.trans k) ?_
  obtain ⟨T132, X132, e132, st132⟩ := castY X131 hx hZ hown (hw _ (own_mem 158 rfl)) e131 (Ins.self c128_11) (g := (mkF m 45 #[.val (.ref a0), .val (.ref a1), .val .null, .val (.int (1 : Int32)), .val (.ref el0)] [(.ref el1)])) rfl rfl (hb hby d11_45)
  refine own_goW (U' := T132.setTop (mkF m 48 #[.val (.ref a0), .val (.ref a1), .val .null, .val (.int (1 : Int32)), .val (.ref el0)] [(.ref el1)])) (fun _ k => st132 _ k) ?_
  refine own_goW (U' := T132.setTop (mkF m 55 #[.val (.ref a0), .val (.ref a1), .val .null, .val (.int (2 : Int32)), .val (.ref el1)] [(.ref el1)])) (fun _ k => XS.astore X132.here hx rfl (hb hby d11_48) rfl rfl (l' := #[.val (.ref a0), .val (.ref a1), .val .null, .val (.int (1 : Int32)), .val (.ref el1)]) rfl (XS.iinc X132.here hx rfl (hb hby d11_50) rfl (l' := #[.val (.ref a0), .val (.ref a1), .val .null, .val (.int (2 : Int32)), .val (.ref el1)]) rfl (XS.aload X132.here hx rfl (hb hby d11_53) rfl rfl k))) ?_
  obtain ⟨a133, T133, h133, k133, b133, kc133, X133, e133, E133, hS133, hk133, hZ, hown, Ex133, Fc133, Fv133, Vb133, -, -, CH133, -, -, st133⟩ := ldcCH (s := s) (vm0 := T124.vm) X132 hx hZ hown (hw _ (own_mem 159 rfl)) (own_wS hw) e132 hS124 c128_19 (own_EW hw) (by decide) c128_18.1 (z := (2 : Int32)) own_text159 (by decide) rfl (g := (mkF m 55 #[.val (.ref a0), .val (.ref a1), .val .null, .val (.int (2 : Int32)), .val (.ref el1)] [(.ref el1)])) rfl (hb hby d11_55) (n := 8) (by decide) (by decide) (by decide) (by decide)
  have c133_0 := c128_0.ext E133
  have c133_1 := c128_1.ext E133
  have c133_2 := c128_2.ext E133
  have c133_3 := c128_3.ext E133
  have c133_4 := c128_4.ext E133
  have c133_5 := c128_5.ext E133
  have c133_6 := c128_6.ext E133
  have c133_7 := c128_7.ext E133
  have c133_8 := c128_8.ext E133
  have c133_9 := c128_9.ext E133
  have c133_10 := c128_10.ext E133
  have c133_11 := c128_11.ext E133
  have c133_12 := xE128.ext E133
  have c133_13 := c128_16.ext E133
  have c133_14 := c128_17.ext E133
  have c133_15 := c128_20.ext E133
  have c133_16 := xS128.ext E133
  have c133_17 := xD128.ext E133
  have c133_18 := nf129.ext E133
  have c133_19 := xV128.ext E133
  have Z133 : n0 ≤ h133.size := Nat.le_trans Z128 E133.1
  have K133 := Keep.ext K128 E133
  have CR133 := CHr.trans c128_18 CH133
  refine own_goW (U' := T133.setTop (mkF m 57 #[.val (.ref a0), .val (.ref a1), .val .null, .val (.int (2 : Int32)), .val (.ref el1)] [(.ref a133), (.ref el1)])) (fun _ k => st133 _ k) ?_
  have hO134 : own_S Z h133 el1 := own_S.keepA hw S_1 K133 E_t
  obtain ⟨cq135, kq135, q135a, q135b, q135c⟩ := isOf hZ e133 c133_11
  obtain ⟨_, _, ⟨T135, L135, k135, n135⟩, -, X135, ⟨Lc135, hQ135, l135, y135, z135⟩, st135⟩ := X133.virtualBack hx (y := (⟨"java/lang/String", "startsWith", "(Ljava/lang/String;)Z"⟩ : MethodName)) (z := (⟨"java/lang/String", "startsWith", "(Ljava/lang/String;)Z"⟩ : MethodName)) hown (mvT hZ (hw _ (own_mem 160 rfl))) (mvT hZ (hw _ (own_mem 161 rfl))) (notFace_of_selects (args := #[]) (mvT hZ (hw _ (own_mem 163 rfl)))) (mvT hZ (hw _ (own_mem 163 rfl))) (mvT hZ (hw _ (own_mem 162 rfl))) (by decide) (backOf (W := 0) (rm24 l Z aw hw [] el1 a133 cs b133 kc133 h133 n0 Z133 c133_3 c133_11 Ex133 Fc133 Fv133 Vb133 (by first | assumption | decide | rfl) (by first | assumption | decide | rfl)) hZ (hw _ (own_mem 164 rfl)) (hw _ (own_mem 11 rfl)) (by decide) (by decide)) q135a q135c (g := (mkF m 57 #[.val (.ref a0), .val (.ref a1), .val .null, .val (.int (2 : Int32)), .val (.ref el1)] [(.ref a133), (.ref el1)])) rfl (by rw [hml]; rfl) (Steps.refl _) (argsL := [(.ref a133)]) (rest := []) (lenOf own_pd14 rfl) rfl (by show 2 * 0 + _ ≤ _; exact Nat.le_of_eq rfl) (hb hby d11_57) (fun _ _ => ⟨rfl, e133, (by decide : 7 + 0 ≤ _), (by decide : 45 + 0 ≤ _)⟩)
  dsimp only [Pt.U, Pt.locs, Pt.cells, Pt.slots] at X135 l135 y135 z135 st135 hQ135
  subst l135 y135 z135
  obtain ⟨rfl, N135q, e135⟩ := hQ135
  have N135 := Fr.app N131 N135q
  refine own_goW (U' := T135.setTop (mkF m 60 #[.val (.ref a0), .val (.ref a1), .val .null, .val (.int (2 : Int32)), .val (.ref el1)] [(.int (0 : Int32))])) (fun _ k => st135.trans k) ?_
  refine own_goW (U' := T135.setTop (mkF m 64 #[.val (.ref a0), .val (.ref a1), .val .null, .val (.int (2 : Int32)), .val (.ref el1)] [(.ref a0)])) (fun _ k => XS.ifNo X135.here hx rfl (hb hby d11_60) rfl ((if0 _ _).trans (teq (by decide : ((0 : Int32) = (0 : Int32)))).2) (XS.aloadN X135.here hx rfl (hb hby d11_63) rfl rfl k)) ?_
  obtain ⟨T136, X136, e136, st136⟩ := getF X135 hx hZ hown (host := "") (Or.inl (hw _ (own_mem 68 rfl))) Via.refl e135 c133_1 (g := (mkF m 64 #[.val (.ref a0), .val (.ref a1), .val .null, .val (.int (2 : Int32)), .val (.ref el1)] [(.ref a0)])) rfl rfl (hb hby d11_64)
  refine own_goW (U' := T136.setTop (mkF m 67 #[.val (.ref a0), .val (.ref a1), .val .null, .val (.int (2 : Int32)), .val (.ref el1)] [(.ref b115)])) (fun _ k => st136 _ k) ?_
  refine own_goW (U' := T136.setTop (mkF m 69 #[.val (.ref a0), .val (.ref a1), .val .null, .val (.int (2 : Int32)), .val (.ref el1)] [(.ref el1), (.ref b115)])) (fun _ k => XS.aload X136.here hx rfl (hb hby d11_67) rfl rfl k) ?_
  obtain ⟨cq137, kq137, q137a, q137b, q137c⟩ := isOf hZ e136 c133_12
  obtain ⟨_, _, ⟨T137, L137, k137, n137⟩, -, X137, ⟨Lc137, hQ137, l137, y137, z137⟩, st137⟩ := X136.interfaceBack hx (xi := (⟨"java/util/List", "add", "(Ljava/lang/Object;)Z"⟩ : MethodName)) (y := (⟨"java/util/ArrayList", "add", "(Ljava/lang/Object;)Z"⟩ : MethodName)) hown (mvT hZ (hw _ (own_mem 180 rfl))) (mvT hZ (hw _ (own_mem 106 rfl))) (mvT hZ (hw _ (own_mem 107 rfl))) (mvT hZ (hw _ (own_mem 108 rfl))) (mvT hZ (hw _ (own_mem 109 rfl))) (mvT hZ (hw _ (own_mem 110 rfl))) (mvT hZ (hw _ (own_mem 111 rfl))) (mvT hZ (hw _ (own_mem 95 rfl))) (by decide) (backOf (W := 0) (rm16s l Z aw hw [] b115 el1 r128 kr128 (1 : Int32) (1 : Int32) [(.ref el0), .null, .null, .null, .null, .null, .null, .null, .null, .null] h133 n0 Z133 (Ins.of_exa c133_11 (hw _ (own_mem 133 rfl))) c133_12 c133_16 c133_17 c133_18 c133_19 (by first | assumption | decide | rfl) (by first | assumption | decide | rfl) (by first | assumption | decide | rfl) (by first | assumption | decide | rfl) (by first | assumption | decide | rfl) (by first | assumption | decide | rfl) (by first | assumption | decide | rfl) (by first | assumption | decide | rfl)) hZ (hw _ (own_mem 112 rfl)) (hw _ (own_mem 37 rfl)) (by decide) (by decide)) q137a q137b q137c (g := (mkF m 69 #[.val (.ref a0), .val (.ref a1), .val .null, .val (.int (2 : Int32)), .val (.ref el1)] [(.ref el1), (.ref b115)])) rfl (by rw [hml]; rfl) (Steps.refl _) (argsL := [(.ref el1)]) (rest := []) (lenOf own_pd15 rfl) rfl (by show 2 * 0 + _ ≤ _; exact Nat.le_of_eq rfl) (hb hby d11_69) (fun _ _ => ⟨rfl, e136, (by decide : 7 + 0 ≤ _), (by decide : 45 + 0 ≤ _)⟩)
  dsimp only [Pt.U, Pt.locs, Pt.cells, Pt.slots] at X137 l137 y137 z137 st137 hQ137
  subst l137 y137 z137
  obtain ⟨rfl, N137q, K137q, xE137, xS137, xD137, xM137, xV137⟩ := hQ137
  have N137 := Fr.app N135 N137q
  have ne_a133_b115 : a133 ≠ b115 := Exa.ne Ex133 c133_12 (by decide)
  have ne_a133_r128 : a133 ≠ r128 := Exa.neArv Ex133 c133_19 (hw _ (own_mem 19 rfl))
  have c137_0 := c133_0.keep K137q
  have c137_1 := c133_1.keep K137q (ninS ne_a0_b115 (ninS ne_a0_r128 nin0))
  have c137_2 := c133_2.keep K137q (ninS ne_a0_b115 (ninS ne_a0_r128 nin0))
  have c137_3 := own_sta_keepX c133_3 K137q (allS c133_12.nostat (allS c133_19.nostat all0))
  have c137_4 := own_sta_keepX c133_4 K137q (allS c133_12.nostat (allS c133_19.nostat all0))
  have c137_5 := c133_5.keep K137q (ninS ne_w_b115 (ninS ne_w_r128 nin0))
  have c137_6 := c133_6.keep K137q
  have c137_7 := c133_7.keep K137q (ninS ne_a1_b115 (ninS ne_a1_r128 nin0))
  have c137_8 := c133_8.keep K137q (ninS ne_a1_b115 (ninS ne_a1_r128 nin0))
  have c137_9 := c133_9.keep K137q (ninS ne_arr_b115 (ninS ne_arr_r128 nin0))
  have c137_10 := c133_10.keep K137q
  have c137_11 := c133_11.keep K137q
  have c137_12 := c133_12.keep K137q
  have c137_13 := c133_13.keep K137q
  have c137_14 := c133_14.keep K137q
  have c137_15 := own_ins_keep c133_15 K137q
  have c137_20 := Ex133.keep K137q
  have c137_21 := CHr.trans CR133 (CHr.keep K137q (allS (Safe.exa hZ.alike c133_12 (by decide) (by decide)) (allS (own_safe_arv hZ.alike c133_19 (by decide)) all0)) CR133.1)
  have c137_22 : k133 ≤ T137.heap.size := Nat.le_trans hk133 K137q.1
  have c137_23 := own_ins_keep (Ins.of_exa c133_11 (hw _ (own_mem 133 rfl))) K137q
  have nf138 : Fld Z T137.heap b115 "java/util/ArrayList" "size" "I" (.int (2 : Int32)) := xS137
  have nf139 : Fld Z T137.heap b115 "java/util/AbstractList" "modCount" "I" (.int (2 : Int32)) := xM137
  have nl137 : Arv Z T137.heap r128 kr128 (.object "java/lang/Object") (10 : Int32) [(.ref el0), (.ref el1), .null, .null, .null, .null, .null, .null, .null, .null] .null := xV137
  have Z137 : n0 ≤ T137.heap.size := Nat.le_trans Z133 K137q.1
  have K137 := Keep.trans K133 K137q (allS (Or.inr sz_b115) (allS (Or.inr sz_r128) all0))
  refine own_goW (U' := T137.setTop (mkF m 74 #[.val (.ref a0), .val (.ref a1), .val .null, .val (.int (2 : Int32)), .val (.ref el1)] [(.int (1 : Int32))])) (fun _ k => st137.trans k) ?_
  refine own_goW (U' := T137.setTop (mkF m 30 #[.val (.ref a0), .val (.ref a1), .val .null, .val (.int (2 : Int32)), .val (.ref el1)] [(.ref a1), (.int (2 : Int32))])) (fun _ k => XS.pop X137.here hx rfl (hb hby d11_74) rfl rfl (XS.goto X137.here hx rfl (pc0 := 75) (pc' := 28) rfl (hb hby d11_75) (by decide) (by decide) (XS.iloadN X137.here hx rfl (hb hby d11_28) rfl (XS.aloadN X137.here hx rfl (hb hby d11_29) rfl rfl k)))) ?_
  obtain ⟨cq140, kq140, q140a, q140b, q140c⟩ := isOf hZ rfl c137_6
  obtain ⟨_, _, ⟨T140, L140, k140, n140⟩, -, X140, ⟨Lc140, hQ140, l140, y140, z140⟩, st140⟩ := X137.interfaceBack hx (xi := (⟨"java/util/List", "size", "()I"⟩ : MethodName)) (y := (⟨"java/util/ArrayList", "size", "()I"⟩ : MethodName)) hown (mvT hZ (hw _ (own_mem 88 rfl))) (mvT hZ (hw _ (own_mem 89 rfl))) (mvT hZ (hw _ (own_mem 90 rfl))) (mvT hZ (hw _ (own_mem 91 rfl))) (mvT hZ (hw _ (own_mem 92 rfl))) (mvT hZ (hw _ (own_mem 93 rfl))) (mvT hZ (hw _ (own_mem 94 rfl))) (mvT hZ (hw _ (own_mem 95 rfl))) (by decide) (backOf (W := 1) (rm14 l Z aw hw [] a1 (2 : Int32) T137.heap n0 Z137 c137_7) hZ (hw _ (own_mem 96 rfl)) (hw _ (own_mem 37 rfl)) (by decide) (by decide)) q140a q140b q140c (g := (mkF m 30 #[.val (.ref a0), .val (.ref a1), .val .null, .val (.int (2 : Int32)), .val (.ref el1)] [(.ref a1), (.int (2 : Int32))])) rfl (by rw [hml]; rfl) (Steps.refl _) (argsL := []) (rest := [(.int (2 : Int32))]) (lenOf own_pd5 rfl) rfl (by show 2 * 0 + _ ≤ _; exact Nat.le_of_eq rfl) (hb hby d11_30) (fun _ _ => ⟨rfl, rfl, (by decide : 7 + 0 ≤ _), (by decide : 45 + 0 ≤ _)⟩)
  dsimp only [Pt.U, Pt.locs, Pt.cells, Pt.slots] at X140 l140 y140 z140 st140 hQ140
  subst l140 y140 z140
  obtain ⟨rfl, N140q, e140⟩ := hQ140
  have N140 := Fr.app N137 N140q
  refine own_goW (U' := T140.setTop (mkF m 35 #[.val (.ref a0), .val (.ref a1), .val .null, .val (.int (2 : Int32)), .val (.ref el1)] [(.int (2 : Int32)), (.int (2 : Int32))])) (fun _ k => st140.trans k) ?_
  refine own_goW (U' := T140.setTop (mkF m 174 #[.val (.ref a0), .val (.ref a1), .val .null, .val (.int (2 : Int32)), .val (.ref el1)] [])) (fun _ k => XS.icmpYes X140.here hx rfl (pc0 := 35) (pc' := 174) rfl (hb hby d11_35) rfl (flt (by decide : ¬ ((2 : Int32) < (2 : Int32)))).2.1 (by decide) (by decide) k) ?_
  refine own_retW (vm₁ := T133.vm) X140 hS133 (by rw [show T140.heap = T137.heap from e140]; exact c137_22) (by rw [hh, show T140.heap = T137.heap from e140]; exact CHr.trans c137_21 (CHv.at (s := s) (vm0 := T133.vm) X140 hZ (own_EW hw) c137_21.1)) (v := none) hlk (fun _ => rfl) (by decide) (by decide) (fun fs hr => X140.returnOut hx Bd.returns (hb hby d11_174) hr) ?_
  show (Q11_2 Z a0 a1 cs w k0 arr k1 el0 el1 h0 n0) _ T140.heap _
  rw [e140]
  exact ⟨rfl, N140, K137, c137_0, ⟨_, sz_b115, c137_1, xE137, nf138, ⟨_, _, xD137, nl137⟩⟩⟩
theorem own_ef11_3 (m : MethodId) (x0 : Addr) (x1 : Addr) : entryFrame m #[(.ref x0), (.ref x1), .null] 5 = mkF m 0 #[.val (.ref x0), .val (.ref x1), .val .null, .unset, .unset] [] := by first | (simp [entryFrame, mkF, argsToLocals, Value.category]; done) | rfl
def Q11_3 (Z : State) (a0 : Addr) (a1 : Addr) (cs : Int32) (w : Addr) (k0 : ClassId) (arr : Addr) (k1 : ClassId) (el0 : Addr) (el1 : Addr) (el2 : Addr) (h0 : Heap) (n0 : Nat) (v : Option Value) (h : Heap) (L : List Loc) : Prop := v = none ∧ Fr n0 L ∧ Keep h0 h [a0] ∧ Exa Z h a0 "com/example/hashtory/hashtory/Arguments" ∧ ∃ pl : Addr, h0.size ≤ pl ∧ Fld Z h a0 "com/example/hashtory/hashtory/Arguments" "positionals" "Ljava/util/List;" (.ref pl) ∧ Exa Z h pl "java/util/ArrayList" ∧ Fld Z h pl "java/util/ArrayList" "size" "I" (.int (3 : Int32)) ∧ ∃ (pa : Addr) (k : ClassId), Fld Z h pl "java/util/ArrayList" "elementData" "[Ljava/lang/Object;" (.ref pa) ∧ Arv Z h pa k (.object "java/lang/Object") (10 : Int32) [(.ref el0), (.ref el1), (.ref el2), .null, .null, .null, .null, .null, .null, .null] .null
set_option maxRecDepth 65536 in
set_option maxHeartbeats 40000000 in
theorem rm11_3 (l : Launch) (Z : State) (aw : Array Value) (hw : ∀ d ∈ tables_1, d.before aw Z = true) (ws : List Jvm.Cond) (a0 : Addr) (a1 : Addr) (cs : Int32) (w : Addr) (k0 : ClassId) (arr : Addr) (k1 : ClassId) (el0 : Addr) (el1 : Addr) (el2 : Addr) (h0 : Heap) (n0 : Nat) (Z0 : n0 ≤ h0.size) (E_t : Exa Z h0 a0 "com/example/hashtory/hashtory/Arguments") (F_p : Fld Z h0 a0 "com/example/hashtory/hashtory/Arguments" "positionals" "Ljava/util/List;" .null) (F_o : Fld Z h0 a0 "com/example/hashtory/hashtory/Arguments" "options" "Ljava/util/Map;" .null) (S_cs : Sta Z h0 "java/lang/String" "COMPACT_STRINGS" "Z" (.int cs)) (S_df : Sta Z h0 "java/util/ArrayList" "DEFAULTCAPACITY_EMPTY_ELEMENTDATA" "[Ljava/lang/Object;" (.ref w)) (V_w : Arv Z h0 w k0 (.object "java/lang/Object") (0 : Int32) [] .null) (E_l : Exa Z h0 a1 "java/util/ArrayList") (F_l : Fld Z h0 a1 "java/util/ArrayList" "size" "I" (.int (3 : Int32))) (F_x : Fld Z h0 a1 "java/util/ArrayList" "elementData" "[Ljava/lang/Object;" (.ref arr)) (V_x : Arv Z h0 arr k1 (.object "java/lang/Object") (10 : Int32) [(.ref el0), (.ref el1), (.ref el2), .null, .null, .null, .null, .null, .null, .null] .null) (E_0 : Exa Z h0 el0 "java/lang/String") (E_1 : Exa Z h0 el1 "java/lang/String") (E_2 : Exa Z h0 el2 "java/lang/String") (g_a0 : n0 ≤ a0) (hcs : ¬ (cs = (0 : Int32))) (S_0 : own_S Z h0 el0) (S_1 : own_S Z h0 el1) (S_2 : own_S Z h0 el2) :
    MetFree l (⟨"com/example/hashtory/hashtory/Arguments", "<init>", "(Ljava/util/List;Ljava/util/Set;)V"⟩ : MethodName) (head1 (Jvm.Cond.code (⟨"com/example/hashtory/hashtory/Arguments", "<init>", "(Ljava/util/List;Ljava/util/Set;)V"⟩ : MethodName) prog_1_method_1_code 5 none :: ws) ({ frames := 5, cells := 9, slots := 57, locals := 69 } : Room)) (fun a U => a = #[(.ref a0), (.ref a1), .null] ∧ Z.Warmed39 U.vm ∧ U.heap = h0 ∧ CHv Z own_EL U.vm h0) (fun _ _ _ _ _ => True) (fun _ U o U' => ∃ v L, o = .returned v ∧ (Q11_3 Z a0 a1 cs w k0 arr k1 el0 el1 el2 h0 n0) v U'.heap L ∧ CHr Z own_EL U.vm U.heap U'.vm U'.heap ∧ ReturnedEndW U o U' L ({ frames := 5, cells := 9, slots := 57, locals := 69 } : Room).cells ({ frames := 5, cells := 9, slots := 57, locals := 69 } : Room).slots) := by
  refine MetFree.of_bodySF (plainFor_of_name own_pn10) hisR ?_
  intro p e s m args below meth c s₁ Bd hml0 hP hK
  obtain ⟨rfl, hZ, hh, hCH⟩ := hP
  have hx := Bd.exec
  have hby := Bd.bytes
  have hml : c.maxLocals = 5 := hml0
  have hown : s.vm.findClass "com/example/hashtory/hashtory/Arguments" = some m.cls := findClass_of_methodNamed Bd.named
  have hnm := (name_of_methodNamed Bd.named Bd.method).1
  have hlk : meth.locks = false := BodyLoose.notSynchronized (by assumption)
  have X0 : Stand p l e ({ frames := 5, cells := 9, slots := 57, locals := 69 } : Room) s m #[(.ref a0), (.ref a1), .null] below meth c s₁ [] 0 0 := Stand.of_body Bd
  have e0 : s₁.heap = h0 := by rw [← hh, Bd.state]; rfl
  have N0 := Fr.nil n0
  have hS0 : s.Since s.vm 0 := (State.WarmedH.refl s).since 0
  show own_DoneW p e below s Z own_EL (Q11_3 Z a0 a1 cs w k0 arr k1 el0 el1 el2 h0 n0) ({ frames := 5, cells := 9, slots := 57, locals := 69 } : Room).cells ({ frames := 5, cells := 9, slots := 57, locals := 69 } : Room).slots (s₁.setTop (entryFrame m #[(.ref a0), (.ref a1), .null] 5))
  refine own_goW (U' := s₁.setTop (mkF m 0 #[.val (.ref a0), .val (.ref a1), .val .null, .unset, .unset] [])) (fun _ k => castTop (own_ef11_3 m a0 a1) k) ?_
  have hCR0 := CHr.refl hCH
  have hSz0 : 0 ≤ h0.size := Nat.zero_le _
  refine own_goW (U' := s₁.setTop (mkF m 1 #[.val (.ref a0), .val (.ref a1), .val .null, .unset, .unset] [(.ref a0)])) (fun _ k => XS.aloadN X0.here hx rfl (hb hby d11_0) rfl rfl k) ?_
  obtain ⟨T141, X141, e141, st141⟩ := initO X0 hx hZ hown (hw _ (own_mem 65 rfl)) (hw _ (own_mem 29 rfl)) (hw _ (own_mem 30 rfl)) e0 (g := (mkF m 1 #[.val (.ref a0), .val (.ref a1), .val .null, .unset, .unset] [(.ref a0)])) rfl (by rw [hml]; rfl) rfl (hb hby d11_1) (by decide) (W := 0) (by show 2 * 0 + _ ≤ _; exact Nat.le_of_eq rfl) (by decide)
  refine own_goW (U' := T141.setTop (mkF m 4 #[.val (.ref a0), .val (.ref a1), .val .null, .unset, .unset] [])) (fun _ k => st141 _ k) ?_
  refine own_goW (U' := T141.setTop (mkF m 5 #[.val (.ref a0), .val (.ref a1), .val .null, .unset, .unset] [(.ref a0)])) (fun _ k => XS.aloadN X141.here hx rfl (hb hby d11_4) rfl rfl k) ?_
  obtain ⟨T142, h142, X142, e142, E142, A142, D142, -, st142⟩ := newO X141 hx hZ hown (hw _ (own_mem 66 rfl)) (hw _ (own_mem 36 rfl)) (hw _ (own_mem 37 rfl)) e141 (g := (mkF m 5 #[.val (.ref a0), .val (.ref a1), .val .null, .unset, .unset] [(.ref a0)])) rfl (hb hby d11_5) (by decide) (by decide)
  obtain ⟨b142, g142⟩ : ∃ z, z = h0.size := ⟨_, rfl⟩
  have g_b142 : n0 ≤ b142 := Nat.le_trans Z0 (Nat.le_of_eq g142.symm)
  have sz_b142 : h0.size ≤ b142 := Nat.le_trans (Keep.refl h0 [a0]).1 (Nat.le_of_eq g142.symm)
  have ne_a0_b142 : a0 ≠ b142 := Nat.ne_of_lt (Nat.lt_of_lt_of_le E_t.lt (Nat.le_of_eq g142.symm))
  have ne_w_b142 : w ≠ b142 := Nat.ne_of_lt (Nat.lt_of_lt_of_le V_w.lt (Nat.le_of_eq g142.symm))
  have ne_a1_b142 : a1 ≠ b142 := Nat.ne_of_lt (Nat.lt_of_lt_of_le E_l.lt (Nat.le_of_eq g142.symm))
  have ne_arr_b142 : arr ≠ b142 := Nat.ne_of_lt (Nat.lt_of_lt_of_le V_x.lt (Nat.le_of_eq g142.symm))
  have ne_el0_b142 : el0 ≠ b142 := Nat.ne_of_lt (Nat.lt_of_lt_of_le E_0.lt (Nat.le_of_eq g142.symm))
  have ne_el1_b142 : el1 ≠ b142 := Nat.ne_of_lt (Nat.lt_of_lt_of_le E_1.lt (Nat.le_of_eq g142.symm))
  have ne_el2_b142 : el2 ≠ b142 := Nat.ne_of_lt (Nat.lt_of_lt_of_le E_2.lt (Nat.le_of_eq g142.symm))
  rw [← g142] at A142 D142 st142
  have c142_0 := E_t.ext E142
  have c142_1 := F_p.ext E142
  have c142_2 := F_o.ext E142
  have c142_3 := S_cs.ext E142
  have c142_4 := S_df.ext E142
  have c142_5 := V_w.ext E142
  have c142_6 := E_l.ext E142
  have c142_7 := F_l.ext E142
  have c142_8 := F_x.ext E142
  have c142_9 := V_x.ext E142
  have c142_10 := E_0.ext E142
  have c142_11 := E_1.ext E142
  have c142_12 := E_2.ext E142
  have c142_13 := CHr.trans hCR0 (CHr.ext E142 hCR0.1)
  have c142_14 : 0 ≤ h142.size := Nat.le_trans hSz0 E142.1
  have Z142 : n0 ≤ h142.size := Nat.le_trans Z0 E142.1
  have K142 := Keep.ext (Keep.refl h0 [a0]) E142
  have F142_55 : Fld Z h142 b142 "java/util/AbstractList" "modCount" "I" (.int (0 : Int32)) := D142 (Or.inl (hw _ (own_mem 55 rfl))) (ty := .int) (by decide)
  have F142_58 : Fld Z h142 b142 "java/util/ArrayList" "elementData" "[Ljava/lang/Object;" .null := D142 (Or.inl (hw _ (own_mem 58 rfl))) (ty := (.array (.object "java/lang/Object"))) (by decide)
  have F142_98 : Fld Z h142 b142 "java/util/ArrayList" "size" "I" (.int (0 : Int32)) := D142 (Or.inl (hw _ (own_mem 98 rfl))) (ty := .int) (by decide)
  refine own_goW (U' := T142.setTop (mkF m 8 #[.val (.ref a0), .val (.ref a1), .val .null, .unset, .unset] [(.ref b142), (.ref a0)])) (fun _ k => st142 _ k) ?_
  refine own_goW (U' := T142.setTop (mkF m 9 #[.val (.ref a0), .val (.ref a1), .val .null, .unset, .unset] [(.ref b142), (.ref b142), (.ref a0)])) (fun _ k => XS.dup X142.here hx rfl (hb hby d11_8) rfl rfl k) ?_
  obtain ⟨_, _, ⟨T143, L143, k143, n143⟩, -, X143, ⟨Lc143, hQ143, l143, y143, z143⟩, st143⟩ := X142.specialBack hx (y := (⟨"java/util/ArrayList", "<init>", "()V"⟩ : MethodName)) rfl hown (mvT hZ (hw _ (own_mem 67 rfl))) (mvT hZ (hw _ (own_mem 39 rfl))) (mvT hZ (hw _ (own_mem 40 rfl))) (by decide) (backOf (W := 2) (rm8 l Z aw hw [] b142 w h142 n0 Z142 c142_4 A142 F142_98 F142_58 F142_55 (by first | assumption | decide | rfl)) hZ (hw _ (own_mem 40 rfl)) (hw _ (own_mem 37 rfl)) (by decide) (by decide)) (g := (mkF m 9 #[.val (.ref a0), .val (.ref a1), .val .null, .unset, .unset] [(.ref b142), (.ref b142), (.ref a0)])) rfl (by rw [hml]; rfl) (Steps.refl _) (a := b142) (argsL := []) (rest := [(.ref b142), (.ref a0)]) (lenOf own_pd10 rfl) rfl (by show 2 * 0 + _ ≤ _; exact Nat.le_of_eq rfl) (hb hby d11_9) (fun _ _ => ⟨rfl, e142, (by decide : 1 + 0 ≤ _), (by decide : 3 + 0 ≤ _)⟩)
  dsimp only [Pt.U, Pt.locs, Pt.cells, Pt.slots] at X143 l143 y143 z143 st143 hQ143
  subst l143 y143 z143
  obtain ⟨rfl, N143q, K143q, xE143, xS143, xD143, xM143⟩ := hQ143
  have N143 := Fr.app N0 N143q
  have c143_0 := c142_0.keep K143q
  have c143_1 := c142_1.keep K143q (ninS ne_a0_b142 nin0)
  have c143_2 := c142_2.keep K143q (ninS ne_a0_b142 nin0)
  have c143_3 := own_sta_keepX c142_3 K143q (allS A142.nostat all0)
  have c143_4 := own_sta_keepX c142_4 K143q (allS A142.nostat all0)
  have c143_5 := c142_5.keep K143q (ninS ne_w_b142 nin0)
  have c143_6 := c142_6.keep K143q
  have c143_7 := c142_7.keep K143q (ninS ne_a1_b142 nin0)
  have c143_8 := c142_8.keep K143q (ninS ne_a1_b142 nin0)
  have c143_9 := c142_9.keep K143q (ninS ne_arr_b142 nin0)
  have c143_10 := c142_10.keep K143q
  have c143_11 := c142_11.keep K143q
  have c143_12 := c142_12.keep K143q
  have c143_13 := CHr.trans c142_13 (CHr.keep K143q (allS (Safe.exa hZ.alike A142 (by decide) (by decide)) all0) c142_13.1)
  have c143_14 : 0 ≤ T143.heap.size := Nat.le_trans c142_14 K143q.1
  have c143_15 := A142.keep K143q
  have Z143 : n0 ≤ T143.heap.size := Nat.le_trans Z142 K143q.1
  have K143 := Keep.trans K142 K143q (allS (Or.inr sz_b142) all0)
  refine own_goW (U' := T143.setTop (mkF m 12 #[.val (.ref a0), .val (.ref a1), .val .null, .unset, .unset] [(.ref b142), (.ref a0)])) (fun _ k => st143.trans k) ?_
  obtain ⟨T144, h144, X144, e144, W144, st144⟩ := putF X143 hx hZ hown (host := "") (Or.inl (hw _ (own_mem 68 rfl))) Via.refl rfl c143_1 c143_0 (Or.inr ⟨(hw _ (own_mem 69 rfl)), rfl, hnm⟩) (hw _ (own_mem 60 rfl)) (ty := (.object "java/util/List")) (by decide) rfl rfl (g := (mkF m 12 #[.val (.ref a0), .val (.ref a1), .val .null, .unset, .unset] [(.ref b142), (.ref a0)])) rfl rfl (hb hby d11_12)
  have ne_w_a0 : w ≠ a0 := (Exa.neArv c143_0 c143_5 (hw _ (own_mem 60 rfl))).symm
  have ne_a1_a0 : a1 ≠ a0 := Exa.ne c143_6 c143_0 (by decide)
  have ne_arr_a0 : arr ≠ a0 := (Exa.neArv c143_0 c143_9 (hw _ (own_mem 60 rfl))).symm
  have ne_el0_a0 : el0 ≠ a0 := Exa.ne c143_10 c143_0 (by decide)
  have ne_el1_a0 : el1 ≠ a0 := Exa.ne c143_11 c143_0 (by decide)
  have ne_el2_a0 : el2 ≠ a0 := Exa.ne c143_12 c143_0 (by decide)
  have c144_0 := c143_0.wr W144
  have c144_2 := c143_2.other W144 (Or.inr (slot_ne (Or.inr (hw _ (own_mem 87 rfl))) (Or.inr (hw _ (own_mem 69 rfl))) (by decide) (t := (.object "java/util/Map")) (t' := (.object "java/util/List")) (by decide) (by decide)))
  have c144_3 := c143_3.wr W144
  have c144_4 := c143_4.wr W144
  have c144_5 := c143_5.other W144 ne_w_a0
  have c144_6 := c143_6.wr W144
  have c144_7 := c143_7.other W144 (Or.inl ne_a1_a0)
  have c144_8 := c143_8.other W144 (Or.inl ne_a1_a0)
  have c144_9 := c143_9.other W144 ne_arr_a0
  have c144_10 := c143_10.wr W144
  have c144_11 := c143_11.wr W144
  have c144_12 := c143_12.wr W144
  have c144_13 := CHr.trans c143_13 (CHr.wr W144 (Safe.exa hZ.alike c143_0 (by decide) (by decide)) c143_13.1)
  have c144_14 : 0 ≤ h144.size := Nat.le_trans c143_14 (Keep.of_wr W144).1
  have c144_15 := xE143.wr W144
  have c144_16 := xS143.other W144 (Or.inl (Ne.symm ne_a0_b142))
  have c144_17 := xD143.other W144 (Or.inl (Ne.symm ne_a0_b142))
  have c144_18 := xM143.other W144 (Or.inl (Ne.symm ne_a0_b142))
  have w144 : Fld Z h144 a0 "com/example/hashtory/hashtory/Arguments" "positionals" "Ljava/util/List;" (.ref b142) := c143_1.same W144
  have Z144 : n0 ≤ h144.size := Nat.le_trans Z143 (Keep.of_wr W144).1
  have K144 := Keep.wr K143 W144 (Or.inl (by simp))
  have N144 := Fr.snoc X144 N143 g_a0
  refine own_goW (U' := T144.setTop (mkF m 15 #[.val (.ref a0), .val (.ref a1), .val .null, .unset, .unset] [])) (fun _ k => st144 _ k) ?_
  refine own_goW (U' := T144.setTop (mkF m 16 #[.val (.ref a0), .val (.ref a1), .val .null, .unset, .unset] [(.ref a0)])) (fun _ k => XS.aloadN X144.here hx rfl (hb hby d11_15) rfl rfl k) ?_
  obtain ⟨T145, h145, X145, e145, E145, A145, D145, -, st145⟩ := newO X144 hx hZ hown (hw _ (own_mem 70 rfl)) (hw _ (own_mem 71 rfl)) (hw _ (own_mem 72 rfl)) e144 (g := (mkF m 16 #[.val (.ref a0), .val (.ref a1), .val .null, .unset, .unset] [(.ref a0)])) rfl (hb hby d11_16) (by decide) (by decide)
  obtain ⟨b145, g145⟩ : ∃ z, z = h144.size := ⟨_, rfl⟩
  have g_b145 : n0 ≤ b145 := Nat.le_trans Z144 (Nat.le_of_eq g145.symm)
  have sz_b145 : h0.size ≤ b145 := Nat.le_trans K144.1 (Nat.le_of_eq g145.symm)
  have ne_a0_b145 : a0 ≠ b145 := Nat.ne_of_lt (Nat.lt_of_lt_of_le c144_0.lt (Nat.le_of_eq g145.symm))
  have ne_w_b145 : w ≠ b145 := Nat.ne_of_lt (Nat.lt_of_lt_of_le c144_5.lt (Nat.le_of_eq g145.symm))
  have ne_a1_b145 : a1 ≠ b145 := Nat.ne_of_lt (Nat.lt_of_lt_of_le c144_6.lt (Nat.le_of_eq g145.symm))
  have ne_arr_b145 : arr ≠ b145 := Nat.ne_of_lt (Nat.lt_of_lt_of_le c144_9.lt (Nat.le_of_eq g145.symm))
  have ne_el0_b145 : el0 ≠ b145 := Nat.ne_of_lt (Nat.lt_of_lt_of_le c144_10.lt (Nat.le_of_eq g145.symm))
  have ne_el1_b145 : el1 ≠ b145 := Nat.ne_of_lt (Nat.lt_of_lt_of_le c144_11.lt (Nat.le_of_eq g145.symm))
  have ne_el2_b145 : el2 ≠ b145 := Nat.ne_of_lt (Nat.lt_of_lt_of_le c144_12.lt (Nat.le_of_eq g145.symm))
  have ne_b142_b145 : b142 ≠ b145 := Nat.ne_of_lt (Nat.lt_of_lt_of_le c144_15.lt (Nat.le_of_eq g145.symm))
  rw [← g145] at A145 D145 st145
  have c145_0 := c144_0.ext E145
  have c145_1 := w144.ext E145
  have c145_2 := c144_2.ext E145
  have c145_3 := c144_3.ext E145
  have c145_4 := c144_4.ext E145
  have c145_5 := c144_5.ext E145
  have c145_6 := c144_6.ext E145
  have c145_7 := c144_7.ext E145
  have c145_8 := c144_8.ext E145
  have c145_9 := c144_9.ext E145
  have c145_10 := c144_10.ext E145
  have c145_11 := c144_11.ext E145
  have c145_12 := c144_12.ext E145
  have c145_13 := CHr.trans c144_13 (CHr.ext E145 c144_13.1)
  have c145_14 : 0 ≤ h145.size := Nat.le_trans c144_14 E145.1
  have c145_15 := c144_15.ext E145
  have c145_16 := c144_16.ext E145
  have c145_17 := c144_17.ext E145
  have c145_18 := c144_18.ext E145
  have Z145 : n0 ≤ h145.size := Nat.le_trans Z144 E145.1
  have K145 := Keep.ext K144 E145
  have F145_85 : Fld Z h145 b145 "java/util/HashMap" "loadFactor" "F" (.float (0 : UInt32)) := D145 (Or.inr (hw _ (own_mem 85 rfl))) (ty := .float) (by decide)
  refine own_goW (U' := T145.setTop (mkF m 19 #[.val (.ref a0), .val (.ref a1), .val .null, .unset, .unset] [(.ref b145), (.ref a0)])) (fun _ k => st145 _ k) ?_
  refine own_goW (U' := T145.setTop (mkF m 20 #[.val (.ref a0), .val (.ref a1), .val .null, .unset, .unset] [(.ref b145), (.ref b145), (.ref a0)])) (fun _ k => XS.dup X145.here hx rfl (hb hby d11_19) rfl rfl k) ?_
  obtain ⟨_, _, ⟨T146, L146, k146, n146⟩, -, X146, ⟨Lc146, hQ146, l146, y146, z146⟩, st146⟩ := X145.specialBack hx (y := (⟨"java/util/HashMap", "<init>", "()V"⟩ : MethodName)) rfl hown (mvT hZ (hw _ (own_mem 73 rfl))) (mvT hZ (hw _ (own_mem 74 rfl))) (mvT hZ (hw _ (own_mem 75 rfl))) (by decide) (backOf (W := 2) (rm12 l Z aw hw [] b145 h145 n0 Z145 A145 F145_85 (by first | assumption | decide | rfl)) hZ (hw _ (own_mem 75 rfl)) (hw _ (own_mem 72 rfl)) (by decide) (by decide)) (g := (mkF m 20 #[.val (.ref a0), .val (.ref a1), .val .null, .unset, .unset] [(.ref b145), (.ref b145), (.ref a0)])) rfl (by rw [hml]; rfl) (Steps.refl _) (a := b145) (argsL := []) (rest := [(.ref b145), (.ref a0)]) (lenOf own_pd10 rfl) rfl (by show 2 * 0 + _ ≤ _; exact Nat.le_of_eq rfl) (hb hby d11_20) (fun _ _ => ⟨rfl, e145, (by decide : 2 + 0 ≤ _), (by decide : 11 + 0 ≤ _)⟩)
  dsimp only [Pt.U, Pt.locs, Pt.cells, Pt.slots] at X146 l146 y146 z146 st146 hQ146
  subst l146 y146 z146
  obtain ⟨rfl, N146q, K146q, xE146⟩ := hQ146
  have N146 := Fr.app N144 N146q
  have c146_0 := c145_0.keep K146q
  have c146_1 := c145_1.keep K146q (ninS ne_a0_b145 nin0)
  have c146_2 := c145_2.keep K146q (ninS ne_a0_b145 nin0)
  have c146_3 := own_sta_keepX c145_3 K146q (allS A145.nostat all0)
  have c146_4 := own_sta_keepX c145_4 K146q (allS A145.nostat all0)
  have c146_5 := c145_5.keep K146q (ninS ne_w_b145 nin0)
  have c146_6 := c145_6.keep K146q
  have c146_7 := c145_7.keep K146q (ninS ne_a1_b145 nin0)
  have c146_8 := c145_8.keep K146q (ninS ne_a1_b145 nin0)
  have c146_9 := c145_9.keep K146q (ninS ne_arr_b145 nin0)
  have c146_10 := c145_10.keep K146q
  have c146_11 := c145_11.keep K146q
  have c146_12 := c145_12.keep K146q
  have c146_13 := CHr.trans c145_13 (CHr.keep K146q (allS (Safe.exa hZ.alike A145 (by decide) (by decide)) all0) c145_13.1)
  have c146_14 : 0 ≤ T146.heap.size := Nat.le_trans c145_14 K146q.1
  have c146_15 := c145_15.keep K146q
  have c146_16 := c145_16.keep K146q (ninS ne_b142_b145 nin0)
  have c146_17 := c145_17.keep K146q (ninS ne_b142_b145 nin0)
  have c146_18 := c145_18.keep K146q (ninS ne_b142_b145 nin0)
  have c146_19 := A145.keep K146q
  have Z146 : n0 ≤ T146.heap.size := Nat.le_trans Z145 K146q.1
  have K146 := Keep.trans K145 K146q (allS (Or.inr sz_b145) all0)
  refine own_goW (U' := T146.setTop (mkF m 23 #[.val (.ref a0), .val (.ref a1), .val .null, .unset, .unset] [(.ref b145), (.ref a0)])) (fun _ k => st146.trans k) ?_
  obtain ⟨T147, h147, X147, e147, W147, st147⟩ := putF X146 hx hZ hown (host := "") (Or.inl (hw _ (own_mem 86 rfl))) Via.refl rfl c146_2 c146_0 (Or.inr ⟨(hw _ (own_mem 87 rfl)), rfl, hnm⟩) (hw _ (own_mem 60 rfl)) (ty := (.object "java/util/Map")) (by decide) rfl rfl (g := (mkF m 23 #[.val (.ref a0), .val (.ref a1), .val .null, .unset, .unset] [(.ref b145), (.ref a0)])) rfl rfl (hb hby d11_23)
  have c147_0 := c146_0.wr W147
  have c147_1 := c146_1.other W147 (Or.inr (slot_ne (Or.inr (hw _ (own_mem 69 rfl))) (Or.inr (hw _ (own_mem 87 rfl))) (by decide) (t := (.object "java/util/List")) (t' := (.object "java/util/Map")) (by decide) (by decide)))
  have c147_3 := c146_3.wr W147
  have c147_4 := c146_4.wr W147
  have c147_5 := c146_5.other W147 ne_w_a0
  have c147_6 := c146_6.wr W147
  have c147_7 := c146_7.other W147 (Or.inl ne_a1_a0)
  have c147_8 := c146_8.other W147 (Or.inl ne_a1_a0)
  have c147_9 := c146_9.other W147 ne_arr_a0
  have c147_10 := c146_10.wr W147
  have c147_11 := c146_11.wr W147
  have c147_12 := c146_12.wr W147
  have c147_13 := CHr.trans c146_13 (CHr.wr W147 (Safe.exa hZ.alike c146_0 (by decide) (by decide)) c146_13.1)
  have c147_14 : 0 ≤ h147.size := Nat.le_trans c146_14 (Keep.of_wr W147).1
  have c147_15 := c146_15.wr W147
  have c147_16 := c146_16.other W147 (Or.inl (Ne.symm ne_a0_b142))
  have c147_17 := c146_17.other W147 (Or.inl (Ne.symm ne_a0_b142))
  have c147_18 := c146_18.other W147 (Or.inl (Ne.symm ne_a0_b142))
  have c147_19 := xE146.wr W147
  have w147 : Fld Z h147 a0 "com/example/hashtory/hashtory/Arguments" "options" "Ljava/util/Map;" (.ref b145) := c146_2.same W147
  have Z147 : n0 ≤ h147.size := Nat.le_trans Z146 (Keep.of_wr W147).1
  have K147 := Keep.wr K146 W147 (Or.inl (by simp))
  have N147 := Fr.snoc X147 N146 g_a0
  refine own_goW (U' := T147.setTop (mkF m 26 #[.val (.ref a0), .val (.ref a1), .val .null, .unset, .unset] [])) (fun _ k => st147 _ k) ?_
  refine own_goW (U' := T147.setTop (mkF m 30 #[.val (.ref a0), .val (.ref a1), .val .null, .val (.int (0 : Int32)), .unset] [(.ref a1), (.int (0 : Int32))])) (fun _ k => XS.iconst X147.here hx rfl (hb hby d11_26) (XS.istoreN X147.here hx rfl (hb hby d11_27) rfl (l' := #[.val (.ref a0), .val (.ref a1), .val .null, .val (.int (0 : Int32)), .unset]) rfl (XS.iloadN X147.here hx rfl (hb hby d11_28) rfl (XS.aloadN X147.here hx rfl (hb hby d11_29) rfl rfl k)))) ?_
  obtain ⟨cq148, kq148, q148a, q148b, q148c⟩ := isOf hZ e147 c147_6
  obtain ⟨_, _, ⟨T148, L148, k148, n148⟩, -, X148, ⟨Lc148, hQ148, l148, y148, z148⟩, st148⟩ := X147.interfaceBack hx (xi := (⟨"java/util/List", "size", "()I"⟩ : MethodName)) (y := (⟨"java/util/ArrayList", "size", "()I"⟩ : MethodName)) hown (mvT hZ (hw _ (own_mem 88 rfl))) (mvT hZ (hw _ (own_mem 89 rfl))) (mvT hZ (hw _ (own_mem 90 rfl))) (mvT hZ (hw _ (own_mem 91 rfl))) (mvT hZ (hw _ (own_mem 92 rfl))) (mvT hZ (hw _ (own_mem 93 rfl))) (mvT hZ (hw _ (own_mem 94 rfl))) (mvT hZ (hw _ (own_mem 95 rfl))) (by decide) (backOf (W := 1) (rm14 l Z aw hw [] a1 (3 : Int32) h147 n0 Z147 c147_7) hZ (hw _ (own_mem 96 rfl)) (hw _ (own_mem 37 rfl)) (by decide) (by decide)) q148a q148b q148c (g := (mkF m 30 #[.val (.ref a0), .val (.ref a1), .val .null, .val (.int (0 : Int32)), .unset] [(.ref a1), (.int (0 : Int32))])) rfl (by rw [hml]; rfl) (Steps.refl _) (argsL := []) (rest := [(.int (0 : Int32))]) (lenOf own_pd5 rfl) rfl (by show 2 * 0 + _ ≤ _; exact Nat.le_of_eq rfl) (hb hby d11_30) (fun _ _ => ⟨rfl, e147, (by decide : 2 + 0 ≤ _), (by decide : 11 + 0 ≤ _)⟩)
  dsimp only [Pt.U, Pt.locs, Pt.cells, Pt.slots] at X148 l148 y148 z148 st148 hQ148
  subst l148 y148 z148
  obtain ⟨rfl, N148q, e148⟩ := hQ148
  have N148 := Fr.app N147 N148q
  refine own_goW (U' := T148.setTop (mkF m 35 #[.val (.ref a0), .val (.ref a1), .val .null, .val (.int (0 : Int32)), .unset] [(.int (3 : Int32)), (.int (0 : Int32))])) (fun _ k => st148.trans k) ?_
  refine own_goW (U' := T148.setTop (mkF m 40 #[.val (.ref a0), .val (.ref a1), .val .null, .val (.int (0 : Int32)), .unset] [(.int (0 : Int32)), (.ref a1)])) (fun _ k => XS.icmpNo X148.here hx rfl (hb hby d11_35) rfl (tlt (by decide : ((0 : Int32) < (3 : Int32)))).2.1 (XS.aloadN X148.here hx rfl (hb hby d11_38) rfl rfl (XS.iloadN X148.here hx rfl (hb hby d11_39) rfl k))) ?_
  obtain ⟨cq149, kq149, q149a, q149b, q149c⟩ := isOf hZ e148 c147_6
  obtain ⟨_, _, ⟨T149, L149, k149, n149⟩, -, X149, ⟨Lc149, hQ149, l149, y149, z149⟩, st149⟩ := X148.interfaceBack hx (xi := (⟨"java/util/List", "get", "(I)Ljava/lang/Object;"⟩ : MethodName)) (y := (⟨"java/util/ArrayList", "get", "(I)Ljava/lang/Object;"⟩ : MethodName)) hown (mvT hZ (hw _ (own_mem 137 rfl))) (mvT hZ (hw _ (own_mem 138 rfl))) (mvT hZ (hw _ (own_mem 139 rfl))) (mvT hZ (hw _ (own_mem 140 rfl))) (mvT hZ (hw _ (own_mem 141 rfl))) (mvT hZ (hw _ (own_mem 142 rfl))) (mvT hZ (hw _ (own_mem 143 rfl))) (mvT hZ (hw _ (own_mem 95 rfl))) (by decide) (backOf (W := 0) (rm20 l Z aw hw [] a1 (0 : Int32) (3 : Int32) arr k1 [(.ref el0), (.ref el1), (.ref el2), .null, .null, .null, .null, .null, .null, .null] el0 h147 n0 Z147 c147_6 c147_7 c147_8 c147_9 (by first | assumption | decide | rfl) (by first | assumption | decide | rfl) (by first | assumption | decide | rfl) (by first | assumption | decide | rfl)) hZ (hw _ (own_mem 144 rfl)) (hw _ (own_mem 37 rfl)) (by decide) (by decide)) q149a q149b q149c (g := (mkF m 40 #[.val (.ref a0), .val (.ref a1), .val .null, .val (.int (0 : Int32)), .unset] [(.int (0 : Int32)), (.ref a1)])) rfl (by rw [hml]; rfl) (Steps.refl _) (argsL := [(.int (0 : Int32))]) (rest := []) (lenOf own_pd9 rfl) rfl (by show 2 * 0 + _ ≤ _; exact Nat.le_of_eq rfl) (hb hby d11_40) (fun _ _ => ⟨rfl, e148, (by decide : 2 + 0 ≤ _), (by decide : 11 + 0 ≤ _)⟩)
  dsimp only [Pt.U, Pt.locs, Pt.cells, Pt.slots] at X149 l149 y149 z149 st149 hQ149
  subst l149 y149 z149
  obtain ⟨rfl, N149q, e149⟩ := hQ149
  have N149 := Fr.app N148 N149q
  refine own_goW (U' := T149.setTop (mkF m 45 #[.val (.ref a0), .val (.ref a1), .val .null, .val (.int (0 : Int32)), .unset] [(.ref el0)])) (fun _ k => st149.trans k) ?_
  obtain ⟨T150, X150, e150, st150⟩ := castY X149 hx hZ hown (hw _ (own_mem 158 rfl)) e149 (Ins.self c147_10) (g := (mkF m 45 #[.val (.ref a0), .val (.ref a1), .val .null, .val (.int (0 : Int32)), .unset] [(.ref el0)])) rfl rfl (hb hby d11_45)
  refine own_goW (U' := T150.setTop (mkF m 48 #[.val (.ref a0), .val (.ref a1), .val .null, .val (.int (0 : Int32)), .unset] [(.ref el0)])) (fun _ k => st150 _ k) ?_
  refine own_goW (U' := T150.setTop (mkF m 55 #[.val (.ref a0), .val (.ref a1), .val .null, .val (.int (1 : Int32)), .val (.ref el0)] [(.ref el0)])) (fun _ k => XS.astore X150.here hx rfl (hb hby d11_48) rfl rfl (l' := #[.val (.ref a0), .val (.ref a1), .val .null, .val (.int (0 : Int32)), .val (.ref el0)]) rfl (XS.iinc X150.here hx rfl (hb hby d11_50) rfl (l' := #[.val (.ref a0), .val (.ref a1), .val .null, .val (.int (1 : Int32)), .val (.ref el0)]) rfl (XS.aload X150.here hx rfl (hb hby d11_53) rfl rfl k))) ?_
  obtain ⟨a151, T151, h151, k151, b151, kc151, X151, e151, E151, hS151, hk151, hZ, hown, Ex151, Fc151, Fv151, Vb151, -, -, CH151, -, -, st151⟩ := ldcCH (s := s) (vm0 := s.vm) X150 hx hZ hown (hw _ (own_mem 159 rfl)) (own_wS hw) e150 hS0 c147_14 (own_EW hw) (by decide) c147_13.1 (z := (2 : Int32)) own_text159 (by decide) rfl (g := (mkF m 55 #[.val (.ref a0), .val (.ref a1), .val .null, .val (.int (1 : Int32)), .val (.ref el0)] [(.ref el0)])) rfl (hb hby d11_55) (n := 8) (by decide) (by decide) (by decide) (by decide)
  have c151_0 := c147_0.ext E151
  have c151_1 := c147_1.ext E151
  have c151_2 := w147.ext E151
  have c151_3 := c147_3.ext E151
  have c151_4 := c147_4.ext E151
  have c151_5 := c147_5.ext E151
  have c151_6 := c147_6.ext E151
  have c151_7 := c147_7.ext E151
  have c151_8 := c147_8.ext E151
  have c151_9 := c147_9.ext E151
  have c151_10 := c147_10.ext E151
  have c151_11 := c147_11.ext E151
  have c151_12 := c147_12.ext E151
  have c151_13 := c147_15.ext E151
  have c151_14 := c147_16.ext E151
  have c151_15 := c147_17.ext E151
  have c151_16 := c147_18.ext E151
  have c151_17 := c147_19.ext E151
  have Z151 : n0 ≤ h151.size := Nat.le_trans Z147 E151.1
  have K151 := Keep.ext K147 E151
  have CR151 := CHr.trans c147_13 CH151
  refine own_goW (U' := T151.setTop (mkF m 57 #[.val (.ref a0), .val (.ref a1), .val .null, .val (.int (1 : Int32)), .val (.ref el0)] [(.ref a151), (.ref el0)])) (fun _ k => st151 _ k) ?_
  have hO152 : own_S Z h151 el0 := own_S.keepA hw S_0 K151 E_t
  obtain ⟨cq153, kq153, q153a, q153b, q153c⟩ := isOf hZ e151 c151_10
  obtain ⟨_, _, ⟨T153, L153, k153, n153⟩, -, X153, ⟨Lc153, hQ153, l153, y153, z153⟩, st153⟩ := X151.virtualBack hx (y := (⟨"java/lang/String", "startsWith", "(Ljava/lang/String;)Z"⟩ : MethodName)) (z := (⟨"java/lang/String", "startsWith", "(Ljava/lang/String;)Z"⟩ : MethodName)) hown (mvT hZ (hw _ (own_mem 160 rfl))) (mvT hZ (hw _ (own_mem 161 rfl))) (notFace_of_selects (args := #[]) (mvT hZ (hw _ (own_mem 163 rfl)))) (mvT hZ (hw _ (own_mem 163 rfl))) (mvT hZ (hw _ (own_mem 162 rfl))) (by decide) (backOf (W := 0) (rm24 l Z aw hw [] el0 a151 cs b151 kc151 h151 n0 Z151 c151_3 c151_10 Ex151 Fc151 Fv151 Vb151 (by first | assumption | decide | rfl) (by first | assumption | decide | rfl)) hZ (hw _ (own_mem 164 rfl)) (hw _ (own_mem 11 rfl)) (by decide) (by decide)) q153a q153c (g := (mkF m 57 #[.val (.ref a0), .val (.ref a1), .val .null, .val (.int (1 : Int32)), .val (.ref el0)] [(.ref a151), (.ref el0)])) rfl (by rw [hml]; rfl) (Steps.refl _) (argsL := [(.ref a151)]) (rest := []) (lenOf own_pd14 rfl) rfl (by show 2 * 0 + _ ≤ _; exact Nat.le_of_eq rfl) (hb hby d11_57) (fun _ _ => ⟨rfl, e151, (by decide : 4 + 0 ≤ _), (by decide : 23 + 0 ≤ _)⟩)
  dsimp only [Pt.U, Pt.locs, Pt.cells, Pt.slots] at X153 l153 y153 z153 st153 hQ153
  subst l153 y153 z153
  obtain ⟨rfl, N153q, e153⟩ := hQ153
  have N153 := Fr.app N149 N153q
  refine own_goW (U' := T153.setTop (mkF m 60 #[.val (.ref a0), .val (.ref a1), .val .null, .val (.int (1 : Int32)), .val (.ref el0)] [(.int (0 : Int32))])) (fun _ k => st153.trans k) ?_
  refine own_goW (U' := T153.setTop (mkF m 64 #[.val (.ref a0), .val (.ref a1), .val .null, .val (.int (1 : Int32)), .val (.ref el0)] [(.ref a0)])) (fun _ k => XS.ifNo X153.here hx rfl (hb hby d11_60) rfl ((if0 _ _).trans (teq (by decide : ((0 : Int32) = (0 : Int32)))).2) (XS.aloadN X153.here hx rfl (hb hby d11_63) rfl rfl k)) ?_
  obtain ⟨T154, X154, e154, st154⟩ := getF X153 hx hZ hown (host := "") (Or.inl (hw _ (own_mem 68 rfl))) Via.refl e153 c151_1 (g := (mkF m 64 #[.val (.ref a0), .val (.ref a1), .val .null, .val (.int (1 : Int32)), .val (.ref el0)] [(.ref a0)])) rfl rfl (hb hby d11_64)
  refine own_goW (U' := T154.setTop (mkF m 67 #[.val (.ref a0), .val (.ref a1), .val .null, .val (.int (1 : Int32)), .val (.ref el0)] [(.ref b142)])) (fun _ k => st154 _ k) ?_
  refine own_goW (U' := T154.setTop (mkF m 69 #[.val (.ref a0), .val (.ref a1), .val .null, .val (.int (1 : Int32)), .val (.ref el0)] [(.ref el0), (.ref b142)])) (fun _ k => XS.aload X154.here hx rfl (hb hby d11_67) rfl rfl k) ?_
  obtain ⟨cq155, kq155, q155a, q155b, q155c⟩ := isOf hZ e154 c151_13
  obtain ⟨_, _, ⟨T155, L155, k155, n155⟩, -, X155, ⟨Lc155, hQ155, l155, y155, z155⟩, st155⟩ := X154.interfaceBack hx (xi := (⟨"java/util/List", "add", "(Ljava/lang/Object;)Z"⟩ : MethodName)) (y := (⟨"java/util/ArrayList", "add", "(Ljava/lang/Object;)Z"⟩ : MethodName)) hown (mvT hZ (hw _ (own_mem 180 rfl))) (mvT hZ (hw _ (own_mem 106 rfl))) (mvT hZ (hw _ (own_mem 107 rfl))) (mvT hZ (hw _ (own_mem 108 rfl))) (mvT hZ (hw _ (own_mem 109 rfl))) (mvT hZ (hw _ (own_mem 110 rfl))) (mvT hZ (hw _ (own_mem 111 rfl))) (mvT hZ (hw _ (own_mem 95 rfl))) (by decide) (backOf (W := 0) (rm16g l Z aw hw [] b142 el0 w k0 (0 : Int32) h151 n0 Z151 c151_4 c151_5 (Ins.of_exa c151_10 (hw _ (own_mem 133 rfl))) c151_13 c151_14 c151_15 c151_16 (by first | assumption | decide | rfl)) hZ (hw _ (own_mem 112 rfl)) (hw _ (own_mem 37 rfl)) (by decide) (by decide)) q155a q155b q155c (g := (mkF m 69 #[.val (.ref a0), .val (.ref a1), .val .null, .val (.int (1 : Int32)), .val (.ref el0)] [(.ref el0), (.ref b142)])) rfl (by rw [hml]; rfl) (Steps.refl _) (argsL := [(.ref el0)]) (rest := []) (lenOf own_pd15 rfl) rfl (by show 2 * 0 + _ ≤ _; exact Nat.le_of_eq rfl) (hb hby d11_69) (fun _ _ => ⟨rfl, e154, (by decide : 4 + 1 ≤ _), (by decide : 23 + 10 ≤ _)⟩)
  dsimp only [Pt.U, Pt.locs, Pt.cells, Pt.slots] at X155 l155 y155 z155 st155 hQ155
  subst l155 y155 z155
  obtain ⟨r155, kr155, rfl, N155q, K155q, sr155, xE155, xS155, xD155, xM155, xV155, xO155⟩ := hQ155
  have N155 := Fr.app N153 N155q
  have ne_a0_r155 : a0 ≠ r155 := Nat.ne_of_lt (Nat.lt_of_lt_of_le c151_0.lt sr155)
  have ne_w_r155 : w ≠ r155 := Nat.ne_of_lt (Nat.lt_of_lt_of_le c151_5.lt sr155)
  have ne_a1_r155 : a1 ≠ r155 := Nat.ne_of_lt (Nat.lt_of_lt_of_le c151_6.lt sr155)
  have ne_arr_r155 : arr ≠ r155 := Nat.ne_of_lt (Nat.lt_of_lt_of_le c151_9.lt sr155)
  have ne_el0_r155 : el0 ≠ r155 := Nat.ne_of_lt (Nat.lt_of_lt_of_le c151_10.lt sr155)
  have ne_el1_r155 : el1 ≠ r155 := Nat.ne_of_lt (Nat.lt_of_lt_of_le c151_11.lt sr155)
  have ne_el2_r155 : el2 ≠ r155 := Nat.ne_of_lt (Nat.lt_of_lt_of_le c151_12.lt sr155)
  have ne_b142_r155 : b142 ≠ r155 := Nat.ne_of_lt (Nat.lt_of_lt_of_le c151_13.lt sr155)
  have ne_b145_r155 : b145 ≠ r155 := Nat.ne_of_lt (Nat.lt_of_lt_of_le c151_17.lt sr155)
  have ne_a151_r155 : a151 ≠ r155 := Nat.ne_of_lt (Nat.lt_of_lt_of_le Ex151.lt sr155)
  have g_r155 : n0 ≤ r155 := Nat.le_trans Z151 sr155
  have sz_r155 : h0.size ≤ r155 := Nat.le_trans K151.1 sr155
  have ne_a151_b142 : a151 ≠ b142 := Exa.ne Ex151 c151_13 (by decide)
  have c155_0 := c151_0.keep K155q
  have c155_1 := c151_1.keep K155q (ninS ne_a0_b142 nin0)
  have c155_2 := c151_2.keep K155q (ninS ne_a0_b142 nin0)
  have c155_3 := own_sta_keepX c151_3 K155q (allS c151_13.nostat all0)
  have c155_4 := own_sta_keepX c151_4 K155q (allS c151_13.nostat all0)
  have c155_5 := c151_5.keep K155q (ninS ne_w_b142 nin0)
  have c155_6 := c151_6.keep K155q
  have c155_7 := c151_7.keep K155q (ninS ne_a1_b142 nin0)
  have c155_8 := c151_8.keep K155q (ninS ne_a1_b142 nin0)
  have c155_9 := c151_9.keep K155q (ninS ne_arr_b142 nin0)
  have c155_10 := c151_10.keep K155q
  have c155_11 := c151_11.keep K155q
  have c155_12 := c151_12.keep K155q
  have c155_13 := c151_13.keep K155q
  have c155_17 := c151_17.keep K155q
  have c155_18 := Ex151.keep K155q
  have c155_19 := CHr.trans CR151 (CHr.keep K155q (allS (Safe.exa hZ.alike c151_13 (by decide) (by decide)) all0) CR151.1)
  have c155_20 : k151 ≤ T155.heap.size := Nat.le_trans hk151 K155q.1
  have c155_21 := own_ins_keep (Ins.of_exa c151_10 (hw _ (own_mem 133 rfl))) K155q
  have nf156 : Fld Z T155.heap b142 "java/util/AbstractList" "modCount" "I" (.int (1 : Int32)) := xM155
  have Z155 : n0 ≤ T155.heap.size := Nat.le_trans Z151 K155q.1
  have K155 := Keep.trans K151 K155q (allS (Or.inr sz_b142) all0)
  refine own_goW (U' := T155.setTop (mkF m 74 #[.val (.ref a0), .val (.ref a1), .val .null, .val (.int (1 : Int32)), .val (.ref el0)] [(.int (1 : Int32))])) (fun _ k => st155.trans k) ?_
  refine own_goW (U' := T155.setTop (mkF m 30 #[.val (.ref a0), .val (.ref a1), .val .null, .val (.int (1 : Int32)), .val (.ref el0)] [(.ref a1), (.int (1 : Int32))])) (fun _ k => XS.pop X155.here hx rfl (hb hby d11_74) rfl rfl (XS.goto X155.here hx rfl (pc0 := 75) (pc' := 28) rfl (hb hby d11_75) (by decide) (by decide) (XS.iloadN X155.here hx rfl (hb hby d11_28) rfl (XS.aloadN X155.here hx rfl (hb hby d11_29) rfl rfl k)))) ?_
  obtain ⟨cq157, kq157, q157a, q157b, q157c⟩ := isOf hZ rfl c155_6
  obtain ⟨_, _, ⟨T157, L157, k157, n157⟩, -, X157, ⟨Lc157, hQ157, l157, y157, z157⟩, st157⟩ := X155.interfaceBack hx (xi := (⟨"java/util/List", "size", "()I"⟩ : MethodName)) (y := (⟨"java/util/ArrayList", "size", "()I"⟩ : MethodName)) hown (mvT hZ (hw _ (own_mem 88 rfl))) (mvT hZ (hw _ (own_mem 89 rfl))) (mvT hZ (hw _ (own_mem 90 rfl))) (mvT hZ (hw _ (own_mem 91 rfl))) (mvT hZ (hw _ (own_mem 92 rfl))) (mvT hZ (hw _ (own_mem 93 rfl))) (mvT hZ (hw _ (own_mem 94 rfl))) (mvT hZ (hw _ (own_mem 95 rfl))) (by decide) (backOf (W := 1) (rm14 l Z aw hw [] a1 (3 : Int32) T155.heap n0 Z155 c155_7) hZ (hw _ (own_mem 96 rfl)) (hw _ (own_mem 37 rfl)) (by decide) (by decide)) q157a q157b q157c (g := (mkF m 30 #[.val (.ref a0), .val (.ref a1), .val .null, .val (.int (1 : Int32)), .val (.ref el0)] [(.ref a1), (.int (1 : Int32))])) rfl (by rw [hml]; rfl) (Steps.refl _) (argsL := []) (rest := [(.int (1 : Int32))]) (lenOf own_pd5 rfl) rfl (by show 2 * 0 + _ ≤ _; exact Nat.le_of_eq rfl) (hb hby d11_30) (fun _ _ => ⟨rfl, rfl, (by decide : 5 + 0 ≤ _), (by decide : 33 + 0 ≤ _)⟩)
  dsimp only [Pt.U, Pt.locs, Pt.cells, Pt.slots] at X157 l157 y157 z157 st157 hQ157
  subst l157 y157 z157
  obtain ⟨rfl, N157q, e157⟩ := hQ157
  have N157 := Fr.app N155 N157q
  refine own_goW (U' := T157.setTop (mkF m 35 #[.val (.ref a0), .val (.ref a1), .val .null, .val (.int (1 : Int32)), .val (.ref el0)] [(.int (3 : Int32)), (.int (1 : Int32))])) (fun _ k => st157.trans k) ?_
  refine own_goW (U' := T157.setTop (mkF m 40 #[.val (.ref a0), .val (.ref a1), .val .null, .val (.int (1 : Int32)), .val (.ref el0)] [(.int (1 : Int32)), (.ref a1)])) (fun _ k => XS.icmpNo X157.here hx rfl (hb hby d11_35) rfl (tlt (by decide : ((1 : Int32) < (3 : Int32)))).2.1 (XS.aloadN X157.here hx rfl (hb hby d11_38) rfl rfl (XS.iloadN X157.here hx rfl (hb hby d11_39) rfl k))) ?_
  obtain ⟨cq158, kq158, q158a, q158b, q158c⟩ := isOf hZ e157 c155_6
  obtain ⟨_, _, ⟨T158, L158, k158, n158⟩, -, X158, ⟨Lc158, hQ158, l158, y158, z158⟩, st158⟩ := X157.interfaceBack hx (xi := (⟨"java/util/List", "get", "(I)Ljava/lang/Object;"⟩ : MethodName)) (y := (⟨"java/util/ArrayList", "get", "(I)Ljava/lang/Object;"⟩ : MethodName)) hown (mvT hZ (hw _ (own_mem 137 rfl))) (mvT hZ (hw _ (own_mem 138 rfl))) (mvT hZ (hw _ (own_mem 139 rfl))) (mvT hZ (hw _ (own_mem 140 rfl))) (mvT hZ (hw _ (own_mem 141 rfl))) (mvT hZ (hw _ (own_mem 142 rfl))) (mvT hZ (hw _ (own_mem 143 rfl))) (mvT hZ (hw _ (own_mem 95 rfl))) (by decide) (backOf (W := 0) (rm20 l Z aw hw [] a1 (1 : Int32) (3 : Int32) arr k1 [(.ref el0), (.ref el1), (.ref el2), .null, .null, .null, .null, .null, .null, .null] el1 T155.heap n0 Z155 c155_6 c155_7 c155_8 c155_9 (by first | assumption | decide | rfl) (by first | assumption | decide | rfl) (by first | assumption | decide | rfl) (by first | assumption | decide | rfl)) hZ (hw _ (own_mem 144 rfl)) (hw _ (own_mem 37 rfl)) (by decide) (by decide)) q158a q158b q158c (g := (mkF m 40 #[.val (.ref a0), .val (.ref a1), .val .null, .val (.int (1 : Int32)), .val (.ref el0)] [(.int (1 : Int32)), (.ref a1)])) rfl (by rw [hml]; rfl) (Steps.refl _) (argsL := [(.int (1 : Int32))]) (rest := []) (lenOf own_pd9 rfl) rfl (by show 2 * 0 + _ ≤ _; exact Nat.le_of_eq rfl) (hb hby d11_40) (fun _ _ => ⟨rfl, e157, (by decide : 5 + 0 ≤ _), (by decide : 33 + 0 ≤ _)⟩)
  dsimp only [Pt.U, Pt.locs, Pt.cells, Pt.slots] at X158 l158 y158 z158 st158 hQ158
  subst l158 y158 z158
  obtain ⟨rfl, N158q, e158⟩ := hQ158
  have N158 := Fr.app N157 N158q
  refine own_goW (U' := T158.setTop (mkF m 45 #[.val (.ref a0), .val (.ref a1), .val .null, .val (.int (1 : Int32)), .val (.ref el0)] [(.ref el1)])) (fun _ k => st158.trans k) ?_
  obtain ⟨T159, X159, e159, st159⟩ := castY X158 hx hZ hown (hw _ (own_mem 158 rfl)) e158 (Ins.self c155_11) (g := (mkF m 45 #[.val (.ref a0), .val (.ref a1), .val .null, .val (.int (1 : Int32)), .val (.ref el0)] [(.ref el1)])) rfl rfl (hb hby d11_45)
  refine own_goW (U' := T159.setTop (mkF m 48 #[.val (.ref a0), .val (.ref a1), .val .null, .val (.int (1 : Int32)), .val (.ref el0)] [(.ref el1)])) (fun _ k => st159 _ k) ?_
  refine own_goW (U' := T159.setTop (mkF m 55 #[.val (.ref a0), .val (.ref a1), .val .null, .val (.int (2 : Int32)), .val (.ref el1)] [(.ref el1)])) (fun _ k => XS.astore X159.here hx rfl (hb hby d11_48) rfl rfl (l' := #[.val (.ref a0), .val (.ref a1), .val .null, .val (.int (1 : Int32)), .val (.ref el1)]) rfl (XS.iinc X159.here hx rfl (hb hby d11_50) rfl (l' := #[.val (.ref a0), .val (.ref a1), .val .null, .val (.int (2 : Int32)), .val (.ref el1)]) rfl (XS.aload X159.here hx rfl (hb hby d11_53) rfl rfl k))) ?_
  obtain ⟨a160, T160, h160, k160, b160, kc160, X160, e160, E160, hS160, hk160, hZ, hown, Ex160, Fc160, Fv160, Vb160, -, -, CH160, -, -, st160⟩ := ldcCH (s := s) (vm0 := T151.vm) X159 hx hZ hown (hw _ (own_mem 159 rfl)) (own_wS hw) e159 hS151 c155_20 (own_EW hw) (by decide) c155_19.1 (z := (2 : Int32)) own_text159 (by decide) rfl (g := (mkF m 55 #[.val (.ref a0), .val (.ref a1), .val .null, .val (.int (2 : Int32)), .val (.ref el1)] [(.ref el1)])) rfl (hb hby d11_55) (n := 8) (by decide) (by decide) (by decide) (by decide)
  have c160_0 := c155_0.ext E160
  have c160_1 := c155_1.ext E160
  have c160_2 := c155_2.ext E160
  have c160_3 := c155_3.ext E160
  have c160_4 := c155_4.ext E160
  have c160_5 := c155_5.ext E160
  have c160_6 := c155_6.ext E160
  have c160_7 := c155_7.ext E160
  have c160_8 := c155_8.ext E160
  have c160_9 := c155_9.ext E160
  have c160_10 := c155_10.ext E160
  have c160_11 := c155_11.ext E160
  have c160_12 := c155_12.ext E160
  have c160_13 := xE155.ext E160
  have c160_14 := c155_17.ext E160
  have c160_15 := c155_18.ext E160
  have c160_16 := c155_21.ext E160
  have c160_17 := xS155.ext E160
  have c160_18 := xD155.ext E160
  have c160_19 := nf156.ext E160
  have c160_20 := xV155.ext E160
  have Z160 : n0 ≤ h160.size := Nat.le_trans Z155 E160.1
  have K160 := Keep.ext K155 E160
  have CR160 := CHr.trans c155_19 CH160
  refine own_goW (U' := T160.setTop (mkF m 57 #[.val (.ref a0), .val (.ref a1), .val .null, .val (.int (2 : Int32)), .val (.ref el1)] [(.ref a160), (.ref el1)])) (fun _ k => st160 _ k) ?_
  have hO161 : own_S Z h160 el1 := own_S.keepA hw S_1 K160 E_t
  obtain ⟨cq162, kq162, q162a, q162b, q162c⟩ := isOf hZ e160 c160_11
  obtain ⟨_, _, ⟨T162, L162, k162, n162⟩, -, X162, ⟨Lc162, hQ162, l162, y162, z162⟩, st162⟩ := X160.virtualBack hx (y := (⟨"java/lang/String", "startsWith", "(Ljava/lang/String;)Z"⟩ : MethodName)) (z := (⟨"java/lang/String", "startsWith", "(Ljava/lang/String;)Z"⟩ : MethodName)) hown (mvT hZ (hw _ (own_mem 160 rfl))) (mvT hZ (hw _ (own_mem 161 rfl))) (notFace_of_selects (args := #[]) (mvT hZ (hw _ (own_mem 163 rfl)))) (mvT hZ (hw _ (own_mem 163 rfl))) (mvT hZ (hw _ (own_mem 162 rfl))) (by decide) (backOf (W := 0) (rm24 l Z aw hw [] el1 a160 cs b160 kc160 h160 n0 Z160 c160_3 c160_11 Ex160 Fc160 Fv160 Vb160 (by first | assumption | decide | rfl) (by first | assumption | decide | rfl)) hZ (hw _ (own_mem 164 rfl)) (hw _ (own_mem 11 rfl)) (by decide) (by decide)) q162a q162c (g := (mkF m 57 #[.val (.ref a0), .val (.ref a1), .val .null, .val (.int (2 : Int32)), .val (.ref el1)] [(.ref a160), (.ref el1)])) rfl (by rw [hml]; rfl) (Steps.refl _) (argsL := [(.ref a160)]) (rest := []) (lenOf own_pd14 rfl) rfl (by show 2 * 0 + _ ≤ _; exact Nat.le_of_eq rfl) (hb hby d11_57) (fun _ _ => ⟨rfl, e160, (by decide : 7 + 0 ≤ _), (by decide : 45 + 0 ≤ _)⟩)
  dsimp only [Pt.U, Pt.locs, Pt.cells, Pt.slots] at X162 l162 y162 z162 st162 hQ162
  subst l162 y162 z162
  obtain ⟨rfl, N162q, e162⟩ := hQ162
  have N162 := Fr.app N158 N162q
  refine own_goW (U' := T162.setTop (mkF m 60 #[.val (.ref a0), .val (.ref a1), .val .null, .val (.int (2 : Int32)), .val (.ref el1)] [(.int (0 : Int32))])) (fun _ k => st162.trans k) ?_
  refine own_goW (U' := T162.setTop (mkF m 64 #[.val (.ref a0), .val (.ref a1), .val .null, .val (.int (2 : Int32)), .val (.ref el1)] [(.ref a0)])) (fun _ k => XS.ifNo X162.here hx rfl (hb hby d11_60) rfl ((if0 _ _).trans (teq (by decide : ((0 : Int32) = (0 : Int32)))).2) (XS.aloadN X162.here hx rfl (hb hby d11_63) rfl rfl k)) ?_
  obtain ⟨T163, X163, e163, st163⟩ := getF X162 hx hZ hown (host := "") (Or.inl (hw _ (own_mem 68 rfl))) Via.refl e162 c160_1 (g := (mkF m 64 #[.val (.ref a0), .val (.ref a1), .val .null, .val (.int (2 : Int32)), .val (.ref el1)] [(.ref a0)])) rfl rfl (hb hby d11_64)
  refine own_goW (U' := T163.setTop (mkF m 67 #[.val (.ref a0), .val (.ref a1), .val .null, .val (.int (2 : Int32)), .val (.ref el1)] [(.ref b142)])) (fun _ k => st163 _ k) ?_
  refine own_goW (U' := T163.setTop (mkF m 69 #[.val (.ref a0), .val (.ref a1), .val .null, .val (.int (2 : Int32)), .val (.ref el1)] [(.ref el1), (.ref b142)])) (fun _ k => XS.aload X163.here hx rfl (hb hby d11_67) rfl rfl k) ?_
  obtain ⟨cq164, kq164, q164a, q164b, q164c⟩ := isOf hZ e163 c160_13
  obtain ⟨_, _, ⟨T164, L164, k164, n164⟩, -, X164, ⟨Lc164, hQ164, l164, y164, z164⟩, st164⟩ := X163.interfaceBack hx (xi := (⟨"java/util/List", "add", "(Ljava/lang/Object;)Z"⟩ : MethodName)) (y := (⟨"java/util/ArrayList", "add", "(Ljava/lang/Object;)Z"⟩ : MethodName)) hown (mvT hZ (hw _ (own_mem 180 rfl))) (mvT hZ (hw _ (own_mem 106 rfl))) (mvT hZ (hw _ (own_mem 107 rfl))) (mvT hZ (hw _ (own_mem 108 rfl))) (mvT hZ (hw _ (own_mem 109 rfl))) (mvT hZ (hw _ (own_mem 110 rfl))) (mvT hZ (hw _ (own_mem 111 rfl))) (mvT hZ (hw _ (own_mem 95 rfl))) (by decide) (backOf (W := 0) (rm16s l Z aw hw [] b142 el1 r155 kr155 (1 : Int32) (1 : Int32) [(.ref el0), .null, .null, .null, .null, .null, .null, .null, .null, .null] h160 n0 Z160 (Ins.of_exa c160_11 (hw _ (own_mem 133 rfl))) c160_13 c160_17 c160_18 c160_19 c160_20 (by first | assumption | decide | rfl) (by first | assumption | decide | rfl) (by first | assumption | decide | rfl) (by first | assumption | decide | rfl) (by first | assumption | decide | rfl) (by first | assumption | decide | rfl) (by first | assumption | decide | rfl) (by first | assumption | decide | rfl)) hZ (hw _ (own_mem 112 rfl)) (hw _ (own_mem 37 rfl)) (by decide) (by decide)) q164a q164b q164c (g := (mkF m 69 #[.val (.ref a0), .val (.ref a1), .val .null, .val (.int (2 : Int32)), .val (.ref el1)] [(.ref el1), (.ref b142)])) rfl (by rw [hml]; rfl) (Steps.refl _) (argsL := [(.ref el1)]) (rest := []) (lenOf own_pd15 rfl) rfl (by show 2 * 0 + _ ≤ _; exact Nat.le_of_eq rfl) (hb hby d11_69) (fun _ _ => ⟨rfl, e163, (by decide : 7 + 0 ≤ _), (by decide : 45 + 0 ≤ _)⟩)
  dsimp only [Pt.U, Pt.locs, Pt.cells, Pt.slots] at X164 l164 y164 z164 st164 hQ164
  subst l164 y164 z164
  obtain ⟨rfl, N164q, K164q, xE164, xS164, xD164, xM164, xV164⟩ := hQ164
  have N164 := Fr.app N162 N164q
  have ne_a160_b142 : a160 ≠ b142 := Exa.ne Ex160 c160_13 (by decide)
  have ne_a160_r155 : a160 ≠ r155 := Exa.neArv Ex160 c160_20 (hw _ (own_mem 19 rfl))
  have c164_0 := c160_0.keep K164q
  have c164_1 := c160_1.keep K164q (ninS ne_a0_b142 (ninS ne_a0_r155 nin0))
  have c164_2 := c160_2.keep K164q (ninS ne_a0_b142 (ninS ne_a0_r155 nin0))
  have c164_3 := own_sta_keepX c160_3 K164q (allS c160_13.nostat (allS c160_20.nostat all0))
  have c164_4 := own_sta_keepX c160_4 K164q (allS c160_13.nostat (allS c160_20.nostat all0))
  have c164_5 := c160_5.keep K164q (ninS ne_w_b142 (ninS ne_w_r155 nin0))
  have c164_6 := c160_6.keep K164q
  have c164_7 := c160_7.keep K164q (ninS ne_a1_b142 (ninS ne_a1_r155 nin0))
  have c164_8 := c160_8.keep K164q (ninS ne_a1_b142 (ninS ne_a1_r155 nin0))
  have c164_9 := c160_9.keep K164q (ninS ne_arr_b142 (ninS ne_arr_r155 nin0))
  have c164_10 := c160_10.keep K164q
  have c164_11 := c160_11.keep K164q
  have c164_12 := c160_12.keep K164q
  have c164_13 := c160_13.keep K164q
  have c164_14 := c160_14.keep K164q
  have c164_15 := c160_15.keep K164q
  have c164_16 := own_ins_keep c160_16 K164q
  have c164_21 := Ex160.keep K164q
  have c164_22 := CHr.trans CR160 (CHr.keep K164q (allS (Safe.exa hZ.alike c160_13 (by decide) (by decide)) (allS (own_safe_arv hZ.alike c160_20 (by decide)) all0)) CR160.1)
  have c164_23 : k160 ≤ T164.heap.size := Nat.le_trans hk160 K164q.1
  have c164_24 := own_ins_keep (Ins.of_exa c160_11 (hw _ (own_mem 133 rfl))) K164q
  have nf165 : Fld Z T164.heap b142 "java/util/ArrayList" "size" "I" (.int (2 : Int32)) := xS164
  have nf166 : Fld Z T164.heap b142 "java/util/AbstractList" "modCount" "I" (.int (2 : Int32)) := xM164
  have nl164 : Arv Z T164.heap r155 kr155 (.object "java/lang/Object") (10 : Int32) [(.ref el0), (.ref el1), .null, .null, .null, .null, .null, .null, .null, .null] .null := xV164
  have Z164 : n0 ≤ T164.heap.size := Nat.le_trans Z160 K164q.1
  have K164 := Keep.trans K160 K164q (allS (Or.inr sz_b142) (allS (Or.inr sz_r155) all0))
  refine own_goW (U' := T164.setTop (mkF m 74 #[.val (.ref a0), .val (.ref a1), .val .null, .val (.int (2 : Int32)), .val (.ref el1)] [(.int (1 : Int32))])) (fun _ k => st164.trans k) ?_
  refine own_goW (U' := T164.setTop (mkF m 30 #[.val (.ref a0), .val (.ref a1), .val .null, .val (.int (2 : Int32)), .val (.ref el1)] [(.ref a1), (.int (2 : Int32))])) (fun _ k => XS.pop X164.here hx rfl (hb hby d11_74) rfl rfl (XS.goto X164.here hx rfl (pc0 := 75) (pc' := 28) rfl (hb hby d11_75) (by decide) (by decide) (XS.iloadN X164.here hx rfl (hb hby d11_28) rfl (XS.aloadN X164.here hx rfl (hb hby d11_29) rfl rfl k)))) ?_
  obtain ⟨cq167, kq167, q167a, q167b, q167c⟩ := isOf hZ rfl c164_6
  obtain ⟨_, _, ⟨T167, L167, k167, n167⟩, -, X167, ⟨Lc167, hQ167, l167, y167, z167⟩, st167⟩ := X164.interfaceBack hx (xi := (⟨"java/util/List", "size", "()I"⟩ : MethodName)) (y := (⟨"java/util/ArrayList", "size", "()I"⟩ : MethodName)) hown (mvT hZ (hw _ (own_mem 88 rfl))) (mvT hZ (hw _ (own_mem 89 rfl))) (mvT hZ (hw _ (own_mem 90 rfl))) (mvT hZ (hw _ (own_mem 91 rfl))) (mvT hZ (hw _ (own_mem 92 rfl))) (mvT hZ (hw _ (own_mem 93 rfl))) (mvT hZ (hw _ (own_mem 94 rfl))) (mvT hZ (hw _ (own_mem 95 rfl))) (by decide) (backOf (W := 1) (rm14 l Z aw hw [] a1 (3 : Int32) T164.heap n0 Z164 c164_7) hZ (hw _ (own_mem 96 rfl)) (hw _ (own_mem 37 rfl)) (by decide) (by decide)) q167a q167b q167c (g := (mkF m 30 #[.val (.ref a0), .val (.ref a1), .val .null, .val (.int (2 : Int32)), .val (.ref el1)] [(.ref a1), (.int (2 : Int32))])) rfl (by rw [hml]; rfl) (Steps.refl _) (argsL := []) (rest := [(.int (2 : Int32))]) (lenOf own_pd5 rfl) rfl (by show 2 * 0 + _ ≤ _; exact Nat.le_of_eq rfl) (hb hby d11_30) (fun _ _ => ⟨rfl, rfl, (by decide : 7 + 0 ≤ _), (by decide : 45 + 0 ≤ _)⟩)
  dsimp only [Pt.U, Pt.locs, Pt.cells, Pt.slots] at X167 l167 y167 z167 st167 hQ167
  subst l167 y167 z167
  obtain ⟨rfl, N167q, e167⟩ := hQ167
  have N167 := Fr.app N164 N167q
  refine own_goW (U' := T167.setTop (mkF m 35 #[.val (.ref a0), .val (.ref a1), .val .null, .val (.int (2 : Int32)), .val (.ref el1)] [(.int (3 : Int32)), (.int (2 : Int32))])) (fun _ k => st167.trans k) ?_
  refine own_goW (U' := T167.setTop (mkF m 40 #[.val (.ref a0), .val (.ref a1), .val .null, .val (.int (2 : Int32)), .val (.ref el1)] [(.int (2 : Int32)), (.ref a1)])) (fun _ k => XS.icmpNo X167.here hx rfl (hb hby d11_35) rfl (tlt (by decide : ((2 : Int32) < (3 : Int32)))).2.1 (XS.aloadN X167.here hx rfl (hb hby d11_38) rfl rfl (XS.iloadN X167.here hx rfl (hb hby d11_39) rfl k))) ?_
  obtain ⟨cq168, kq168, q168a, q168b, q168c⟩ := isOf hZ e167 c164_6
  obtain ⟨_, _, ⟨T168, L168, k168, n168⟩, -, X168, ⟨Lc168, hQ168, l168, y168, z168⟩, st168⟩ := X167.interfaceBack hx (xi := (⟨"java/util/List", "get", "(I)Ljava/lang/Object;"⟩ : MethodName)) (y := (⟨"java/util/ArrayList", "get", "(I)Ljava/lang/Object;"⟩ : MethodName)) hown (mvT hZ (hw _ (own_mem 137 rfl))) (mvT hZ (hw _ (own_mem 138 rfl))) (mvT hZ (hw _ (own_mem 139 rfl))) (mvT hZ (hw _ (own_mem 140 rfl))) (mvT hZ (hw _ (own_mem 141 rfl))) (mvT hZ (hw _ (own_mem 142 rfl))) (mvT hZ (hw _ (own_mem 143 rfl))) (mvT hZ (hw _ (own_mem 95 rfl))) (by decide) (backOf (W := 0) (rm20 l Z aw hw [] a1 (2 : Int32) (3 : Int32) arr k1 [(.ref el0), (.ref el1), (.ref el2), .null, .null, .null, .null, .null, .null, .null] el2 T164.heap n0 Z164 c164_6 c164_7 c164_8 c164_9 (by first | assumption | decide | rfl) (by first | assumption | decide | rfl) (by first | assumption | decide | rfl) (by first | assumption | decide | rfl)) hZ (hw _ (own_mem 144 rfl)) (hw _ (own_mem 37 rfl)) (by decide) (by decide)) q168a q168b q168c (g := (mkF m 40 #[.val (.ref a0), .val (.ref a1), .val .null, .val (.int (2 : Int32)), .val (.ref el1)] [(.int (2 : Int32)), (.ref a1)])) rfl (by rw [hml]; rfl) (Steps.refl _) (argsL := [(.int (2 : Int32))]) (rest := []) (lenOf own_pd9 rfl) rfl (by show 2 * 0 + _ ≤ _; exact Nat.le_of_eq rfl) (hb hby d11_40) (fun _ _ => ⟨rfl, e167, (by decide : 7 + 0 ≤ _), (by decide : 45 + 0 ≤ _)⟩)
  dsimp only [Pt.U, Pt.locs, Pt.cells, Pt.slots] at X168 l168 y168 z168 st168 hQ168
  subst l168 y168 z168
  obtain ⟨rfl, N168q, e168⟩ := hQ168
  have N168 := Fr.app N167 N168q
  refine own_goW (U' := T168.setTop (mkF m 45 #[.val (.ref a0), .val (.ref a1), .val .null, .val (.int (2 : Int32)), .val (.ref el1)] [(.ref el2)])) (fun _ k => st168.trans k) ?_
  obtain ⟨T169, X169, e169, st169⟩ := castY X168 hx hZ hown (hw _ (own_mem 158 rfl)) e168 (Ins.self c164_12) (g := (mkF m 45 #[.val (.ref a0), .val (.ref a1), .val .null, .val (.int (2 : Int32)), .val (.ref el1)] [(.ref el2)])) rfl rfl (hb hby d11_45)
  refine own_goW (U' := T169.setTop (mkF m 48 #[.val (.ref a0), .val (.ref a1), .val .null, .val (.int (2 : Int32)), .val (.ref el1)] [(.ref el2)])) (fun _ k => st169 _ k) ?_
  refine own_goW (U' := T169.setTop (mkF m 55 #[.val (.ref a0), .val (.ref a1), .val .null, .val (.int (3 : Int32)), .val (.ref el2)] [(.ref el2)])) (fun _ k => XS.astore X169.here hx rfl (hb hby d11_48) rfl rfl (l' := #[.val (.ref a0), .val (.ref a1), .val .null, .val (.int (2 : Int32)), .val (.ref el2)]) rfl (XS.iinc X169.here hx rfl (hb hby d11_50) rfl (l' := #[.val (.ref a0), .val (.ref a1), .val .null, .val (.int (3 : Int32)), .val (.ref el2)]) rfl (XS.aload X169.here hx rfl (hb hby d11_53) rfl rfl k))) ?_
  obtain ⟨a170, T170, h170, k170, b170, kc170, X170, e170, E170, hS170, hk170, hZ, hown, Ex170, Fc170, Fv170, Vb170, -, -, CH170, -, -, st170⟩ := ldcCH (s := s) (vm0 := T160.vm) X169 hx hZ hown (hw _ (own_mem 159 rfl)) (own_wS hw) e169 hS160 c164_23 (own_EW hw) (by decide) c164_22.1 (z := (2 : Int32)) own_text159 (by decide) rfl (g := (mkF m 55 #[.val (.ref a0), .val (.ref a1), .val .null, .val (.int (3 : Int32)), .val (.ref el2)] [(.ref el2)])) rfl (hb hby d11_55) (n := 8) (by decide) (by decide) (by decide) (by decide)
  have c170_0 := c164_0.ext E170
  have c170_1 := c164_1.ext E170
  have c170_2 := c164_2.ext E170
  have c170_3 := c164_3.ext E170
  have c170_4 := c164_4.ext E170
  have c170_5 := c164_5.ext E170
  have c170_6 := c164_6.ext E170
  have c170_7 := c164_7.ext E170
  have c170_8 := c164_8.ext E170
  have c170_9 := c164_9.ext E170
  have c170_10 := c164_10.ext E170
  have c170_11 := c164_11.ext E170
  have c170_12 := c164_12.ext E170
  have c170_13 := xE164.ext E170
  have c170_14 := c164_14.ext E170
  have c170_15 := c164_15.ext E170
  have c170_16 := c164_16.ext E170
  have c170_17 := c164_21.ext E170
  have c170_18 := c164_24.ext E170
  have c170_19 := nf165.ext E170
  have c170_20 := xD164.ext E170
  have c170_21 := nf166.ext E170
  have c170_22 := nl164.ext E170
  have Z170 : n0 ≤ h170.size := Nat.le_trans Z164 E170.1
  have K170 := Keep.ext K164 E170
  have CR170 := CHr.trans c164_22 CH170
  refine own_goW (U' := T170.setTop (mkF m 57 #[.val (.ref a0), .val (.ref a1), .val .null, .val (.int (3 : Int32)), .val (.ref el2)] [(.ref a170), (.ref el2)])) (fun _ k => st170 _ k) ?_
  have hO171 : own_S Z h170 el2 := own_S.keepA hw S_2 K170 E_t
  obtain ⟨cq172, kq172, q172a, q172b, q172c⟩ := isOf hZ e170 c170_12
  obtain ⟨_, _, ⟨T172, L172, k172, n172⟩, -, X172, ⟨Lc172, hQ172, l172, y172, z172⟩, st172⟩ := X170.virtualBack hx (y := (⟨"java/lang/String", "startsWith", "(Ljava/lang/String;)Z"⟩ : MethodName)) (z := (⟨"java/lang/String", "startsWith", "(Ljava/lang/String;)Z"⟩ : MethodName)) hown (mvT hZ (hw _ (own_mem 160 rfl))) (mvT hZ (hw _ (own_mem 161 rfl))) (notFace_of_selects (args := #[]) (mvT hZ (hw _ (own_mem 163 rfl)))) (mvT hZ (hw _ (own_mem 163 rfl))) (mvT hZ (hw _ (own_mem 162 rfl))) (by decide) (backOf (W := 0) (rm24 l Z aw hw [] el2 a170 cs b170 kc170 h170 n0 Z170 c170_3 c170_12 Ex170 Fc170 Fv170 Vb170 (by first | assumption | decide | rfl) (by first | assumption | decide | rfl)) hZ (hw _ (own_mem 164 rfl)) (hw _ (own_mem 11 rfl)) (by decide) (by decide)) q172a q172c (g := (mkF m 57 #[.val (.ref a0), .val (.ref a1), .val .null, .val (.int (3 : Int32)), .val (.ref el2)] [(.ref a170), (.ref el2)])) rfl (by rw [hml]; rfl) (Steps.refl _) (argsL := [(.ref a170)]) (rest := []) (lenOf own_pd14 rfl) rfl (by show 2 * 0 + _ ≤ _; exact Nat.le_of_eq rfl) (hb hby d11_57) (fun _ _ => ⟨rfl, e170, (by decide : 9 + 0 ≤ _), (by decide : 57 + 0 ≤ _)⟩)
  dsimp only [Pt.U, Pt.locs, Pt.cells, Pt.slots] at X172 l172 y172 z172 st172 hQ172
  subst l172 y172 z172
  obtain ⟨rfl, N172q, e172⟩ := hQ172
  have N172 := Fr.app N168 N172q
  refine own_goW (U' := T172.setTop (mkF m 60 #[.val (.ref a0), .val (.ref a1), .val .null, .val (.int (3 : Int32)), .val (.ref el2)] [(.int (0 : Int32))])) (fun _ k => st172.trans k) ?_
  refine own_goW (U' := T172.setTop (mkF m 64 #[.val (.ref a0), .val (.ref a1), .val .null, .val (.int (3 : Int32)), .val (.ref el2)] [(.ref a0)])) (fun _ k => XS.ifNo X172.here hx rfl (hb hby d11_60) rfl ((if0 _ _).trans (teq (by decide : ((0 : Int32) = (0 : Int32)))).2) (XS.aloadN X172.here hx rfl (hb hby d11_63) rfl rfl k)) ?_
  obtain ⟨T173, X173, e173, st173⟩ := getF X172 hx hZ hown (host := "") (Or.inl (hw _ (own_mem 68 rfl))) Via.refl e172 c170_1 (g := (mkF m 64 #[.val (.ref a0), .val (.ref a1), .val .null, .val (.int (3 : Int32)), .val (.ref el2)] [(.ref a0)])) rfl rfl (hb hby d11_64)
  refine own_goW (U' := T173.setTop (mkF m 67 #[.val (.ref a0), .val (.ref a1), .val .null, .val (.int (3 : Int32)), .val (.ref el2)] [(.ref b142)])) (fun _ k => st173 _ k) ?_
  refine own_goW (U' := T173.setTop (mkF m 69 #[.val (.ref a0), .val (.ref a1), .val .null, .val (.int (3 : Int32)), .val (.ref el2)] [(.ref el2), (.ref b142)])) (fun _ k => XS.aload X173.here hx rfl (hb hby d11_67) rfl rfl k) ?_
  obtain ⟨cq174, kq174, q174a, q174b, q174c⟩ := isOf hZ e173 c170_13
  obtain ⟨_, _, ⟨T174, L174, k174, n174⟩, -, X174, ⟨Lc174, hQ174, l174, y174, z174⟩, st174⟩ := X173.interfaceBack hx (xi := (⟨"java/util/List", "add", "(Ljava/lang/Object;)Z"⟩ : MethodName)) (y := (⟨"java/util/ArrayList", "add", "(Ljava/lang/Object;)Z"⟩ : MethodName)) hown (mvT hZ (hw _ (own_mem 180 rfl))) (mvT hZ (hw _ (own_mem 106 rfl))) (mvT hZ (hw _ (own_mem 107 rfl))) (mvT hZ (hw _ (own_mem 108 rfl))) (mvT hZ (hw _ (own_mem 109 rfl))) (mvT hZ (hw _ (own_mem 110 rfl))) (mvT hZ (hw _ (own_mem 111 rfl))) (mvT hZ (hw _ (own_mem 95 rfl))) (by decide) (backOf (W := 0) (rm16s l Z aw hw [] b142 el2 r155 kr155 (2 : Int32) (2 : Int32) [(.ref el0), (.ref el1), .null, .null, .null, .null, .null, .null, .null, .null] h170 n0 Z170 (Ins.of_exa c170_12 (hw _ (own_mem 133 rfl))) c170_13 c170_19 c170_20 c170_21 c170_22 (by first | assumption | decide | rfl) (by first | assumption | decide | rfl) (by first | assumption | decide | rfl) (by first | assumption | decide | rfl) (by first | assumption | decide | rfl) (by first | assumption | decide | rfl) (by first | assumption | decide | rfl) (by first | assumption | decide | rfl)) hZ (hw _ (own_mem 112 rfl)) (hw _ (own_mem 37 rfl)) (by decide) (by decide)) q174a q174b q174c (g := (mkF m 69 #[.val (.ref a0), .val (.ref a1), .val .null, .val (.int (3 : Int32)), .val (.ref el2)] [(.ref el2), (.ref b142)])) rfl (by rw [hml]; rfl) (Steps.refl _) (argsL := [(.ref el2)]) (rest := []) (lenOf own_pd15 rfl) rfl (by show 2 * 0 + _ ≤ _; exact Nat.le_of_eq rfl) (hb hby d11_69) (fun _ _ => ⟨rfl, e173, (by decide : 9 + 0 ≤ _), (by decide : 57 + 0 ≤ _)⟩)
  dsimp only [Pt.U, Pt.locs, Pt.cells, Pt.slots] at X174 l174 y174 z174 st174 hQ174
  subst l174 y174 z174
  obtain ⟨rfl, N174q, K174q, xE174, xS174, xD174, xM174, xV174⟩ := hQ174
  have N174 := Fr.app N172 N174q
  have ne_a170_b142 : a170 ≠ b142 := Exa.ne Ex170 c170_13 (by decide)
  have ne_a170_r155 : a170 ≠ r155 := Exa.neArv Ex170 c170_22 (hw _ (own_mem 19 rfl))
  have c174_0 := c170_0.keep K174q
  have c174_1 := c170_1.keep K174q (ninS ne_a0_b142 (ninS ne_a0_r155 nin0))
  have c174_2 := c170_2.keep K174q (ninS ne_a0_b142 (ninS ne_a0_r155 nin0))
  have c174_3 := own_sta_keepX c170_3 K174q (allS c170_13.nostat (allS c170_22.nostat all0))
  have c174_4 := own_sta_keepX c170_4 K174q (allS c170_13.nostat (allS c170_22.nostat all0))
  have c174_5 := c170_5.keep K174q (ninS ne_w_b142 (ninS ne_w_r155 nin0))
  have c174_6 := c170_6.keep K174q
  have c174_7 := c170_7.keep K174q (ninS ne_a1_b142 (ninS ne_a1_r155 nin0))
  have c174_8 := c170_8.keep K174q (ninS ne_a1_b142 (ninS ne_a1_r155 nin0))
  have c174_9 := c170_9.keep K174q (ninS ne_arr_b142 (ninS ne_arr_r155 nin0))
  have c174_10 := c170_10.keep K174q
  have c174_11 := c170_11.keep K174q
  have c174_12 := c170_12.keep K174q
  have c174_13 := c170_13.keep K174q
  have c174_14 := c170_14.keep K174q
  have c174_15 := c170_15.keep K174q
  have c174_16 := own_ins_keep c170_16 K174q
  have c174_17 := c170_17.keep K174q
  have c174_18 := own_ins_keep c170_18 K174q
  have c174_23 := Ex170.keep K174q
  have c174_24 := CHr.trans CR170 (CHr.keep K174q (allS (Safe.exa hZ.alike c170_13 (by decide) (by decide)) (allS (own_safe_arv hZ.alike c170_22 (by decide)) all0)) CR170.1)
  have c174_25 : k170 ≤ T174.heap.size := Nat.le_trans hk170 K174q.1
  have c174_26 := own_ins_keep (Ins.of_exa c170_12 (hw _ (own_mem 133 rfl))) K174q
  have nf175 : Fld Z T174.heap b142 "java/util/ArrayList" "size" "I" (.int (3 : Int32)) := xS174
  have nf176 : Fld Z T174.heap b142 "java/util/AbstractList" "modCount" "I" (.int (3 : Int32)) := xM174
  have nl174 : Arv Z T174.heap r155 kr155 (.object "java/lang/Object") (10 : Int32) [(.ref el0), (.ref el1), (.ref el2), .null, .null, .null, .null, .null, .null, .null] .null := xV174
  have Z174 : n0 ≤ T174.heap.size := Nat.le_trans Z170 K174q.1
  have K174 := Keep.trans K170 K174q (allS (Or.inr sz_b142) (allS (Or.inr sz_r155) all0))
  refine own_goW (U' := T174.setTop (mkF m 74 #[.val (.ref a0), .val (.ref a1), .val .null, .val (.int (3 : Int32)), .val (.ref el2)] [(.int (1 : Int32))])) (fun _ k => st174.trans k) ?_
  refine own_goW (U' := T174.setTop (mkF m 30 #[.val (.ref a0), .val (.ref a1), .val .null, .val (.int (3 : Int32)), .val (.ref el2)] [(.ref a1), (.int (3 : Int32))])) (fun _ k => XS.pop X174.here hx rfl (hb hby d11_74) rfl rfl (XS.goto X174.here hx rfl (pc0 := 75) (pc' := 28) rfl (hb hby d11_75) (by decide) (by decide) (XS.iloadN X174.here hx rfl (hb hby d11_28) rfl (XS.aloadN X174.here hx rfl (hb hby d11_29) rfl rfl k)))) ?_
  obtain ⟨cq177, kq177, q177a, q177b, q177c⟩ := isOf hZ rfl c174_6
  obtain ⟨_, _, ⟨T177, L177, k177, n177⟩, -, X177, ⟨Lc177, hQ177, l177, y177, z177⟩, st177⟩ := X174.interfaceBack hx (xi := (⟨"java/util/List", "size", "()I"⟩ : MethodName)) (y := (⟨"java/util/ArrayList", "size", "()I"⟩ : MethodName)) hown (mvT hZ (hw _ (own_mem 88 rfl))) (mvT hZ (hw _ (own_mem 89 rfl))) (mvT hZ (hw _ (own_mem 90 rfl))) (mvT hZ (hw _ (own_mem 91 rfl))) (mvT hZ (hw _ (own_mem 92 rfl))) (mvT hZ (hw _ (own_mem 93 rfl))) (mvT hZ (hw _ (own_mem 94 rfl))) (mvT hZ (hw _ (own_mem 95 rfl))) (by decide) (backOf (W := 1) (rm14 l Z aw hw [] a1 (3 : Int32) T174.heap n0 Z174 c174_7) hZ (hw _ (own_mem 96 rfl)) (hw _ (own_mem 37 rfl)) (by decide) (by decide)) q177a q177b q177c (g := (mkF m 30 #[.val (.ref a0), .val (.ref a1), .val .null, .val (.int (3 : Int32)), .val (.ref el2)] [(.ref a1), (.int (3 : Int32))])) rfl (by rw [hml]; rfl) (Steps.refl _) (argsL := []) (rest := [(.int (3 : Int32))]) (lenOf own_pd5 rfl) rfl (by show 2 * 0 + _ ≤ _; exact Nat.le_of_eq rfl) (hb hby d11_30) (fun _ _ => ⟨rfl, rfl, (by decide : 9 + 0 ≤ _), (by decide : 57 + 0 ≤ _)⟩)
  dsimp only [Pt.U, Pt.locs, Pt.cells, Pt.slots] at X177 l177 y177 z177 st177 hQ177
  subst l177 y177 z177
  obtain ⟨rfl, N177q, e177⟩ := hQ177
  have N177 := Fr.app N174 N177q
  refine own_goW (U' := T177.setTop (mkF m 35 #[.val (.ref a0), .val (.ref a1), .val .null, .val (.int (3 : Int32)), .val (.ref el2)] [(.int (3 : Int32)), (.int (3 : Int32))])) (fun _ k => st177.trans k) ?_
  refine own_goW (U' := T177.setTop (mkF m 174 #[.val (.ref a0), .val (.ref a1), .val .null, .val (.int (3 : Int32)), .val (.ref el2)] [])) (fun _ k => XS.icmpYes X177.here hx rfl (pc0 := 35) (pc' := 174) rfl (hb hby d11_35) rfl (flt (by decide : ¬ ((3 : Int32) < (3 : Int32)))).2.1 (by decide) (by decide) k) ?_
  refine own_retW (vm₁ := T170.vm) X177 hS170 (by rw [show T177.heap = T174.heap from e177]; exact c174_25) (by rw [hh, show T177.heap = T174.heap from e177]; exact CHr.trans c174_24 (CHv.at (s := s) (vm0 := T170.vm) X177 hZ (own_EW hw) c174_24.1)) (v := none) hlk (fun _ => rfl) (by decide) (by decide) (fun fs hr => X177.returnOut hx Bd.returns (hb hby d11_174) hr) ?_
  show (Q11_3 Z a0 a1 cs w k0 arr k1 el0 el1 el2 h0 n0) _ T177.heap _
  rw [e177]
  exact ⟨rfl, N177, K174, c174_0, ⟨_, sz_b142, c174_1, xE174, nf175, ⟨_, _, xD174, nl174⟩⟩⟩
theorem own_ef11_4 (m : MethodId) (x0 : Addr) (x1 : Addr) : entryFrame m #[(.ref x0), (.ref x1), .null] 5 = mkF m 0 #[.val (.ref x0), .val (.ref x1), .val .null, .unset, .unset] [] := by first | (simp [entryFrame, mkF, argsToLocals, Value.category]; done) | rfl
def Q11_4 (Z : State) (a0 : Addr) (a1 : Addr) (cs : Int32) (w : Addr) (k0 : ClassId) (arr : Addr) (k1 : ClassId) (el0 : Addr) (el1 : Addr) (el2 : Addr) (el3 : Addr) (h0 : Heap) (n0 : Nat) (v : Option Value) (h : Heap) (L : List Loc) : Prop := v = none ∧ Fr n0 L ∧ Keep h0 h [a0] ∧ Exa Z h a0 "com/example/hashtory/hashtory/Arguments" ∧ ∃ pl : Addr, h0.size ≤ pl ∧ Fld Z h a0 "com/example/hashtory/hashtory/Arguments" "positionals" "Ljava/util/List;" (.ref pl) ∧ Exa Z h pl "java/util/ArrayList" ∧ Fld Z h pl "java/util/ArrayList" "size" "I" (.int (4 : Int32)) ∧ ∃ (pa : Addr) (k : ClassId), Fld Z h pl "java/util/ArrayList" "elementData" "[Ljava/lang/Object;" (.ref pa) ∧ Arv Z h pa k (.object "java/lang/Object") (10 : Int32) [(.ref el0), (.ref el1), (.ref el2), (.ref el3), .null, .null, .null, .null, .null, .null] .null
set_option maxRecDepth 65536 in
set_option maxHeartbeats 40000000 in
theorem rm11_4 (l : Launch) (Z : State) (aw : Array Value) (hw : ∀ d ∈ tables_1, d.before aw Z = true) (ws : List Jvm.Cond) (a0 : Addr) (a1 : Addr) (cs : Int32) (w : Addr) (k0 : ClassId) (arr : Addr) (k1 : ClassId) (el0 : Addr) (el1 : Addr) (el2 : Addr) (el3 : Addr) (h0 : Heap) (n0 : Nat) (Z0 : n0 ≤ h0.size) (E_t : Exa Z h0 a0 "com/example/hashtory/hashtory/Arguments") (F_p : Fld Z h0 a0 "com/example/hashtory/hashtory/Arguments" "positionals" "Ljava/util/List;" .null) (F_o : Fld Z h0 a0 "com/example/hashtory/hashtory/Arguments" "options" "Ljava/util/Map;" .null) (S_cs : Sta Z h0 "java/lang/String" "COMPACT_STRINGS" "Z" (.int cs)) (S_df : Sta Z h0 "java/util/ArrayList" "DEFAULTCAPACITY_EMPTY_ELEMENTDATA" "[Ljava/lang/Object;" (.ref w)) (V_w : Arv Z h0 w k0 (.object "java/lang/Object") (0 : Int32) [] .null) (E_l : Exa Z h0 a1 "java/util/ArrayList") (F_l : Fld Z h0 a1 "java/util/ArrayList" "size" "I" (.int (4 : Int32))) (F_x : Fld Z h0 a1 "java/util/ArrayList" "elementData" "[Ljava/lang/Object;" (.ref arr)) (V_x : Arv Z h0 arr k1 (.object "java/lang/Object") (10 : Int32) [(.ref el0), (.ref el1), (.ref el2), (.ref el3), .null, .null, .null, .null, .null, .null] .null) (E_0 : Exa Z h0 el0 "java/lang/String") (E_1 : Exa Z h0 el1 "java/lang/String") (E_2 : Exa Z h0 el2 "java/lang/String") (E_3 : Exa Z h0 el3 "java/lang/String") (g_a0 : n0 ≤ a0) (hcs : ¬ (cs = (0 : Int32))) (S_0 : own_S Z h0 el0) (S_1 : own_S Z h0 el1) (S_2 : own_S Z h0 el2) (S_3 : own_S Z h0 el3) :
    MetFree l (⟨"com/example/hashtory/hashtory/Arguments", "<init>", "(Ljava/util/List;Ljava/util/Set;)V"⟩ : MethodName) (head1 (Jvm.Cond.code (⟨"com/example/hashtory/hashtory/Arguments", "<init>", "(Ljava/util/List;Ljava/util/Set;)V"⟩ : MethodName) prog_1_method_1_code 5 none :: ws) ({ frames := 5, cells := 11, slots := 69, locals := 69 } : Room)) (fun a U => a = #[(.ref a0), (.ref a1), .null] ∧ Z.Warmed39 U.vm ∧ U.heap = h0 ∧ CHv Z own_EL U.vm h0) (fun _ _ _ _ _ => True) (fun _ U o U' => ∃ v L, o = .returned v ∧ (Q11_4 Z a0 a1 cs w k0 arr k1 el0 el1 el2 el3 h0 n0) v U'.heap L ∧ CHr Z own_EL U.vm U.heap U'.vm U'.heap ∧ ReturnedEndW U o U' L ({ frames := 5, cells := 11, slots := 69, locals := 69 } : Room).cells ({ frames := 5, cells := 11, slots := 69, locals := 69 } : Room).slots) := by
  refine MetFree.of_bodySF (plainFor_of_name own_pn10) hisR ?_
  intro p e s m args below meth c s₁ Bd hml0 hP hK
  obtain ⟨rfl, hZ, hh, hCH⟩ := hP
  have hx := Bd.exec
  have hby := Bd.bytes
  have hml : c.maxLocals = 5 := hml0
  have hown : s.vm.findClass "com/example/hashtory/hashtory/Arguments" = some m.cls := findClass_of_methodNamed Bd.named
  have hnm := (name_of_methodNamed Bd.named Bd.method).1
  have hlk : meth.locks = false := BodyLoose.notSynchronized (by assumption)
  have X0 : Stand p l e ({ frames := 5, cells := 11, slots := 69, locals := 69 } : Room) s m #[(.ref a0), (.ref a1), .null] below meth c s₁ [] 0 0 := Stand.of_body Bd
  have e0 : s₁.heap = h0 := by rw [← hh, Bd.state]; rfl
  have N0 := Fr.nil n0
  have hS0 : s.Since s.vm 0 := (State.WarmedH.refl s).since 0
  show own_DoneW p e below s Z own_EL (Q11_4 Z a0 a1 cs w k0 arr k1 el0 el1 el2 el3 h0 n0) ({ frames := 5, cells := 11, slots := 69, locals := 69 } : Room).cells ({ frames := 5, cells := 11, slots := 69, locals := 69 } : Room).slots (s₁.setTop (entryFrame m #[(.ref a0), (.ref a1), .null] 5))
  refine own_goW (U' := s₁.setTop (mkF m 0 #[.val (.ref a0), .val (.ref a1), .val .null, .unset, .unset] [])) (fun _ k => castTop (own_ef11_4 m a0 a1) k) ?_
  have hCR0 := CHr.refl hCH
  have hSz0 : 0 ≤ h0.size := Nat.zero_le _
  refine own_goW (U' := s₁.setTop (mkF m 1 #[.val (.ref a0), .val (.ref a1), .val .null, .unset, .unset] [(.ref a0)])) (fun _ k => XS.aloadN X0.here hx rfl (hb hby d11_0) rfl rfl k) ?_
  obtain ⟨T178, X178, e178, st178⟩ := initO X0 hx hZ hown (hw _ (own_mem 65 rfl)) (hw _ (own_mem 29 rfl)) (hw _ (own_mem 30 rfl)) e0 (g := (mkF m 1 #[.val (.ref a0), .val (.ref a1), .val .null, .unset, .unset] [(.ref a0)])) rfl (by rw [hml]; rfl) rfl (hb hby d11_1) (by decide) (W := 0) (by show 2 * 0 + _ ≤ _; exact Nat.le_of_eq rfl) (by decide)
  refine own_goW (U' := T178.setTop (mkF m 4 #[.val (.ref a0), .val (.ref a1), .val .null, .unset, .unset] [])) (fun _ k => st178 _ k) ?_
  refine own_goW (U' := T178.setTop (mkF m 5 #[.val (.ref a0), .val (.ref a1), .val .null, .unset, .unset] [(.ref a0)])) (fun _ k => XS.aloadN X178.here hx rfl (hb hby d11_4) rfl rfl k) ?_
  obtain ⟨T179, h179, X179, e179, E179, A179, D179, -, st179⟩ := newO X178 hx hZ hown (hw _ (own_mem 66 rfl)) (hw _ (own_mem 36 rfl)) (hw _ (own_mem 37 rfl)) e178 (g := (mkF m 5 #[.val (.ref a0), .val (.ref a1), .val .null, .unset, .unset] [(.ref a0)])) rfl (hb hby d11_5) (by decide) (by decide)
  obtain ⟨b179, g179⟩ : ∃ z, z = h0.size := ⟨_, rfl⟩
  have g_b179 : n0 ≤ b179 := Nat.le_trans Z0 (Nat.le_of_eq g179.symm)
  have sz_b179 : h0.size ≤ b179 := Nat.le_trans (Keep.refl h0 [a0]).1 (Nat.le_of_eq g179.symm)
  have ne_a0_b179 : a0 ≠ b179 := Nat.ne_of_lt (Nat.lt_of_lt_of_le E_t.lt (Nat.le_of_eq g179.symm))
  have ne_w_b179 : w ≠ b179 := Nat.ne_of_lt (Nat.lt_of_lt_of_le V_w.lt (Nat.le_of_eq g179.symm))
  have ne_a1_b179 : a1 ≠ b179 := Nat.ne_of_lt (Nat.lt_of_lt_of_le E_l.lt (Nat.le_of_eq g179.symm))
  have ne_arr_b179 : arr ≠ b179 := Nat.ne_of_lt (Nat.lt_of_lt_of_le V_x.lt (Nat.le_of_eq g179.symm))
  have ne_el0_b179 : el0 ≠ b179 := Nat.ne_of_lt (Nat.lt_of_lt_of_le E_0.lt (Nat.le_of_eq g179.symm))
  have ne_el1_b179 : el1 ≠ b179 := Nat.ne_of_lt (Nat.lt_of_lt_of_le E_1.lt (Nat.le_of_eq g179.symm))
  have ne_el2_b179 : el2 ≠ b179 := Nat.ne_of_lt (Nat.lt_of_lt_of_le E_2.lt (Nat.le_of_eq g179.symm))
  have ne_el3_b179 : el3 ≠ b179 := Nat.ne_of_lt (Nat.lt_of_lt_of_le E_3.lt (Nat.le_of_eq g179.symm))
  rw [← g179] at A179 D179 st179
  have c179_0 := E_t.ext E179
  have c179_1 := F_p.ext E179
  have c179_2 := F_o.ext E179
  have c179_3 := S_cs.ext E179
  have c179_4 := S_df.ext E179
  have c179_5 := V_w.ext E179
  have c179_6 := E_l.ext E179
  have c179_7 := F_l.ext E179
  have c179_8 := F_x.ext E179
  have c179_9 := V_x.ext E179
  have c179_10 := E_0.ext E179
  have c179_11 := E_1.ext E179
  have c179_12 := E_2.ext E179
  have c179_13 := E_3.ext E179
  have c179_14 := CHr.trans hCR0 (CHr.ext E179 hCR0.1)
  have c179_15 : 0 ≤ h179.size := Nat.le_trans hSz0 E179.1
  have Z179 : n0 ≤ h179.size := Nat.le_trans Z0 E179.1
  have K179 := Keep.ext (Keep.refl h0 [a0]) E179
  have F179_55 : Fld Z h179 b179 "java/util/AbstractList" "modCount" "I" (.int (0 : Int32)) := D179 (Or.inl (hw _ (own_mem 55 rfl))) (ty := .int) (by decide)
  have F179_58 : Fld Z h179 b179 "java/util/ArrayList" "elementData" "[Ljava/lang/Object;" .null := D179 (Or.inl (hw _ (own_mem 58 rfl))) (ty := (.array (.object "java/lang/Object"))) (by decide)
  have F179_98 : Fld Z h179 b179 "java/util/ArrayList" "size" "I" (.int (0 : Int32)) := D179 (Or.inl (hw _ (own_mem 98 rfl))) (ty := .int) (by decide)
  refine own_goW (U' := T179.setTop (mkF m 8 #[.val (.ref a0), .val (.ref a1), .val .null, .unset, .unset] [(.ref b179), (.ref a0)])) (fun _ k => st179 _ k) ?_
  refine own_goW (U' := T179.setTop (mkF m 9 #[.val (.ref a0), .val (.ref a1), .val .null, .unset, .unset] [(.ref b179), (.ref b179), (.ref a0)])) (fun _ k => XS.dup X179.here hx rfl (hb hby d11_8) rfl rfl k) ?_
  obtain ⟨_, _, ⟨T180, L180, k180, n180⟩, -, X180, ⟨Lc180, hQ180, l180, y180, z180⟩, st180⟩ := X179.specialBack hx (y := (⟨"java/util/ArrayList", "<init>", "()V"⟩ : MethodName)) rfl hown (mvT hZ (hw _ (own_mem 67 rfl))) (mvT hZ (hw _ (own_mem 39 rfl))) (mvT hZ (hw _ (own_mem 40 rfl))) (by decide) (backOf (W := 2) (rm8 l Z aw hw [] b179 w h179 n0 Z179 c179_4 A179 F179_98 F179_58 F179_55 (by first | assumption | decide | rfl)) hZ (hw _ (own_mem 40 rfl)) (hw _ (own_mem 37 rfl)) (by decide) (by decide)) (g := (mkF m 9 #[.val (.ref a0), .val (.ref a1), .val .null, .unset, .unset] [(.ref b179), (.ref b179), (.ref a0)])) rfl (by rw [hml]; rfl) (Steps.refl _) (a := b179) (argsL := []) (rest := [(.ref b179), (.ref a0)]) (lenOf own_pd10 rfl) rfl (by show 2 * 0 + _ ≤ _; exact Nat.le_of_eq rfl) (hb hby d11_9) (fun _ _ => ⟨rfl, e179, (by decide : 1 + 0 ≤ _), (by decide : 3 + 0 ≤ _)⟩)
  dsimp only [Pt.U, Pt.locs, Pt.cells, Pt.slots] at X180 l180 y180 z180 st180 hQ180
  subst l180 y180 z180
  obtain ⟨rfl, N180q, K180q, xE180, xS180, xD180, xM180⟩ := hQ180
  have N180 := Fr.app N0 N180q
  have c180_0 := c179_0.keep K180q
  have c180_1 := c179_1.keep K180q (ninS ne_a0_b179 nin0)
  have c180_2 := c179_2.keep K180q (ninS ne_a0_b179 nin0)
  have c180_3 := own_sta_keepX c179_3 K180q (allS A179.nostat all0)
  have c180_4 := own_sta_keepX c179_4 K180q (allS A179.nostat all0)
  have c180_5 := c179_5.keep K180q (ninS ne_w_b179 nin0)
  have c180_6 := c179_6.keep K180q
  have c180_7 := c179_7.keep K180q (ninS ne_a1_b179 nin0)
  have c180_8 := c179_8.keep K180q (ninS ne_a1_b179 nin0)
  have c180_9 := c179_9.keep K180q (ninS ne_arr_b179 nin0)
  have c180_10 := c179_10.keep K180q
  have c180_11 := c179_11.keep K180q
  have c180_12 := c179_12.keep K180q
  have c180_13 := c179_13.keep K180q
  have c180_14 := CHr.trans c179_14 (CHr.keep K180q (allS (Safe.exa hZ.alike A179 (by decide) (by decide)) all0) c179_14.1)
  have c180_15 : 0 ≤ T180.heap.size := Nat.le_trans c179_15 K180q.1
  have c180_16 := A179.keep K180q
  have Z180 : n0 ≤ T180.heap.size := Nat.le_trans Z179 K180q.1
  have K180 := Keep.trans K179 K180q (allS (Or.inr sz_b179) all0)
  refine own_goW (U' := T180.setTop (mkF m 12 #[.val (.ref a0), .val (.ref a1), .val .null, .unset, .unset] [(.ref b179), (.ref a0)])) (fun _ k => st180.trans k) ?_
  obtain ⟨T181, h181, X181, e181, W181, st181⟩ := putF X180 hx hZ hown (host := "") (Or.inl (hw _ (own_mem 68 rfl))) Via.refl rfl c180_1 c180_0 (Or.inr ⟨(hw _ (own_mem 69 rfl)), rfl, hnm⟩) (hw _ (own_mem 60 rfl)) (ty := (.object "java/util/List")) (by decide) rfl rfl (g := (mkF m 12 #[.val (.ref a0), .val (.ref a1), .val .null, .unset, .unset] [(.ref b179), (.ref a0)])) rfl rfl (hb hby d11_12)
  have ne_w_a0 : w ≠ a0 := (Exa.neArv c180_0 c180_5 (hw _ (own_mem 60 rfl))).symm
  have ne_a1_a0 : a1 ≠ a0 := Exa.ne c180_6 c180_0 (by decide)
  have ne_arr_a0 : arr ≠ a0 := (Exa.neArv c180_0 c180_9 (hw _ (own_mem 60 rfl))).symm
  have ne_el0_a0 : el0 ≠ a0 := Exa.ne c180_10 c180_0 (by decide)
  have ne_el1_a0 : el1 ≠ a0 := Exa.ne c180_11 c180_0 (by decide)
  have ne_el2_a0 : el2 ≠ a0 := Exa.ne c180_12 c180_0 (by decide)
  have ne_el3_a0 : el3 ≠ a0 := Exa.ne c180_13 c180_0 (by decide)
  have c181_0 := c180_0.wr W181
  have c181_2 := c180_2.other W181 (Or.inr (slot_ne (Or.inr (hw _ (own_mem 87 rfl))) (Or.inr (hw _ (own_mem 69 rfl))) (by decide) (t := (.object "java/util/Map")) (t' := (.object "java/util/List")) (by decide) (by decide)))
  have c181_3 := c180_3.wr W181
  have c181_4 := c180_4.wr W181
  have c181_5 := c180_5.other W181 ne_w_a0
  have c181_6 := c180_6.wr W181
  have c181_7 := c180_7.other W181 (Or.inl ne_a1_a0)
  have c181_8 := c180_8.other W181 (Or.inl ne_a1_a0)
  have c181_9 := c180_9.other W181 ne_arr_a0
  have c181_10 := c180_10.wr W181
  have c181_11 := c180_11.wr W181
  have c181_12 := c180_12.wr W181
  have c181_13 := c180_13.wr W181
  have c181_14 := CHr.trans c180_14 (CHr.wr W181 (Safe.exa hZ.alike c180_0 (by decide) (by decide)) c180_14.1)
  have c181_15 : 0 ≤ h181.size := Nat.le_trans c180_15 (Keep.of_wr W181).1
  have c181_16 := xE180.wr W181
  have c181_17 := xS180.other W181 (Or.inl (Ne.symm ne_a0_b179))
  have c181_18 := xD180.other W181 (Or.inl (Ne.symm ne_a0_b179))
  have c181_19 := xM180.other W181 (Or.inl (Ne.symm ne_a0_b179))
  have w181 : Fld Z h181 a0 "com/example/hashtory/hashtory/Arguments" "positionals" "Ljava/util/List;" (.ref b179) := c180_1.same W181
  have Z181 : n0 ≤ h181.size := Nat.le_trans Z180 (Keep.of_wr W181).1
  have K181 := Keep.wr K180 W181 (Or.inl (by simp))
  have N181 := Fr.snoc X181 N180 g_a0
  refine own_goW (U' := T181.setTop (mkF m 15 #[.val (.ref a0), .val (.ref a1), .val .null, .unset, .unset] [])) (fun _ k => st181 _ k) ?_
  refine own_goW (U' := T181.setTop (mkF m 16 #[.val (.ref a0), .val (.ref a1), .val .null, .unset, .unset] [(.ref a0)])) (fun _ k => XS.aloadN X181.here hx rfl (hb hby d11_15) rfl rfl k) ?_
  obtain ⟨T182, h182, X182, e182, E182, A182, D182, -, st182⟩ := newO X181 hx hZ hown (hw _ (own_mem 70 rfl)) (hw _ (own_mem 71 rfl)) (hw _ (own_mem 72 rfl)) e181 (g := (mkF m 16 #[.val (.ref a0), .val (.ref a1), .val .null, .unset, .unset] [(.ref a0)])) rfl (hb hby d11_16) (by decide) (by decide)
  obtain ⟨b182, g182⟩ : ∃ z, z = h181.size := ⟨_, rfl⟩
  have g_b182 : n0 ≤ b182 := Nat.le_trans Z181 (Nat.le_of_eq g182.symm)
  have sz_b182 : h0.size ≤ b182 := Nat.le_trans K181.1 (Nat.le_of_eq g182.symm)
  have ne_a0_b182 : a0 ≠ b182 := Nat.ne_of_lt (Nat.lt_of_lt_of_le c181_0.lt (Nat.le_of_eq g182.symm))
  have ne_w_b182 : w ≠ b182 := Nat.ne_of_lt (Nat.lt_of_lt_of_le c181_5.lt (Nat.le_of_eq g182.symm))
  have ne_a1_b182 : a1 ≠ b182 := Nat.ne_of_lt (Nat.lt_of_lt_of_le c181_6.lt (Nat.le_of_eq g182.symm))
  have ne_arr_b182 : arr ≠ b182 := Nat.ne_of_lt (Nat.lt_of_lt_of_le c181_9.lt (Nat.le_of_eq g182.symm))
  have ne_el0_b182 : el0 ≠ b182 := Nat.ne_of_lt (Nat.lt_of_lt_of_le c181_10.lt (Nat.le_of_eq g182.symm))
  have ne_el1_b182 : el1 ≠ b182 := Nat.ne_of_lt (Nat.lt_of_lt_of_le c181_11.lt (Nat.le_of_eq g182.symm))
  have ne_el2_b182 : el2 ≠ b182 := Nat.ne_of_lt (Nat.lt_of_lt_of_le c181_12.lt (Nat.le_of_eq g182.symm))
  have ne_el3_b182 : el3 ≠ b182 := Nat.ne_of_lt (Nat.lt_of_lt_of_le c181_13.lt (Nat.le_of_eq g182.symm))
  have ne_b179_b182 : b179 ≠ b182 := Nat.ne_of_lt (Nat.lt_of_lt_of_le c181_16.lt (Nat.le_of_eq g182.symm))
  rw [← g182] at A182 D182 st182
  have c182_0 := c181_0.ext E182
  have c182_1 := w181.ext E182
  have c182_2 := c181_2.ext E182
  have c182_3 := c181_3.ext E182
  have c182_4 := c181_4.ext E182
  have c182_5 := c181_5.ext E182
  have c182_6 := c181_6.ext E182
  have c182_7 := c181_7.ext E182
  have c182_8 := c181_8.ext E182
  have c182_9 := c181_9.ext E182
  have c182_10 := c181_10.ext E182
  have c182_11 := c181_11.ext E182
  have c182_12 := c181_12.ext E182
  have c182_13 := c181_13.ext E182
  have c182_14 := CHr.trans c181_14 (CHr.ext E182 c181_14.1)
  have c182_15 : 0 ≤ h182.size := Nat.le_trans c181_15 E182.1
  have c182_16 := c181_16.ext E182
  have c182_17 := c181_17.ext E182
  have c182_18 := c181_18.ext E182
  have c182_19 := c181_19.ext E182
  have Z182 : n0 ≤ h182.size := Nat.le_trans Z181 E182.1
  have K182 := Keep.ext K181 E182
  have F182_85 : Fld Z h182 b182 "java/util/HashMap" "loadFactor" "F" (.float (0 : UInt32)) := D182 (Or.inr (hw _ (own_mem 85 rfl))) (ty := .float) (by decide)
  refine own_goW (U' := T182.setTop (mkF m 19 #[.val (.ref a0), .val (.ref a1), .val .null, .unset, .unset] [(.ref b182), (.ref a0)])) (fun _ k => st182 _ k) ?_
  refine own_goW (U' := T182.setTop (mkF m 20 #[.val (.ref a0), .val (.ref a1), .val .null, .unset, .unset] [(.ref b182), (.ref b182), (.ref a0)])) (fun _ k => XS.dup X182.here hx rfl (hb hby d11_19) rfl rfl k) ?_
  obtain ⟨_, _, ⟨T183, L183, k183, n183⟩, -, X183, ⟨Lc183, hQ183, l183, y183, z183⟩, st183⟩ := X182.specialBack hx (y := (⟨"java/util/HashMap", "<init>", "()V"⟩ : MethodName)) rfl hown (mvT hZ (hw _ (own_mem 73 rfl))) (mvT hZ (hw _ (own_mem 74 rfl))) (mvT hZ (hw _ (own_mem 75 rfl))) (by decide) (backOf (W := 2) (rm12 l Z aw hw [] b182 h182 n0 Z182 A182 F182_85 (by first | assumption | decide | rfl)) hZ (hw _ (own_mem 75 rfl)) (hw _ (own_mem 72 rfl)) (by decide) (by decide)) (g := (mkF m 20 #[.val (.ref a0), .val (.ref a1), .val .null, .unset, .unset] [(.ref b182), (.ref b182), (.ref a0)])) rfl (by rw [hml]; rfl) (Steps.refl _) (a := b182) (argsL := []) (rest := [(.ref b182), (.ref a0)]) (lenOf own_pd10 rfl) rfl (by show 2 * 0 + _ ≤ _; exact Nat.le_of_eq rfl) (hb hby d11_20) (fun _ _ => ⟨rfl, e182, (by decide : 2 + 0 ≤ _), (by decide : 11 + 0 ≤ _)⟩)
  dsimp only [Pt.U, Pt.locs, Pt.cells, Pt.slots] at X183 l183 y183 z183 st183 hQ183
  subst l183 y183 z183
  obtain ⟨rfl, N183q, K183q, xE183⟩ := hQ183
  have N183 := Fr.app N181 N183q
  have c183_0 := c182_0.keep K183q
  have c183_1 := c182_1.keep K183q (ninS ne_a0_b182 nin0)
  have c183_2 := c182_2.keep K183q (ninS ne_a0_b182 nin0)
  have c183_3 := own_sta_keepX c182_3 K183q (allS A182.nostat all0)
  have c183_4 := own_sta_keepX c182_4 K183q (allS A182.nostat all0)
  have c183_5 := c182_5.keep K183q (ninS ne_w_b182 nin0)
  have c183_6 := c182_6.keep K183q
  have c183_7 := c182_7.keep K183q (ninS ne_a1_b182 nin0)
  have c183_8 := c182_8.keep K183q (ninS ne_a1_b182 nin0)
  have c183_9 := c182_9.keep K183q (ninS ne_arr_b182 nin0)
  have c183_10 := c182_10.keep K183q
  have c183_11 := c182_11.keep K183q
  have c183_12 := c182_12.keep K183q
  have c183_13 := c182_13.keep K183q
  have c183_14 := CHr.trans c182_14 (CHr.keep K183q (allS (Safe.exa hZ.alike A182 (by decide) (by decide)) all0) c182_14.1)
  have c183_15 : 0 ≤ T183.heap.size := Nat.le_trans c182_15 K183q.1
  have c183_16 := c182_16.keep K183q
  have c183_17 := c182_17.keep K183q (ninS ne_b179_b182 nin0)
  have c183_18 := c182_18.keep K183q (ninS ne_b179_b182 nin0)
  have c183_19 := c182_19.keep K183q (ninS ne_b179_b182 nin0)
  have c183_20 := A182.keep K183q
  have Z183 : n0 ≤ T183.heap.size := Nat.le_trans Z182 K183q.1
  have K183 := Keep.trans K182 K183q (allS (Or.inr sz_b182) all0)
  refine own_goW (U' := T183.setTop (mkF m 23 #[.val (.ref a0), .val (.ref a1), .val .null, .unset, .unset] [(.ref b182), (.ref a0)])) (fun _ k => st183.trans k) ?_
  obtain ⟨T184, h184, X184, e184, W184, st184⟩ := putF X183 hx hZ hown (host := "") (Or.inl (hw _ (own_mem 86 rfl))) Via.refl rfl c183_2 c183_0 (Or.inr ⟨(hw _ (own_mem 87 rfl)), rfl, hnm⟩) (hw _ (own_mem 60 rfl)) (ty := (.object "java/util/Map")) (by decide) rfl rfl (g := (mkF m 23 #[.val (.ref a0), .val (.ref a1), .val .null, .unset, .unset] [(.ref b182), (.ref a0)])) rfl rfl (hb hby d11_23)
  have c184_0 := c183_0.wr W184
  have c184_1 := c183_1.other W184 (Or.inr (slot_ne (Or.inr (hw _ (own_mem 69 rfl))) (Or.inr (hw _ (own_mem 87 rfl))) (by decide) (t := (.object "java/util/List")) (t' := (.object "java/util/Map")) (by decide) (by decide)))
  have c184_3 := c183_3.wr W184
  have c184_4 := c183_4.wr W184
  have c184_5 := c183_5.other W184 ne_w_a0
  have c184_6 := c183_6.wr W184
  have c184_7 := c183_7.other W184 (Or.inl ne_a1_a0)
  have c184_8 := c183_8.other W184 (Or.inl ne_a1_a0)
  have c184_9 := c183_9.other W184 ne_arr_a0
  have c184_10 := c183_10.wr W184
  have c184_11 := c183_11.wr W184
  have c184_12 := c183_12.wr W184
  have c184_13 := c183_13.wr W184
  have c184_14 := CHr.trans c183_14 (CHr.wr W184 (Safe.exa hZ.alike c183_0 (by decide) (by decide)) c183_14.1)
  have c184_15 : 0 ≤ h184.size := Nat.le_trans c183_15 (Keep.of_wr W184).1
  have c184_16 := c183_16.wr W184
  have c184_17 := c183_17.other W184 (Or.inl (Ne.symm ne_a0_b179))
  have c184_18 := c183_18.other W184 (Or.inl (Ne.symm ne_a0_b179))
  have c184_19 := c183_19.other W184 (Or.inl (Ne.symm ne_a0_b179))
  have c184_20 := xE183.wr W184
  have w184 : Fld Z h184 a0 "com/example/hashtory/hashtory/Arguments" "options" "Ljava/util/Map;" (.ref b182) := c183_2.same W184
  have Z184 : n0 ≤ h184.size := Nat.le_trans Z183 (Keep.of_wr W184).1
  have K184 := Keep.wr K183 W184 (Or.inl (by simp))
  have N184 := Fr.snoc X184 N183 g_a0
  refine own_goW (U' := T184.setTop (mkF m 26 #[.val (.ref a0), .val (.ref a1), .val .null, .unset, .unset] [])) (fun _ k => st184 _ k) ?_
  refine own_goW (U' := T184.setTop (mkF m 30 #[.val (.ref a0), .val (.ref a1), .val .null, .val (.int (0 : Int32)), .unset] [(.ref a1), (.int (0 : Int32))])) (fun _ k => XS.iconst X184.here hx rfl (hb hby d11_26) (XS.istoreN X184.here hx rfl (hb hby d11_27) rfl (l' := #[.val (.ref a0), .val (.ref a1), .val .null, .val (.int (0 : Int32)), .unset]) rfl (XS.iloadN X184.here hx rfl (hb hby d11_28) rfl (XS.aloadN X184.here hx rfl (hb hby d11_29) rfl rfl k)))) ?_
  obtain ⟨cq185, kq185, q185a, q185b, q185c⟩ := isOf hZ e184 c184_6
  obtain ⟨_, _, ⟨T185, L185, k185, n185⟩, -, X185, ⟨Lc185, hQ185, l185, y185, z185⟩, st185⟩ := X184.interfaceBack hx (xi := (⟨"java/util/List", "size", "()I"⟩ : MethodName)) (y := (⟨"java/util/ArrayList", "size", "()I"⟩ : MethodName)) hown (mvT hZ (hw _ (own_mem 88 rfl))) (mvT hZ (hw _ (own_mem 89 rfl))) (mvT hZ (hw _ (own_mem 90 rfl))) (mvT hZ (hw _ (own_mem 91 rfl))) (mvT hZ (hw _ (own_mem 92 rfl))) (mvT hZ (hw _ (own_mem 93 rfl))) (mvT hZ (hw _ (own_mem 94 rfl))) (mvT hZ (hw _ (own_mem 95 rfl))) (by decide) (backOf (W := 1) (rm14 l Z aw hw [] a1 (4 : Int32) h184 n0 Z184 c184_7) hZ (hw _ (own_mem 96 rfl)) (hw _ (own_mem 37 rfl)) (by decide) (by decide)) q185a q185b q185c (g := (mkF m 30 #[.val (.ref a0), .val (.ref a1), .val .null, .val (.int (0 : Int32)), .unset] [(.ref a1), (.int (0 : Int32))])) rfl (by rw [hml]; rfl) (Steps.refl _) (argsL := []) (rest := [(.int (0 : Int32))]) (lenOf own_pd5 rfl) rfl (by show 2 * 0 + _ ≤ _; exact Nat.le_of_eq rfl) (hb hby d11_30) (fun _ _ => ⟨rfl, e184, (by decide : 2 + 0 ≤ _), (by decide : 11 + 0 ≤ _)⟩)
  dsimp only [Pt.U, Pt.locs, Pt.cells, Pt.slots] at X185 l185 y185 z185 st185 hQ185
  subst l185 y185 z185
  obtain ⟨rfl, N185q, e185⟩ := hQ185
  have N185 := Fr.app N184 N185q
  refine own_goW (U' := T185.setTop (mkF m 35 #[.val (.ref a0), .val (.ref a1), .val .null, .val (.int (0 : Int32)), .unset] [(.int (4 : Int32)), (.int (0 : Int32))])) (fun _ k => st185.trans k) ?_
  refine own_goW (U' := T185.setTop (mkF m 40 #[.val (.ref a0), .val (.ref a1), .val .null, .val (.int (0 : Int32)), .unset] [(.int (0 : Int32)), (.ref a1)])) (fun _ k => XS.icmpNo X185.here hx rfl (hb hby d11_35) rfl (tlt (by decide : ((0 : Int32) < (4 : Int32)))).2.1 (XS.aloadN X185.here hx rfl (hb hby d11_38) rfl rfl (XS.iloadN X185.here hx rfl (hb hby d11_39) rfl k))) ?_
  obtain ⟨cq186, kq186, q186a, q186b, q186c⟩ := isOf hZ e185 c184_6
  obtain ⟨_, _, ⟨T186, L186, k186, n186⟩, -, X186, ⟨Lc186, hQ186, l186, y186, z186⟩, st186⟩ := X185.interfaceBack hx (xi := (⟨"java/util/List", "get", "(I)Ljava/lang/Object;"⟩ : MethodName)) (y := (⟨"java/util/ArrayList", "get", "(I)Ljava/lang/Object;"⟩ : MethodName)) hown (mvT hZ (hw _ (own_mem 137 rfl))) (mvT hZ (hw _ (own_mem 138 rfl))) (mvT hZ (hw _ (own_mem 139 rfl))) (mvT hZ (hw _ (own_mem 140 rfl))) (mvT hZ (hw _ (own_mem 141 rfl))) (mvT hZ (hw _ (own_mem 142 rfl))) (mvT hZ (hw _ (own_mem 143 rfl))) (mvT hZ (hw _ (own_mem 95 rfl))) (by decide) (backOf (W := 0) (rm20 l Z aw hw [] a1 (0 : Int32) (4 : Int32) arr k1 [(.ref el0), (.ref el1), (.ref el2), (.ref el3), .null, .null, .null, .null, .null, .null] el0 h184 n0 Z184 c184_6 c184_7 c184_8 c184_9 (by first | assumption | decide | rfl) (by first | assumption | decide | rfl) (by first | assumption | decide | rfl) (by first | assumption | decide | rfl)) hZ (hw _ (own_mem 144 rfl)) (hw _ (own_mem 37 rfl)) (by decide) (by decide)) q186a q186b q186c (g := (mkF m 40 #[.val (.ref a0), .val (.ref a1), .val .null, .val (.int (0 : Int32)), .unset] [(.int (0 : Int32)), (.ref a1)])) rfl (by rw [hml]; rfl) (Steps.refl _) (argsL := [(.int (0 : Int32))]) (rest := []) (lenOf own_pd9 rfl) rfl (by show 2 * 0 + _ ≤ _; exact Nat.le_of_eq rfl) (hb hby d11_40) (fun _ _ => ⟨rfl, e185, (by decide : 2 + 0 ≤ _), (by decide : 11 + 0 ≤ _)⟩)
  dsimp only [Pt.U, Pt.locs, Pt.cells, Pt.slots] at X186 l186 y186 z186 st186 hQ186
  subst l186 y186 z186
  obtain ⟨rfl, N186q, e186⟩ := hQ186
  have N186 := Fr.app N185 N186q
  refine own_goW (U' := T186.setTop (mkF m 45 #[.val (.ref a0), .val (.ref a1), .val .null, .val (.int (0 : Int32)), .unset] [(.ref el0)])) (fun _ k => st186.trans k) ?_
  obtain ⟨T187, X187, e187, st187⟩ := castY X186 hx hZ hown (hw _ (own_mem 158 rfl)) e186 (Ins.self c184_10) (g := (mkF m 45 #[.val (.ref a0), .val (.ref a1), .val .null, .val (.int (0 : Int32)), .unset] [(.ref el0)])) rfl rfl (hb hby d11_45)
  refine own_goW (U' := T187.setTop (mkF m 48 #[.val (.ref a0), .val (.ref a1), .val .null, .val (.int (0 : Int32)), .unset] [(.ref el0)])) (fun _ k => st187 _ k) ?_
  refine own_goW (U' := T187.setTop (mkF m 55 #[.val (.ref a0), .val (.ref a1), .val .null, .val (.int (1 : Int32)), .val (.ref el0)] [(.ref el0)])) (fun _ k => XS.astore X187.here hx rfl (hb hby d11_48) rfl rfl (l' := #[.val (.ref a0), .val (.ref a1), .val .null, .val (.int (0 : Int32)), .val (.ref el0)]) rfl (XS.iinc X187.here hx rfl (hb hby d11_50) rfl (l' := #[.val (.ref a0), .val (.ref a1), .val .null, .val (.int (1 : Int32)), .val (.ref el0)]) rfl (XS.aload X187.here hx rfl (hb hby d11_53) rfl rfl k))) ?_
  obtain ⟨a188, T188, h188, k188, b188, kc188, X188, e188, E188, hS188, hk188, hZ, hown, Ex188, Fc188, Fv188, Vb188, -, -, CH188, -, -, st188⟩ := ldcCH (s := s) (vm0 := s.vm) X187 hx hZ hown (hw _ (own_mem 159 rfl)) (own_wS hw) e187 hS0 c184_15 (own_EW hw) (by decide) c184_14.1 (z := (2 : Int32)) own_text159 (by decide) rfl (g := (mkF m 55 #[.val (.ref a0), .val (.ref a1), .val .null, .val (.int (1 : Int32)), .val (.ref el0)] [(.ref el0)])) rfl (hb hby d11_55) (n := 8) (by decide) (by decide) (by decide) (by decide)
  have c188_0 := c184_0.ext E188
  have c188_1 := c184_1.ext E188
  have c188_2 := w184.ext E188
  have c188_3 := c184_3.ext E188
  have c188_4 := c184_4.ext E188
  have c188_5 := c184_5.ext E188
  have c188_6 := c184_6.ext E188
  have c188_7 := c184_7.ext E188
  have c188_8 := c184_8.ext E188
  have c188_9 := c184_9.ext E188
  have c188_10 := c184_10.ext E188
  have c188_11 := c184_11.ext E188
  have c188_12 := c184_12.ext E188
  have c188_13 := c184_13.ext E188
  have c188_14 := c184_16.ext E188
  have c188_15 := c184_17.ext E188
  have c188_16 := c184_18.ext E188
  have c188_17 := c184_19.ext E188
  have c188_18 := c184_20.ext E188
  have Z188 : n0 ≤ h188.size := Nat.le_trans Z184 E188.1
  have K188 := Keep.ext K184 E188
  have CR188 := CHr.trans c184_14 CH188
  refine own_goW (U' := T188.setTop (mkF m 57 #[.val (.ref a0), .val (.ref a1), .val .null, .val (.int (1 : Int32)), .val (.ref el0)] [(.ref a188), (.ref el0)])) (fun _ k => st188 _ k) ?_
  have hO189 : own_S Z h188 el0 := own_S.keepA hw S_0 K188 E_t
  obtain ⟨cq190, kq190, q190a, q190b, q190c⟩ := isOf hZ e188 c188_10
  obtain ⟨_, _, ⟨T190, L190, k190, n190⟩, -, X190, ⟨Lc190, hQ190, l190, y190, z190⟩, st190⟩ := X188.virtualBack hx (y := (⟨"java/lang/String", "startsWith", "(Ljava/lang/String;)Z"⟩ : MethodName)) (z := (⟨"java/lang/String", "startsWith", "(Ljava/lang/String;)Z"⟩ : MethodName)) hown (mvT hZ (hw _ (own_mem 160 rfl))) (mvT hZ (hw _ (own_mem 161 rfl))) (notFace_of_selects (args := #[]) (mvT hZ (hw _ (own_mem 163 rfl)))) (mvT hZ (hw _ (own_mem 163 rfl))) (mvT hZ (hw _ (own_mem 162 rfl))) (by decide) (backOf (W := 0) (rm24 l Z aw hw [] el0 a188 cs b188 kc188 h188 n0 Z188 c188_3 c188_10 Ex188 Fc188 Fv188 Vb188 (by first | assumption | decide | rfl) (by first | assumption | decide | rfl)) hZ (hw _ (own_mem 164 rfl)) (hw _ (own_mem 11 rfl)) (by decide) (by decide)) q190a q190c (g := (mkF m 57 #[.val (.ref a0), .val (.ref a1), .val .null, .val (.int (1 : Int32)), .val (.ref el0)] [(.ref a188), (.ref el0)])) rfl (by rw [hml]; rfl) (Steps.refl _) (argsL := [(.ref a188)]) (rest := []) (lenOf own_pd14 rfl) rfl (by show 2 * 0 + _ ≤ _; exact Nat.le_of_eq rfl) (hb hby d11_57) (fun _ _ => ⟨rfl, e188, (by decide : 4 + 0 ≤ _), (by decide : 23 + 0 ≤ _)⟩)
  dsimp only [Pt.U, Pt.locs, Pt.cells, Pt.slots] at X190 l190 y190 z190 st190 hQ190
  subst l190 y190 z190
  obtain ⟨rfl, N190q, e190⟩ := hQ190
  have N190 := Fr.app N186 N190q
  refine own_goW (U' := T190.setTop (mkF m 60 #[.val (.ref a0), .val (.ref a1), .val .null, .val (.int (1 : Int32)), .val (.ref el0)] [(.int (0 : Int32))])) (fun _ k => st190.trans k) ?_
  refine own_goW (U' := T190.setTop (mkF m 64 #[.val (.ref a0), .val (.ref a1), .val .null, .val (.int (1 : Int32)), .val (.ref el0)] [(.ref a0)])) (fun _ k => XS.ifNo X190.here hx rfl (hb hby d11_60) rfl ((if0 _ _).trans (teq (by decide : ((0 : Int32) = (0 : Int32)))).2) (XS.aloadN X190.here hx rfl (hb hby d11_63) rfl rfl k)) ?_
  obtain ⟨T191, X191, e191, st191⟩ := getF X190 hx hZ hown (host := "") (Or.inl (hw _ (own_mem 68 rfl))) Via.refl e190 c188_1 (g := (mkF m 64 #[.val (.ref a0), .val (.ref a1), .val .null, .val (.int (1 : Int32)), .val (.ref el0)] [(.ref a0)])) rfl rfl (hb hby d11_64)
  refine own_goW (U' := T191.setTop (mkF m 67 #[.val (.ref a0), .val (.ref a1), .val .null, .val (.int (1 : Int32)), .val (.ref el0)] [(.ref b179)])) (fun _ k => st191 _ k) ?_
  refine own_goW (U' := T191.setTop (mkF m 69 #[.val (.ref a0), .val (.ref a1), .val .null, .val (.int (1 : Int32)), .val (.ref el0)] [(.ref el0), (.ref b179)])) (fun _ k => XS.aload X191.here hx rfl (hb hby d11_67) rfl rfl k) ?_
  obtain ⟨cq192, kq192, q192a, q192b, q192c⟩ := isOf hZ e191 c188_14
  obtain ⟨_, _, ⟨T192, L192, k192, n192⟩, -, X192, ⟨Lc192, hQ192, l192, y192, z192⟩, st192⟩ := X191.interfaceBack hx (xi := (⟨"java/util/List", "add", "(Ljava/lang/Object;)Z"⟩ : MethodName)) (y := (⟨"java/util/ArrayList", "add", "(Ljava/lang/Object;)Z"⟩ : MethodName)) hown (mvT hZ (hw _ (own_mem 180 rfl))) (mvT hZ (hw _ (own_mem 106 rfl))) (mvT hZ (hw _ (own_mem 107 rfl))) (mvT hZ (hw _ (own_mem 108 rfl))) (mvT hZ (hw _ (own_mem 109 rfl))) (mvT hZ (hw _ (own_mem 110 rfl))) (mvT hZ (hw _ (own_mem 111 rfl))) (mvT hZ (hw _ (own_mem 95 rfl))) (by decide) (backOf (W := 0) (rm16g l Z aw hw [] b179 el0 w k0 (0 : Int32) h188 n0 Z188 c188_4 c188_5 (Ins.of_exa c188_10 (hw _ (own_mem 133 rfl))) c188_14 c188_15 c188_16 c188_17 (by first | assumption | decide | rfl)) hZ (hw _ (own_mem 112 rfl)) (hw _ (own_mem 37 rfl)) (by decide) (by decide)) q192a q192b q192c (g := (mkF m 69 #[.val (.ref a0), .val (.ref a1), .val .null, .val (.int (1 : Int32)), .val (.ref el0)] [(.ref el0), (.ref b179)])) rfl (by rw [hml]; rfl) (Steps.refl _) (argsL := [(.ref el0)]) (rest := []) (lenOf own_pd15 rfl) rfl (by show 2 * 0 + _ ≤ _; exact Nat.le_of_eq rfl) (hb hby d11_69) (fun _ _ => ⟨rfl, e191, (by decide : 4 + 1 ≤ _), (by decide : 23 + 10 ≤ _)⟩)
  dsimp only [Pt.U, Pt.locs, Pt.cells, Pt.slots] at X192 l192 y192 z192 st192 hQ192
  subst l192 y192 z192
  obtain ⟨r192, kr192, rfl, N192q, K192q, sr192, xE192, xS192, xD192, xM192, xV192, xO192⟩ := hQ192
  have N192 := Fr.app N190 N192q
  have ne_a0_r192 : a0 ≠ r192 := Nat.ne_of_lt (Nat.lt_of_lt_of_le c188_0.lt sr192)
  have ne_w_r192 : w ≠ r192 := Nat.ne_of_lt (Nat.lt_of_lt_of_le c188_5.lt sr192)
  have ne_a1_r192 : a1 ≠ r192 := Nat.ne_of_lt (Nat.lt_of_lt_of_le c188_6.lt sr192)
  have ne_arr_r192 : arr ≠ r192 := Nat.ne_of_lt (Nat.lt_of_lt_of_le c188_9.lt sr192)
  have ne_el0_r192 : el0 ≠ r192 := Nat.ne_of_lt (Nat.lt_of_lt_of_le c188_10.lt sr192)
  have ne_el1_r192 : el1 ≠ r192 := Nat.ne_of_lt (Nat.lt_of_lt_of_le c188_11.lt sr192)
  have ne_el2_r192 : el2 ≠ r192 := Nat.ne_of_lt (Nat.lt_of_lt_of_le c188_12.lt sr192)
  have ne_el3_r192 : el3 ≠ r192 := Nat.ne_of_lt (Nat.lt_of_lt_of_le c188_13.lt sr192)
  have ne_b179_r192 : b179 ≠ r192 := Nat.ne_of_lt (Nat.lt_of_lt_of_le c188_14.lt sr192)
  have ne_b182_r192 : b182 ≠ r192 := Nat.ne_of_lt (Nat.lt_of_lt_of_le c188_18.lt sr192)
  have ne_a188_r192 : a188 ≠ r192 := Nat.ne_of_lt (Nat.lt_of_lt_of_le Ex188.lt sr192)
  have g_r192 : n0 ≤ r192 := Nat.le_trans Z188 sr192
  have sz_r192 : h0.size ≤ r192 := Nat.le_trans K188.1 sr192
  have ne_a188_b179 : a188 ≠ b179 := Exa.ne Ex188 c188_14 (by decide)
  have c192_0 := c188_0.keep K192q
  have c192_1 := c188_1.keep K192q (ninS ne_a0_b179 nin0)
  have c192_2 := c188_2.keep K192q (ninS ne_a0_b179 nin0)
  have c192_3 := own_sta_keepX c188_3 K192q (allS c188_14.nostat all0)
  have c192_4 := own_sta_keepX c188_4 K192q (allS c188_14.nostat all0)
  have c192_5 := c188_5.keep K192q (ninS ne_w_b179 nin0)
  have c192_6 := c188_6.keep K192q
  have c192_7 := c188_7.keep K192q (ninS ne_a1_b179 nin0)
  have c192_8 := c188_8.keep K192q (ninS ne_a1_b179 nin0)
  have c192_9 := c188_9.keep K192q (ninS ne_arr_b179 nin0)
  have c192_10 := c188_10.keep K192q
  have c192_11 := c188_11.keep K192q
  have c192_12 := c188_12.keep K192q
  have c192_13 := c188_13.keep K192q
  have c192_14 := c188_14.keep K192q
  have c192_18 := c188_18.keep K192q
  have c192_19 := Ex188.keep K192q
  have c192_20 := CHr.trans CR188 (CHr.keep K192q (allS (Safe.exa hZ.alike c188_14 (by decide) (by decide)) all0) CR188.1)
  have c192_21 : k188 ≤ T192.heap.size := Nat.le_trans hk188 K192q.1
  have c192_22 := own_ins_keep (Ins.of_exa c188_10 (hw _ (own_mem 133 rfl))) K192q
  have nf193 : Fld Z T192.heap b179 "java/util/AbstractList" "modCount" "I" (.int (1 : Int32)) := xM192
  have Z192 : n0 ≤ T192.heap.size := Nat.le_trans Z188 K192q.1
  have K192 := Keep.trans K188 K192q (allS (Or.inr sz_b179) all0)
  refine own_goW (U' := T192.setTop (mkF m 74 #[.val (.ref a0), .val (.ref a1), .val .null, .val (.int (1 : Int32)), .val (.ref el0)] [(.int (1 : Int32))])) (fun _ k => st192.trans k) ?_
  refine own_goW (U' := T192.setTop (mkF m 30 #[.val (.ref a0), .val (.ref a1), .val .null, .val (.int (1 : Int32)), .val (.ref el0)] [(.ref a1), (.int (1 : Int32))])) (fun _ k => XS.pop X192.here hx rfl (hb hby d11_74) rfl rfl (XS.goto X192.here hx rfl (pc0 := 75) (pc' := 28) rfl (hb hby d11_75) (by decide) (by decide) (XS.iloadN X192.here hx rfl (hb hby d11_28) rfl (XS.aloadN X192.here hx rfl (hb hby d11_29) rfl rfl k)))) ?_
  obtain ⟨cq194, kq194, q194a, q194b, q194c⟩ := isOf hZ rfl c192_6
  obtain ⟨_, _, ⟨T194, L194, k194, n194⟩, -, X194, ⟨Lc194, hQ194, l194, y194, z194⟩, st194⟩ := X192.interfaceBack hx (xi := (⟨"java/util/List", "size", "()I"⟩ : MethodName)) (y := (⟨"java/util/ArrayList", "size", "()I"⟩ : MethodName)) hown (mvT hZ (hw _ (own_mem 88 rfl))) (mvT hZ (hw _ (own_mem 89 rfl))) (mvT hZ (hw _ (own_mem 90 rfl))) (mvT hZ (hw _ (own_mem 91 rfl))) (mvT hZ (hw _ (own_mem 92 rfl))) (mvT hZ (hw _ (own_mem 93 rfl))) (mvT hZ (hw _ (own_mem 94 rfl))) (mvT hZ (hw _ (own_mem 95 rfl))) (by decide) (backOf (W := 1) (rm14 l Z aw hw [] a1 (4 : Int32) T192.heap n0 Z192 c192_7) hZ (hw _ (own_mem 96 rfl)) (hw _ (own_mem 37 rfl)) (by decide) (by decide)) q194a q194b q194c (g := (mkF m 30 #[.val (.ref a0), .val (.ref a1), .val .null, .val (.int (1 : Int32)), .val (.ref el0)] [(.ref a1), (.int (1 : Int32))])) rfl (by rw [hml]; rfl) (Steps.refl _) (argsL := []) (rest := [(.int (1 : Int32))]) (lenOf own_pd5 rfl) rfl (by show 2 * 0 + _ ≤ _; exact Nat.le_of_eq rfl) (hb hby d11_30) (fun _ _ => ⟨rfl, rfl, (by decide : 5 + 0 ≤ _), (by decide : 33 + 0 ≤ _)⟩)
  dsimp only [Pt.U, Pt.locs, Pt.cells, Pt.slots] at X194 l194 y194 z194 st194 hQ194
  subst l194 y194 z194
  obtain ⟨rfl, N194q, e194⟩ := hQ194
  have N194 := Fr.app N192 N194q
  refine own_goW (U' := T194.setTop (mkF m 35 #[.val (.ref a0), .val (.ref a1), .val .null, .val (.int (1 : Int32)), .val (.ref el0)] [(.int (4 : Int32)), (.int (1 : Int32))])) (fun _ k => st194.trans k) ?_
  refine own_goW (U' := T194.setTop (mkF m 40 #[.val (.ref a0), .val (.ref a1), .val .null, .val (.int (1 : Int32)), .val (.ref el0)] [(.int (1 : Int32)), (.ref a1)])) (fun _ k => XS.icmpNo X194.here hx rfl (hb hby d11_35) rfl (tlt (by decide : ((1 : Int32) < (4 : Int32)))).2.1 (XS.aloadN X194.here hx rfl (hb hby d11_38) rfl rfl (XS.iloadN X194.here hx rfl (hb hby d11_39) rfl k))) ?_
  obtain ⟨cq195, kq195, q195a, q195b, q195c⟩ := isOf hZ e194 c192_6
  obtain ⟨_, _, ⟨T195, L195, k195, n195⟩, -, X195, ⟨Lc195, hQ195, l195, y195, z195⟩, st195⟩ := X194.interfaceBack hx (xi := (⟨"java/util/List", "get", "(I)Ljava/lang/Object;"⟩ : MethodName)) (y := (⟨"java/util/ArrayList", "get", "(I)Ljava/lang/Object;"⟩ : MethodName)) hown (mvT hZ (hw _ (own_mem 137 rfl))) (mvT hZ (hw _ (own_mem 138 rfl))) (mvT hZ (hw _ (own_mem 139 rfl))) (mvT hZ (hw _ (own_mem 140 rfl))) (mvT hZ (hw _ (own_mem 141 rfl))) (mvT hZ (hw _ (own_mem 142 rfl))) (mvT hZ (hw _ (own_mem 143 rfl))) (mvT hZ (hw _ (own_mem 95 rfl))) (by decide) (backOf (W := 0) (rm20 l Z aw hw [] a1 (1 : Int32) (4 : Int32) arr k1 [(.ref el0), (.ref el1), (.ref el2), (.ref el3), .null, .null, .null, .null, .null, .null] el1 T192.heap n0 Z192 c192_6 c192_7 c192_8 c192_9 (by first | assumption | decide | rfl) (by first | assumption | decide | rfl) (by first | assumption | decide | rfl) (by first | assumption | decide | rfl)) hZ (hw _ (own_mem 144 rfl)) (hw _ (own_mem 37 rfl)) (by decide) (by decide)) q195a q195b q195c (g := (mkF m 40 #[.val (.ref a0), .val (.ref a1), .val .null, .val (.int (1 : Int32)), .val (.ref el0)] [(.int (1 : Int32)), (.ref a1)])) rfl (by rw [hml]; rfl) (Steps.refl _) (argsL := [(.int (1 : Int32))]) (rest := []) (lenOf own_pd9 rfl) rfl (by show 2 * 0 + _ ≤ _; exact Nat.le_of_eq rfl) (hb hby d11_40) (fun _ _ => ⟨rfl, e194, (by decide : 5 + 0 ≤ _), (by decide : 33 + 0 ≤ _)⟩)
  dsimp only [Pt.U, Pt.locs, Pt.cells, Pt.slots] at X195 l195 y195 z195 st195 hQ195
  subst l195 y195 z195
  obtain ⟨rfl, N195q, e195⟩ := hQ195
  have N195 := Fr.app N194 N195q
  refine own_goW (U' := T195.setTop (mkF m 45 #[.val (.ref a0), .val (.ref a1), .val .null, .val (.int (1 : Int32)), .val (.ref el0)] [(.ref el1)])) (fun _ k => st195.trans k) ?_
  obtain ⟨T196, X196, e196, st196⟩ := castY X195 hx hZ hown (hw _ (own_mem 158 rfl)) e195 (Ins.self c192_11) (g := (mkF m 45 #[.val (.ref a0), .val (.ref a1), .val .null, .val (.int (1 : Int32)), .val (.ref el0)] [(.ref el1)])) rfl rfl (hb hby d11_45)
  refine own_goW (U' := T196.setTop (mkF m 48 #[.val (.ref a0), .val (.ref a1), .val .null, .val (.int (1 : Int32)), .val (.ref el0)] [(.ref el1)])) (fun _ k => st196 _ k) ?_
  refine own_goW (U' := T196.setTop (mkF m 55 #[.val (.ref a0), .val (.ref a1), .val .null, .val (.int (2 : Int32)), .val (.ref el1)] [(.ref el1)])) (fun _ k => XS.astore X196.here hx rfl (hb hby d11_48) rfl rfl (l' := #[.val (.ref a0), .val (.ref a1), .val .null, .val (.int (1 : Int32)), .val (.ref el1)]) rfl (XS.iinc X196.here hx rfl (hb hby d11_50) rfl (l' := #[.val (.ref a0), .val (.ref a1), .val .null, .val (.int (2 : Int32)), .val (.ref el1)]) rfl (XS.aload X196.here hx rfl (hb hby d11_53) rfl rfl k))) ?_
  obtain ⟨a197, T197, h197, k197, b197, kc197, X197, e197, E197, hS197, hk197, hZ, hown, Ex197, Fc197, Fv197, Vb197, -, -, CH197, -, -, st197⟩ := ldcCH (s := s) (vm0 := T188.vm) X196 hx hZ hown (hw _ (own_mem 159 rfl)) (own_wS hw) e196 hS188 c192_21 (own_EW hw) (by decide) c192_20.1 (z := (2 : Int32)) own_text159 (by decide) rfl (g := (mkF m 55 #[.val (.ref a0), .val (.ref a1), .val .null, .val (.int (2 : Int32)), .val (.ref el1)] [(.ref el1)])) rfl (hb hby d11_55) (n := 8) (by decide) (by decide) (by decide) (by decide)
  have c197_0 := c192_0.ext E197
  have c197_1 := c192_1.ext E197
  have c197_2 := c192_2.ext E197
  have c197_3 := c192_3.ext E197
  have c197_4 := c192_4.ext E197
  have c197_5 := c192_5.ext E197
  have c197_6 := c192_6.ext E197
  have c197_7 := c192_7.ext E197
  have c197_8 := c192_8.ext E197
  have c197_9 := c192_9.ext E197
  have c197_10 := c192_10.ext E197
  have c197_11 := c192_11.ext E197
  have c197_12 := c192_12.ext E197
  have c197_13 := c192_13.ext E197
  have c197_14 := xE192.ext E197
  have c197_15 := c192_18.ext E197
  have c197_16 := c192_19.ext E197
  have c197_17 := c192_22.ext E197
  have c197_18 := xS192.ext E197
  have c197_19 := xD192.ext E197
  have c197_20 := nf193.ext E197
  have c197_21 := xV192.ext E197
  have Z197 : n0 ≤ h197.size := Nat.le_trans Z192 E197.1
  have K197 := Keep.ext K192 E197
  have CR197 := CHr.trans c192_20 CH197
  refine own_goW (U' := T197.setTop (mkF m 57 #[.val (.ref a0), .val (.ref a1), .val .null, .val (.int (2 : Int32)), .val (.ref el1)] [(.ref a197), (.ref el1)])) (fun _ k => st197 _ k) ?_
  have hO198 : own_S Z h197 el1 := own_S.keepA hw S_1 K197 E_t
  obtain ⟨cq199, kq199, q199a, q199b, q199c⟩ := isOf hZ e197 c197_11
  obtain ⟨_, _, ⟨T199, L199, k199, n199⟩, -, X199, ⟨Lc199, hQ199, l199, y199, z199⟩, st199⟩ := X197.virtualBack hx (y := (⟨"java/lang/String", "startsWith", "(Ljava/lang/String;)Z"⟩ : MethodName)) (z := (⟨"java/lang/String", "startsWith", "(Ljava/lang/String;)Z"⟩ : MethodName)) hown (mvT hZ (hw _ (own_mem 160 rfl))) (mvT hZ (hw _ (own_mem 161 rfl))) (notFace_of_selects (args := #[]) (mvT hZ (hw _ (own_mem 163 rfl)))) (mvT hZ (hw _ (own_mem 163 rfl))) (mvT hZ (hw _ (own_mem 162 rfl))) (by decide) (backOf (W := 0) (rm24 l Z aw hw [] el1 a197 cs b197 kc197 h197 n0 Z197 c197_3 c197_11 Ex197 Fc197 Fv197 Vb197 (by first | assumption | decide | rfl) (by first | assumption | decide | rfl)) hZ (hw _ (own_mem 164 rfl)) (hw _ (own_mem 11 rfl)) (by decide) (by decide)) q199a q199c (g := (mkF m 57 #[.val (.ref a0), .val (.ref a1), .val .null, .val (.int (2 : Int32)), .val (.ref el1)] [(.ref a197), (.ref el1)])) rfl (by rw [hml]; rfl) (Steps.refl _) (argsL := [(.ref a197)]) (rest := []) (lenOf own_pd14 rfl) rfl (by show 2 * 0 + _ ≤ _; exact Nat.le_of_eq rfl) (hb hby d11_57) (fun _ _ => ⟨rfl, e197, (by decide : 7 + 0 ≤ _), (by decide : 45 + 0 ≤ _)⟩)
  dsimp only [Pt.U, Pt.locs, Pt.cells, Pt.slots] at X199 l199 y199 z199 st199 hQ199
  subst l199 y199 z199
  obtain ⟨rfl, N199q, e199⟩ := hQ199
  have N199 := Fr.app N195 N199q
  refine own_goW (U' := T199.setTop (mkF m 60 #[.val (.ref a0), .val (.ref a1), .val .null, .val (.int (2 : Int32)), .val (.ref el1)] [(.int (0 : Int32))])) (fun _ k => st199.trans k) ?_
  refine own_goW (U' := T199.setTop (mkF m 64 #[.val (.ref a0), .val (.ref a1), .val .null, .val (.int (2 : Int32)), .val (.ref el1)] [(.ref a0)])) (fun _ k => XS.ifNo X199.here hx rfl (hb hby d11_60) rfl ((if0 _ _).trans (teq (by decide : ((0 : Int32) = (0 : Int32)))).2) (XS.aloadN X199.here hx rfl (hb hby d11_63) rfl rfl k)) ?_
  obtain ⟨T200, X200, e200, st200⟩ := getF X199 hx hZ hown (host := "") (Or.inl (hw _ (own_mem 68 rfl))) Via.refl e199 c197_1 (g := (mkF m 64 #[.val (.ref a0), .val (.ref a1), .val .null, .val (.int (2 : Int32)), .val (.ref el1)] [(.ref a0)])) rfl rfl (hb hby d11_64)
  refine own_goW (U' := T200.setTop (mkF m 67 #[.val (.ref a0), .val (.ref a1), .val .null, .val (.int (2 : Int32)), .val (.ref el1)] [(.ref b179)])) (fun _ k => st200 _ k) ?_
  refine own_goW (U' := T200.setTop (mkF m 69 #[.val (.ref a0), .val (.ref a1), .val .null, .val (.int (2 : Int32)), .val (.ref el1)] [(.ref el1), (.ref b179)])) (fun _ k => XS.aload X200.here hx rfl (hb hby d11_67) rfl rfl k) ?_
  obtain ⟨cq201, kq201, q201a, q201b, q201c⟩ := isOf hZ e200 c197_14
  obtain ⟨_, _, ⟨T201, L201, k201, n201⟩, -, X201, ⟨Lc201, hQ201, l201, y201, z201⟩, st201⟩ := X200.interfaceBack hx (xi := (⟨"java/util/List", "add", "(Ljava/lang/Object;)Z"⟩ : MethodName)) (y := (⟨"java/util/ArrayList", "add", "(Ljava/lang/Object;)Z"⟩ : MethodName)) hown (mvT hZ (hw _ (own_mem 180 rfl))) (mvT hZ (hw _ (own_mem 106 rfl))) (mvT hZ (hw _ (own_mem 107 rfl))) (mvT hZ (hw _ (own_mem 108 rfl))) (mvT hZ (hw _ (own_mem 109 rfl))) (mvT hZ (hw _ (own_mem 110 rfl))) (mvT hZ (hw _ (own_mem 111 rfl))) (mvT hZ (hw _ (own_mem 95 rfl))) (by decide) (backOf (W := 0) (rm16s l Z aw hw [] b179 el1 r192 kr192 (1 : Int32) (1 : Int32) [(.ref el0), .null, .null, .null, .null, .null, .null, .null, .null, .null] h197 n0 Z197 (Ins.of_exa c197_11 (hw _ (own_mem 133 rfl))) c197_14 c197_18 c197_19 c197_20 c197_21 (by first | assumption | decide | rfl) (by first | assumption | decide | rfl) (by first | assumption | decide | rfl) (by first | assumption | decide | rfl) (by first | assumption | decide | rfl) (by first | assumption | decide | rfl) (by first | assumption | decide | rfl) (by first | assumption | decide | rfl)) hZ (hw _ (own_mem 112 rfl)) (hw _ (own_mem 37 rfl)) (by decide) (by decide)) q201a q201b q201c (g := (mkF m 69 #[.val (.ref a0), .val (.ref a1), .val .null, .val (.int (2 : Int32)), .val (.ref el1)] [(.ref el1), (.ref b179)])) rfl (by rw [hml]; rfl) (Steps.refl _) (argsL := [(.ref el1)]) (rest := []) (lenOf own_pd15 rfl) rfl (by show 2 * 0 + _ ≤ _; exact Nat.le_of_eq rfl) (hb hby d11_69) (fun _ _ => ⟨rfl, e200, (by decide : 7 + 0 ≤ _), (by decide : 45 + 0 ≤ _)⟩)
  dsimp only [Pt.U, Pt.locs, Pt.cells, Pt.slots] at X201 l201 y201 z201 st201 hQ201
  subst l201 y201 z201
  obtain ⟨rfl, N201q, K201q, xE201, xS201, xD201, xM201, xV201⟩ := hQ201
  have N201 := Fr.app N199 N201q
  have ne_a197_b179 : a197 ≠ b179 := Exa.ne Ex197 c197_14 (by decide)
  have ne_a197_r192 : a197 ≠ r192 := Exa.neArv Ex197 c197_21 (hw _ (own_mem 19 rfl))
  have c201_0 := c197_0.keep K201q
  have c201_1 := c197_1.keep K201q (ninS ne_a0_b179 (ninS ne_a0_r192 nin0))
  have c201_2 := c197_2.keep K201q (ninS ne_a0_b179 (ninS ne_a0_r192 nin0))
  have c201_3 := own_sta_keepX c197_3 K201q (allS c197_14.nostat (allS c197_21.nostat all0))
  have c201_4 := own_sta_keepX c197_4 K201q (allS c197_14.nostat (allS c197_21.nostat all0))
  have c201_5 := c197_5.keep K201q (ninS ne_w_b179 (ninS ne_w_r192 nin0))
  have c201_6 := c197_6.keep K201q
  have c201_7 := c197_7.keep K201q (ninS ne_a1_b179 (ninS ne_a1_r192 nin0))
  have c201_8 := c197_8.keep K201q (ninS ne_a1_b179 (ninS ne_a1_r192 nin0))
  have c201_9 := c197_9.keep K201q (ninS ne_arr_b179 (ninS ne_arr_r192 nin0))
  have c201_10 := c197_10.keep K201q
  have c201_11 := c197_11.keep K201q
  have c201_12 := c197_12.keep K201q
  have c201_13 := c197_13.keep K201q
  have c201_14 := c197_14.keep K201q
  have c201_15 := c197_15.keep K201q
  have c201_16 := c197_16.keep K201q
  have c201_17 := own_ins_keep c197_17 K201q
  have c201_22 := Ex197.keep K201q
  have c201_23 := CHr.trans CR197 (CHr.keep K201q (allS (Safe.exa hZ.alike c197_14 (by decide) (by decide)) (allS (own_safe_arv hZ.alike c197_21 (by decide)) all0)) CR197.1)
  have c201_24 : k197 ≤ T201.heap.size := Nat.le_trans hk197 K201q.1
  have c201_25 := own_ins_keep (Ins.of_exa c197_11 (hw _ (own_mem 133 rfl))) K201q
  have nf202 : Fld Z T201.heap b179 "java/util/ArrayList" "size" "I" (.int (2 : Int32)) := xS201
  have nf203 : Fld Z T201.heap b179 "java/util/AbstractList" "modCount" "I" (.int (2 : Int32)) := xM201
  have nl201 : Arv Z T201.heap r192 kr192 (.object "java/lang/Object") (10 : Int32) [(.ref el0), (.ref el1), .null, .null, .null, .null, .null, .null, .null, .null] .null := xV201
  have Z201 : n0 ≤ T201.heap.size := Nat.le_trans Z197 K201q.1
  have K201 := Keep.trans K197 K201q (allS (Or.inr sz_b179) (allS (Or.inr sz_r192) all0))
  refine own_goW (U' := T201.setTop (mkF m 74 #[.val (.ref a0), .val (.ref a1), .val .null, .val (.int (2 : Int32)), .val (.ref el1)] [(.int (1 : Int32))])) (fun _ k => st201.trans k) ?_
  refine own_goW (U' := T201.setTop (mkF m 30 #[.val (.ref a0), .val (.ref a1), .val .null, .val (.int (2 : Int32)), .val (.ref el1)] [(.ref a1), (.int (2 : Int32))])) (fun _ k => XS.pop X201.here hx rfl (hb hby d11_74) rfl rfl (XS.goto X201.here hx rfl (pc0 := 75) (pc' := 28) rfl (hb hby d11_75) (by decide) (by decide) (XS.iloadN X201.here hx rfl (hb hby d11_28) rfl (XS.aloadN X201.here hx rfl (hb hby d11_29) rfl rfl k)))) ?_
  obtain ⟨cq204, kq204, q204a, q204b, q204c⟩ := isOf hZ rfl c201_6
  obtain ⟨_, _, ⟨T204, L204, k204, n204⟩, -, X204, ⟨Lc204, hQ204, l204, y204, z204⟩, st204⟩ := X201.interfaceBack hx (xi := (⟨"java/util/List", "size", "()I"⟩ : MethodName)) (y := (⟨"java/util/ArrayList", "size", "()I"⟩ : MethodName)) hown (mvT hZ (hw _ (own_mem 88 rfl))) (mvT hZ (hw _ (own_mem 89 rfl))) (mvT hZ (hw _ (own_mem 90 rfl))) (mvT hZ (hw _ (own_mem 91 rfl))) (mvT hZ (hw _ (own_mem 92 rfl))) (mvT hZ (hw _ (own_mem 93 rfl))) (mvT hZ (hw _ (own_mem 94 rfl))) (mvT hZ (hw _ (own_mem 95 rfl))) (by decide) (backOf (W := 1) (rm14 l Z aw hw [] a1 (4 : Int32) T201.heap n0 Z201 c201_7) hZ (hw _ (own_mem 96 rfl)) (hw _ (own_mem 37 rfl)) (by decide) (by decide)) q204a q204b q204c (g := (mkF m 30 #[.val (.ref a0), .val (.ref a1), .val .null, .val (.int (2 : Int32)), .val (.ref el1)] [(.ref a1), (.int (2 : Int32))])) rfl (by rw [hml]; rfl) (Steps.refl _) (argsL := []) (rest := [(.int (2 : Int32))]) (lenOf own_pd5 rfl) rfl (by show 2 * 0 + _ ≤ _; exact Nat.le_of_eq rfl) (hb hby d11_30) (fun _ _ => ⟨rfl, rfl, (by decide : 7 + 0 ≤ _), (by decide : 45 + 0 ≤ _)⟩)
  dsimp only [Pt.U, Pt.locs, Pt.cells, Pt.slots] at X204 l204 y204 z204 st204 hQ204
  subst l204 y204 z204
  obtain ⟨rfl, N204q, e204⟩ := hQ204
  have N204 := Fr.app N201 N204q
  refine own_goW (U' := T204.setTop (mkF m 35 #[.val (.ref a0), .val (.ref a1), .val .null, .val (.int (2 : Int32)), .val (.ref el1)] [(.int (4 : Int32)), (.int (2 : Int32))])) (fun _ k => st204.trans k) ?_
  refine own_goW (U' := T204.setTop (mkF m 40 #[.val (.ref a0), .val (.ref a1), .val .null, .val (.int (2 : Int32)), .val (.ref el1)] [(.int (2 : Int32)), (.ref a1)])) (fun _ k => XS.icmpNo X204.here hx rfl (hb hby d11_35) rfl (tlt (by decide : ((2 : Int32) < (4 : Int32)))).2.1 (XS.aloadN X204.here hx rfl (hb hby d11_38) rfl rfl (XS.iloadN X204.here hx rfl (hb hby d11_39) rfl k))) ?_
  obtain ⟨cq205, kq205, q205a, q205b, q205c⟩ := isOf hZ e204 c201_6
  obtain ⟨_, _, ⟨T205, L205, k205, n205⟩, -, X205, ⟨Lc205, hQ205, l205, y205, z205⟩, st205⟩ := X204.interfaceBack hx (xi := (⟨"java/util/List", "get", "(I)Ljava/lang/Object;"⟩ : MethodName)) (y := (⟨"java/util/ArrayList", "get", "(I)Ljava/lang/Object;"⟩ : MethodName)) hown (mvT hZ (hw _ (own_mem 137 rfl))) (mvT hZ (hw _ (own_mem 138 rfl))) (mvT hZ (hw _ (own_mem 139 rfl))) (mvT hZ (hw _ (own_mem 140 rfl))) (mvT hZ (hw _ (own_mem 141 rfl))) (mvT hZ (hw _ (own_mem 142 rfl))) (mvT hZ (hw _ (own_mem 143 rfl))) (mvT hZ (hw _ (own_mem 95 rfl))) (by decide) (backOf (W := 0) (rm20 l Z aw hw [] a1 (2 : Int32) (4 : Int32) arr k1 [(.ref el0), (.ref el1), (.ref el2), (.ref el3), .null, .null, .null, .null, .null, .null] el2 T201.heap n0 Z201 c201_6 c201_7 c201_8 c201_9 (by first | assumption | decide | rfl) (by first | assumption | decide | rfl) (by first | assumption | decide | rfl) (by first | assumption | decide | rfl)) hZ (hw _ (own_mem 144 rfl)) (hw _ (own_mem 37 rfl)) (by decide) (by decide)) q205a q205b q205c (g := (mkF m 40 #[.val (.ref a0), .val (.ref a1), .val .null, .val (.int (2 : Int32)), .val (.ref el1)] [(.int (2 : Int32)), (.ref a1)])) rfl (by rw [hml]; rfl) (Steps.refl _) (argsL := [(.int (2 : Int32))]) (rest := []) (lenOf own_pd9 rfl) rfl (by show 2 * 0 + _ ≤ _; exact Nat.le_of_eq rfl) (hb hby d11_40) (fun _ _ => ⟨rfl, e204, (by decide : 7 + 0 ≤ _), (by decide : 45 + 0 ≤ _)⟩)
  dsimp only [Pt.U, Pt.locs, Pt.cells, Pt.slots] at X205 l205 y205 z205 st205 hQ205
  subst l205 y205 z205
  obtain ⟨rfl, N205q, e205⟩ := hQ205
  have N205 := Fr.app N204 N205q
  refine own_goW (U' := T205.setTop (mkF m 45 #[.val (.ref a0), .val (.ref a1), .val .null, .val (.int (2 : Int32)), .val (.ref el1)] [(.ref el2)])) (fun _ k => st205.trans k) ?_
  obtain ⟨T206, X206, e206, st206⟩ := castY X205 hx hZ hown (hw _ (own_mem 158 rfl)) e205 (Ins.self c201_12) (g := (mkF m 45 #[.val (.ref a0), .val (.ref a1), .val .null, .val (.int (2 : Int32)), .val (.ref el1)] [(.ref el2)])) rfl rfl (hb hby d11_45)
  refine own_goW (U' := T206.setTop (mkF m 48 #[.val (.ref a0), .val (.ref a1), .val .null, .val (.int (2 : Int32)), .val (.ref el1)] [(.ref el2)])) (fun _ k => st206 _ k) ?_
  refine own_goW (U' := T206.setTop (mkF m 55 #[.val (.ref a0), .val (.ref a1), .val .null, .val (.int (3 : Int32)), .val (.ref el2)] [(.ref el2)])) (fun _ k => XS.astore X206.here hx rfl (hb hby d11_48) rfl rfl (l' := #[.val (.ref a0), .val (.ref a1), .val .null, .val (.int (2 : Int32)), .val (.ref el2)]) rfl (XS.iinc X206.here hx rfl (hb hby d11_50) rfl (l' := #[.val (.ref a0), .val (.ref a1), .val .null, .val (.int (3 : Int32)), .val (.ref el2)]) rfl (XS.aload X206.here hx rfl (hb hby d11_53) rfl rfl k))) ?_
  obtain ⟨a207, T207, h207, k207, b207, kc207, X207, e207, E207, hS207, hk207, hZ, hown, Ex207, Fc207, Fv207, Vb207, -, -, CH207, -, -, st207⟩ := ldcCH (s := s) (vm0 := T197.vm) X206 hx hZ hown (hw _ (own_mem 159 rfl)) (own_wS hw) e206 hS197 c201_24 (own_EW hw) (by decide) c201_23.1 (z := (2 : Int32)) own_text159 (by decide) rfl (g := (mkF m 55 #[.val (.ref a0), .val (.ref a1), .val .null, .val (.int (3 : Int32)), .val (.ref el2)] [(.ref el2)])) rfl (hb hby d11_55) (n := 8) (by decide) (by decide) (by decide) (by decide)
  have c207_0 := c201_0.ext E207
  have c207_1 := c201_1.ext E207
  have c207_2 := c201_2.ext E207
  have c207_3 := c201_3.ext E207
  have c207_4 := c201_4.ext E207
  have c207_5 := c201_5.ext E207
  have c207_6 := c201_6.ext E207
  have c207_7 := c201_7.ext E207
  have c207_8 := c201_8.ext E207
  have c207_9 := c201_9.ext E207
  have c207_10 := c201_10.ext E207
  have c207_11 := c201_11.ext E207
  have c207_12 := c201_12.ext E207
  have c207_13 := c201_13.ext E207
  have c207_14 := xE201.ext E207
  have c207_15 := c201_15.ext E207
  have c207_16 := c201_16.ext E207
  have c207_17 := c201_17.ext E207
  have c207_18 := c201_22.ext E207
  have c207_19 := c201_25.ext E207
  have c207_20 := nf202.ext E207
  have c207_21 := xD201.ext E207
  have c207_22 := nf203.ext E207
  have c207_23 := nl201.ext E207
  have Z207 : n0 ≤ h207.size := Nat.le_trans Z201 E207.1
  have K207 := Keep.ext K201 E207
  have CR207 := CHr.trans c201_23 CH207
  refine own_goW (U' := T207.setTop (mkF m 57 #[.val (.ref a0), .val (.ref a1), .val .null, .val (.int (3 : Int32)), .val (.ref el2)] [(.ref a207), (.ref el2)])) (fun _ k => st207 _ k) ?_
  have hO208 : own_S Z h207 el2 := own_S.keepA hw S_2 K207 E_t
  obtain ⟨cq209, kq209, q209a, q209b, q209c⟩ := isOf hZ e207 c207_12
  obtain ⟨_, _, ⟨T209, L209, k209, n209⟩, -, X209, ⟨Lc209, hQ209, l209, y209, z209⟩, st209⟩ := X207.virtualBack hx (y := (⟨"java/lang/String", "startsWith", "(Ljava/lang/String;)Z"⟩ : MethodName)) (z := (⟨"java/lang/String", "startsWith", "(Ljava/lang/String;)Z"⟩ : MethodName)) hown (mvT hZ (hw _ (own_mem 160 rfl))) (mvT hZ (hw _ (own_mem 161 rfl))) (notFace_of_selects (args := #[]) (mvT hZ (hw _ (own_mem 163 rfl)))) (mvT hZ (hw _ (own_mem 163 rfl))) (mvT hZ (hw _ (own_mem 162 rfl))) (by decide) (backOf (W := 0) (rm24 l Z aw hw [] el2 a207 cs b207 kc207 h207 n0 Z207 c207_3 c207_12 Ex207 Fc207 Fv207 Vb207 (by first | assumption | decide | rfl) (by first | assumption | decide | rfl)) hZ (hw _ (own_mem 164 rfl)) (hw _ (own_mem 11 rfl)) (by decide) (by decide)) q209a q209c (g := (mkF m 57 #[.val (.ref a0), .val (.ref a1), .val .null, .val (.int (3 : Int32)), .val (.ref el2)] [(.ref a207), (.ref el2)])) rfl (by rw [hml]; rfl) (Steps.refl _) (argsL := [(.ref a207)]) (rest := []) (lenOf own_pd14 rfl) rfl (by show 2 * 0 + _ ≤ _; exact Nat.le_of_eq rfl) (hb hby d11_57) (fun _ _ => ⟨rfl, e207, (by decide : 9 + 0 ≤ _), (by decide : 57 + 0 ≤ _)⟩)
  dsimp only [Pt.U, Pt.locs, Pt.cells, Pt.slots] at X209 l209 y209 z209 st209 hQ209
  subst l209 y209 z209
  obtain ⟨rfl, N209q, e209⟩ := hQ209
  have N209 := Fr.app N205 N209q
  refine own_goW (U' := T209.setTop (mkF m 60 #[.val (.ref a0), .val (.ref a1), .val .null, .val (.int (3 : Int32)), .val (.ref el2)] [(.int (0 : Int32))])) (fun _ k => st209.trans k) ?_
  refine own_goW (U' := T209.setTop (mkF m 64 #[.val (.ref a0), .val (.ref a1), .val .null, .val (.int (3 : Int32)), .val (.ref el2)] [(.ref a0)])) (fun _ k => XS.ifNo X209.here hx rfl (hb hby d11_60) rfl ((if0 _ _).trans (teq (by decide : ((0 : Int32) = (0 : Int32)))).2) (XS.aloadN X209.here hx rfl (hb hby d11_63) rfl rfl k)) ?_
  obtain ⟨T210, X210, e210, st210⟩ := getF X209 hx hZ hown (host := "") (Or.inl (hw _ (own_mem 68 rfl))) Via.refl e209 c207_1 (g := (mkF m 64 #[.val (.ref a0), .val (.ref a1), .val .null, .val (.int (3 : Int32)), .val (.ref el2)] [(.ref a0)])) rfl rfl (hb hby d11_64)
  refine own_goW (U' := T210.setTop (mkF m 67 #[.val (.ref a0), .val (.ref a1), .val .null, .val (.int (3 : Int32)), .val (.ref el2)] [(.ref b179)])) (fun _ k => st210 _ k) ?_
  refine own_goW (U' := T210.setTop (mkF m 69 #[.val (.ref a0), .val (.ref a1), .val .null, .val (.int (3 : Int32)), .val (.ref el2)] [(.ref el2), (.ref b179)])) (fun _ k => XS.aload X210.here hx rfl (hb hby d11_67) rfl rfl k) ?_
  obtain ⟨cq211, kq211, q211a, q211b, q211c⟩ := isOf hZ e210 c207_14
  obtain ⟨_, _, ⟨T211, L211, k211, n211⟩, -, X211, ⟨Lc211, hQ211, l211, y211, z211⟩, st211⟩ := X210.interfaceBack hx (xi := (⟨"java/util/List", "add", "(Ljava/lang/Object;)Z"⟩ : MethodName)) (y := (⟨"java/util/ArrayList", "add", "(Ljava/lang/Object;)Z"⟩ : MethodName)) hown (mvT hZ (hw _ (own_mem 180 rfl))) (mvT hZ (hw _ (own_mem 106 rfl))) (mvT hZ (hw _ (own_mem 107 rfl))) (mvT hZ (hw _ (own_mem 108 rfl))) (mvT hZ (hw _ (own_mem 109 rfl))) (mvT hZ (hw _ (own_mem 110 rfl))) (mvT hZ (hw _ (own_mem 111 rfl))) (mvT hZ (hw _ (own_mem 95 rfl))) (by decide) (backOf (W := 0) (rm16s l Z aw hw [] b179 el2 r192 kr192 (2 : Int32) (2 : Int32) [(.ref el0), (.ref el1), .null, .null, .null, .null, .null, .null, .null, .null] h207 n0 Z207 (Ins.of_exa c207_12 (hw _ (own_mem 133 rfl))) c207_14 c207_20 c207_21 c207_22 c207_23 (by first | assumption | decide | rfl) (by first | assumption | decide | rfl) (by first | assumption | decide | rfl) (by first | assumption | decide | rfl) (by first | assumption | decide | rfl) (by first | assumption | decide | rfl) (by first | assumption | decide | rfl) (by first | assumption | decide | rfl)) hZ (hw _ (own_mem 112 rfl)) (hw _ (own_mem 37 rfl)) (by decide) (by decide)) q211a q211b q211c (g := (mkF m 69 #[.val (.ref a0), .val (.ref a1), .val .null, .val (.int (3 : Int32)), .val (.ref el2)] [(.ref el2), (.ref b179)])) rfl (by rw [hml]; rfl) (Steps.refl _) (argsL := [(.ref el2)]) (rest := []) (lenOf own_pd15 rfl) rfl (by show 2 * 0 + _ ≤ _; exact Nat.le_of_eq rfl) (hb hby d11_69) (fun _ _ => ⟨rfl, e210, (by decide : 9 + 0 ≤ _), (by decide : 57 + 0 ≤ _)⟩)
  dsimp only [Pt.U, Pt.locs, Pt.cells, Pt.slots] at X211 l211 y211 z211 st211 hQ211
  subst l211 y211 z211
  obtain ⟨rfl, N211q, K211q, xE211, xS211, xD211, xM211, xV211⟩ := hQ211
  have N211 := Fr.app N209 N211q
  have ne_a207_b179 : a207 ≠ b179 := Exa.ne Ex207 c207_14 (by decide)
  have ne_a207_r192 : a207 ≠ r192 := Exa.neArv Ex207 c207_23 (hw _ (own_mem 19 rfl))
  have c211_0 := c207_0.keep K211q
  have c211_1 := c207_1.keep K211q (ninS ne_a0_b179 (ninS ne_a0_r192 nin0))
  have c211_2 := c207_2.keep K211q (ninS ne_a0_b179 (ninS ne_a0_r192 nin0))
  have c211_3 := own_sta_keepX c207_3 K211q (allS c207_14.nostat (allS c207_23.nostat all0))
  have c211_4 := own_sta_keepX c207_4 K211q (allS c207_14.nostat (allS c207_23.nostat all0))
  have c211_5 := c207_5.keep K211q (ninS ne_w_b179 (ninS ne_w_r192 nin0))
  have c211_6 := c207_6.keep K211q
  have c211_7 := c207_7.keep K211q (ninS ne_a1_b179 (ninS ne_a1_r192 nin0))
  have c211_8 := c207_8.keep K211q (ninS ne_a1_b179 (ninS ne_a1_r192 nin0))
  have c211_9 := c207_9.keep K211q (ninS ne_arr_b179 (ninS ne_arr_r192 nin0))
  have c211_10 := c207_10.keep K211q
  have c211_11 := c207_11.keep K211q
  have c211_12 := c207_12.keep K211q
  have c211_13 := c207_13.keep K211q
  have c211_14 := c207_14.keep K211q
  have c211_15 := c207_15.keep K211q
  have c211_16 := c207_16.keep K211q
  have c211_17 := own_ins_keep c207_17 K211q
  have c211_18 := c207_18.keep K211q
  have c211_19 := own_ins_keep c207_19 K211q
  have c211_24 := Ex207.keep K211q
  have c211_25 := CHr.trans CR207 (CHr.keep K211q (allS (Safe.exa hZ.alike c207_14 (by decide) (by decide)) (allS (own_safe_arv hZ.alike c207_23 (by decide)) all0)) CR207.1)
  have c211_26 : k207 ≤ T211.heap.size := Nat.le_trans hk207 K211q.1
  have c211_27 := own_ins_keep (Ins.of_exa c207_12 (hw _ (own_mem 133 rfl))) K211q
  have nf212 : Fld Z T211.heap b179 "java/util/ArrayList" "size" "I" (.int (3 : Int32)) := xS211
  have nf213 : Fld Z T211.heap b179 "java/util/AbstractList" "modCount" "I" (.int (3 : Int32)) := xM211
  have nl211 : Arv Z T211.heap r192 kr192 (.object "java/lang/Object") (10 : Int32) [(.ref el0), (.ref el1), (.ref el2), .null, .null, .null, .null, .null, .null, .null] .null := xV211
  have Z211 : n0 ≤ T211.heap.size := Nat.le_trans Z207 K211q.1
  have K211 := Keep.trans K207 K211q (allS (Or.inr sz_b179) (allS (Or.inr sz_r192) all0))
  refine own_goW (U' := T211.setTop (mkF m 74 #[.val (.ref a0), .val (.ref a1), .val .null, .val (.int (3 : Int32)), .val (.ref el2)] [(.int (1 : Int32))])) (fun _ k => st211.trans k) ?_
  refine own_goW (U' := T211.setTop (mkF m 30 #[.val (.ref a0), .val (.ref a1), .val .null, .val (.int (3 : Int32)), .val (.ref el2)] [(.ref a1), (.int (3 : Int32))])) (fun _ k => XS.pop X211.here hx rfl (hb hby d11_74) rfl rfl (XS.goto X211.here hx rfl (pc0 := 75) (pc' := 28) rfl (hb hby d11_75) (by decide) (by decide) (XS.iloadN X211.here hx rfl (hb hby d11_28) rfl (XS.aloadN X211.here hx rfl (hb hby d11_29) rfl rfl k)))) ?_
  obtain ⟨cq214, kq214, q214a, q214b, q214c⟩ := isOf hZ rfl c211_6
  obtain ⟨_, _, ⟨T214, L214, k214, n214⟩, -, X214, ⟨Lc214, hQ214, l214, y214, z214⟩, st214⟩ := X211.interfaceBack hx (xi := (⟨"java/util/List", "size", "()I"⟩ : MethodName)) (y := (⟨"java/util/ArrayList", "size", "()I"⟩ : MethodName)) hown (mvT hZ (hw _ (own_mem 88 rfl))) (mvT hZ (hw _ (own_mem 89 rfl))) (mvT hZ (hw _ (own_mem 90 rfl))) (mvT hZ (hw _ (own_mem 91 rfl))) (mvT hZ (hw _ (own_mem 92 rfl))) (mvT hZ (hw _ (own_mem 93 rfl))) (mvT hZ (hw _ (own_mem 94 rfl))) (mvT hZ (hw _ (own_mem 95 rfl))) (by decide) (backOf (W := 1) (rm14 l Z aw hw [] a1 (4 : Int32) T211.heap n0 Z211 c211_7) hZ (hw _ (own_mem 96 rfl)) (hw _ (own_mem 37 rfl)) (by decide) (by decide)) q214a q214b q214c (g := (mkF m 30 #[.val (.ref a0), .val (.ref a1), .val .null, .val (.int (3 : Int32)), .val (.ref el2)] [(.ref a1), (.int (3 : Int32))])) rfl (by rw [hml]; rfl) (Steps.refl _) (argsL := []) (rest := [(.int (3 : Int32))]) (lenOf own_pd5 rfl) rfl (by show 2 * 0 + _ ≤ _; exact Nat.le_of_eq rfl) (hb hby d11_30) (fun _ _ => ⟨rfl, rfl, (by decide : 9 + 0 ≤ _), (by decide : 57 + 0 ≤ _)⟩)
  dsimp only [Pt.U, Pt.locs, Pt.cells, Pt.slots] at X214 l214 y214 z214 st214 hQ214
  subst l214 y214 z214
  obtain ⟨rfl, N214q, e214⟩ := hQ214
  have N214 := Fr.app N211 N214q
  refine own_goW (U' := T214.setTop (mkF m 35 #[.val (.ref a0), .val (.ref a1), .val .null, .val (.int (3 : Int32)), .val (.ref el2)] [(.int (4 : Int32)), (.int (3 : Int32))])) (fun _ k => st214.trans k) ?_
  refine own_goW (U' := T214.setTop (mkF m 40 #[.val (.ref a0), .val (.ref a1), .val .null, .val (.int (3 : Int32)), .val (.ref el2)] [(.int (3 : Int32)), (.ref a1)])) (fun _ k => XS.icmpNo X214.here hx rfl (hb hby d11_35) rfl (tlt (by decide : ((3 : Int32) < (4 : Int32)))).2.1 (XS.aloadN X214.here hx rfl (hb hby d11_38) rfl rfl (XS.iloadN X214.here hx rfl (hb hby d11_39) rfl k))) ?_
  obtain ⟨cq215, kq215, q215a, q215b, q215c⟩ := isOf hZ e214 c211_6
  obtain ⟨_, _, ⟨T215, L215, k215, n215⟩, -, X215, ⟨Lc215, hQ215, l215, y215, z215⟩, st215⟩ := X214.interfaceBack hx (xi := (⟨"java/util/List", "get", "(I)Ljava/lang/Object;"⟩ : MethodName)) (y := (⟨"java/util/ArrayList", "get", "(I)Ljava/lang/Object;"⟩ : MethodName)) hown (mvT hZ (hw _ (own_mem 137 rfl))) (mvT hZ (hw _ (own_mem 138 rfl))) (mvT hZ (hw _ (own_mem 139 rfl))) (mvT hZ (hw _ (own_mem 140 rfl))) (mvT hZ (hw _ (own_mem 141 rfl))) (mvT hZ (hw _ (own_mem 142 rfl))) (mvT hZ (hw _ (own_mem 143 rfl))) (mvT hZ (hw _ (own_mem 95 rfl))) (by decide) (backOf (W := 0) (rm20 l Z aw hw [] a1 (3 : Int32) (4 : Int32) arr k1 [(.ref el0), (.ref el1), (.ref el2), (.ref el3), .null, .null, .null, .null, .null, .null] el3 T211.heap n0 Z211 c211_6 c211_7 c211_8 c211_9 (by first | assumption | decide | rfl) (by first | assumption | decide | rfl) (by first | assumption | decide | rfl) (by first | assumption | decide | rfl)) hZ (hw _ (own_mem 144 rfl)) (hw _ (own_mem 37 rfl)) (by decide) (by decide)) q215a q215b q215c (g := (mkF m 40 #[.val (.ref a0), .val (.ref a1), .val .null, .val (.int (3 : Int32)), .val (.ref el2)] [(.int (3 : Int32)), (.ref a1)])) rfl (by rw [hml]; rfl) (Steps.refl _) (argsL := [(.int (3 : Int32))]) (rest := []) (lenOf own_pd9 rfl) rfl (by show 2 * 0 + _ ≤ _; exact Nat.le_of_eq rfl) (hb hby d11_40) (fun _ _ => ⟨rfl, e214, (by decide : 9 + 0 ≤ _), (by decide : 57 + 0 ≤ _)⟩)
  dsimp only [Pt.U, Pt.locs, Pt.cells, Pt.slots] at X215 l215 y215 z215 st215 hQ215
  subst l215 y215 z215
  obtain ⟨rfl, N215q, e215⟩ := hQ215
  have N215 := Fr.app N214 N215q
  refine own_goW (U' := T215.setTop (mkF m 45 #[.val (.ref a0), .val (.ref a1), .val .null, .val (.int (3 : Int32)), .val (.ref el2)] [(.ref el3)])) (fun _ k => st215.trans k) ?_
  obtain ⟨T216, X216, e216, st216⟩ := castY X215 hx hZ hown (hw _ (own_mem 158 rfl)) e215 (Ins.self c211_13) (g := (mkF m 45 #[.val (.ref a0), .val (.ref a1), .val .null, .val (.int (3 : Int32)), .val (.ref el2)] [(.ref el3)])) rfl rfl (hb hby d11_45)
  refine own_goW (U' := T216.setTop (mkF m 48 #[.val (.ref a0), .val (.ref a1), .val .null, .val (.int (3 : Int32)), .val (.ref el2)] [(.ref el3)])) (fun _ k => st216 _ k) ?_
  refine own_goW (U' := T216.setTop (mkF m 55 #[.val (.ref a0), .val (.ref a1), .val .null, .val (.int (4 : Int32)), .val (.ref el3)] [(.ref el3)])) (fun _ k => XS.astore X216.here hx rfl (hb hby d11_48) rfl rfl (l' := #[.val (.ref a0), .val (.ref a1), .val .null, .val (.int (3 : Int32)), .val (.ref el3)]) rfl (XS.iinc X216.here hx rfl (hb hby d11_50) rfl (l' := #[.val (.ref a0), .val (.ref a1), .val .null, .val (.int (4 : Int32)), .val (.ref el3)]) rfl (XS.aload X216.here hx rfl (hb hby d11_53) rfl rfl k))) ?_
  obtain ⟨a217, T217, h217, k217, b217, kc217, X217, e217, E217, hS217, hk217, hZ, hown, Ex217, Fc217, Fv217, Vb217, -, -, CH217, -, -, st217⟩ := ldcCH (s := s) (vm0 := T207.vm) X216 hx hZ hown (hw _ (own_mem 159 rfl)) (own_wS hw) e216 hS207 c211_26 (own_EW hw) (by decide) c211_25.1 (z := (2 : Int32)) own_text159 (by decide) rfl (g := (mkF m 55 #[.val (.ref a0), .val (.ref a1), .val .null, .val (.int (4 : Int32)), .val (.ref el3)] [(.ref el3)])) rfl (hb hby d11_55) (n := 8) (by decide) (by decide) (by decide) (by decide)
  have c217_0 := c211_0.ext E217
  have c217_1 := c211_1.ext E217
  have c217_2 := c211_2.ext E217
  have c217_3 := c211_3.ext E217
  have c217_4 := c211_4.ext E217
  have c217_5 := c211_5.ext E217
  have c217_6 := c211_6.ext E217
  have c217_7 := c211_7.ext E217
  have c217_8 := c211_8.ext E217
  have c217_9 := c211_9.ext E217
  have c217_10 := c211_10.ext E217
  have c217_11 := c211_11.ext E217
  have c217_12 := c211_12.ext E217
  have c217_13 := c211_13.ext E217
  have c217_14 := xE211.ext E217
  have c217_15 := c211_15.ext E217
  have c217_16 := c211_16.ext E217
  have c217_17 := c211_17.ext E217
  have c217_18 := c211_18.ext E217
  have c217_19 := c211_19.ext E217
  have c217_20 := c211_24.ext E217
  have c217_21 := c211_27.ext E217
  have c217_22 := nf212.ext E217
  have c217_23 := xD211.ext E217
  have c217_24 := nf213.ext E217
  have c217_25 := nl211.ext E217
  have Z217 : n0 ≤ h217.size := Nat.le_trans Z211 E217.1
  have K217 := Keep.ext K211 E217
  have CR217 := CHr.trans c211_25 CH217
  refine own_goW (U' := T217.setTop (mkF m 57 #[.val (.ref a0), .val (.ref a1), .val .null, .val (.int (4 : Int32)), .val (.ref el3)] [(.ref a217), (.ref el3)])) (fun _ k => st217 _ k) ?_
  have hO218 : own_S Z h217 el3 := own_S.keepA hw S_3 K217 E_t
  obtain ⟨cq219, kq219, q219a, q219b, q219c⟩ := isOf hZ e217 c217_13
  obtain ⟨_, _, ⟨T219, L219, k219, n219⟩, -, X219, ⟨Lc219, hQ219, l219, y219, z219⟩, st219⟩ := X217.virtualBack hx (y := (⟨"java/lang/String", "startsWith", "(Ljava/lang/String;)Z"⟩ : MethodName)) (z := (⟨"java/lang/String", "startsWith", "(Ljava/lang/String;)Z"⟩ : MethodName)) hown (mvT hZ (hw _ (own_mem 160 rfl))) (mvT hZ (hw _ (own_mem 161 rfl))) (notFace_of_selects (args := #[]) (mvT hZ (hw _ (own_mem 163 rfl)))) (mvT hZ (hw _ (own_mem 163 rfl))) (mvT hZ (hw _ (own_mem 162 rfl))) (by decide) (backOf (W := 0) (rm24 l Z aw hw [] el3 a217 cs b217 kc217 h217 n0 Z217 c217_3 c217_13 Ex217 Fc217 Fv217 Vb217 (by first | assumption | decide | rfl) (by first | assumption | decide | rfl)) hZ (hw _ (own_mem 164 rfl)) (hw _ (own_mem 11 rfl)) (by decide) (by decide)) q219a q219c (g := (mkF m 57 #[.val (.ref a0), .val (.ref a1), .val .null, .val (.int (4 : Int32)), .val (.ref el3)] [(.ref a217), (.ref el3)])) rfl (by rw [hml]; rfl) (Steps.refl _) (argsL := [(.ref a217)]) (rest := []) (lenOf own_pd14 rfl) rfl (by show 2 * 0 + _ ≤ _; exact Nat.le_of_eq rfl) (hb hby d11_57) (fun _ _ => ⟨rfl, e217, (by decide : 11 + 0 ≤ _), (by decide : 69 + 0 ≤ _)⟩)
  dsimp only [Pt.U, Pt.locs, Pt.cells, Pt.slots] at X219 l219 y219 z219 st219 hQ219
  subst l219 y219 z219
  obtain ⟨rfl, N219q, e219⟩ := hQ219
  have N219 := Fr.app N215 N219q
  refine own_goW (U' := T219.setTop (mkF m 60 #[.val (.ref a0), .val (.ref a1), .val .null, .val (.int (4 : Int32)), .val (.ref el3)] [(.int (0 : Int32))])) (fun _ k => st219.trans k) ?_
  refine own_goW (U' := T219.setTop (mkF m 64 #[.val (.ref a0), .val (.ref a1), .val .null, .val (.int (4 : Int32)), .val (.ref el3)] [(.ref a0)])) (fun _ k => XS.ifNo X219.here hx rfl (hb hby d11_60) rfl ((if0 _ _).trans (teq (by decide : ((0 : Int32) = (0 : Int32)))).2) (XS.aloadN X219.here hx rfl (hb hby d11_63) rfl rfl k)) ?_
  obtain ⟨T220, X220, e220, st220⟩ := getF X219 hx hZ hown (host := "") (Or.inl (hw _ (own_mem 68 rfl))) Via.refl e219 c217_1 (g := (mkF m 64 #[.val (.ref a0), .val (.ref a1), .val .null, .val (.int (4 : Int32)), .val (.ref el3)] [(.ref a0)])) rfl rfl (hb hby d11_64)
  refine own_goW (U' := T220.setTop (mkF m 67 #[.val (.ref a0), .val (.ref a1), .val .null, .val (.int (4 : Int32)), .val (.ref el3)] [(.ref b179)])) (fun _ k => st220 _ k) ?_
  refine own_goW (U' := T220.setTop (mkF m 69 #[.val (.ref a0), .val (.ref a1), .val .null, .val (.int (4 : Int32)), .val (.ref el3)] [(.ref el3), (.ref b179)])) (fun _ k => XS.aload X220.here hx rfl (hb hby d11_67) rfl rfl k) ?_
  obtain ⟨cq221, kq221, q221a, q221b, q221c⟩ := isOf hZ e220 c217_14
  obtain ⟨_, _, ⟨T221, L221, k221, n221⟩, -, X221, ⟨Lc221, hQ221, l221, y221, z221⟩, st221⟩ := X220.interfaceBack hx (xi := (⟨"java/util/List", "add", "(Ljava/lang/Object;)Z"⟩ : MethodName)) (y := (⟨"java/util/ArrayList", "add", "(Ljava/lang/Object;)Z"⟩ : MethodName)) hown (mvT hZ (hw _ (own_mem 180 rfl))) (mvT hZ (hw _ (own_mem 106 rfl))) (mvT hZ (hw _ (own_mem 107 rfl))) (mvT hZ (hw _ (own_mem 108 rfl))) (mvT hZ (hw _ (own_mem 109 rfl))) (mvT hZ (hw _ (own_mem 110 rfl))) (mvT hZ (hw _ (own_mem 111 rfl))) (mvT hZ (hw _ (own_mem 95 rfl))) (by decide) (backOf (W := 0) (rm16s l Z aw hw [] b179 el3 r192 kr192 (3 : Int32) (3 : Int32) [(.ref el0), (.ref el1), (.ref el2), .null, .null, .null, .null, .null, .null, .null] h217 n0 Z217 (Ins.of_exa c217_13 (hw _ (own_mem 133 rfl))) c217_14 c217_22 c217_23 c217_24 c217_25 (by first | assumption | decide | rfl) (by first | assumption | decide | rfl) (by first | assumption | decide | rfl) (by first | assumption | decide | rfl) (by first | assumption | decide | rfl) (by first | assumption | decide | rfl) (by first | assumption | decide | rfl) (by first | assumption | decide | rfl)) hZ (hw _ (own_mem 112 rfl)) (hw _ (own_mem 37 rfl)) (by decide) (by decide)) q221a q221b q221c (g := (mkF m 69 #[.val (.ref a0), .val (.ref a1), .val .null, .val (.int (4 : Int32)), .val (.ref el3)] [(.ref el3), (.ref b179)])) rfl (by rw [hml]; rfl) (Steps.refl _) (argsL := [(.ref el3)]) (rest := []) (lenOf own_pd15 rfl) rfl (by show 2 * 0 + _ ≤ _; exact Nat.le_of_eq rfl) (hb hby d11_69) (fun _ _ => ⟨rfl, e220, (by decide : 11 + 0 ≤ _), (by decide : 69 + 0 ≤ _)⟩)
  dsimp only [Pt.U, Pt.locs, Pt.cells, Pt.slots] at X221 l221 y221 z221 st221 hQ221
  subst l221 y221 z221
  obtain ⟨rfl, N221q, K221q, xE221, xS221, xD221, xM221, xV221⟩ := hQ221
  have N221 := Fr.app N219 N221q
  have ne_a217_b179 : a217 ≠ b179 := Exa.ne Ex217 c217_14 (by decide)
  have ne_a217_r192 : a217 ≠ r192 := Exa.neArv Ex217 c217_25 (hw _ (own_mem 19 rfl))
  have c221_0 := c217_0.keep K221q
  have c221_1 := c217_1.keep K221q (ninS ne_a0_b179 (ninS ne_a0_r192 nin0))
  have c221_2 := c217_2.keep K221q (ninS ne_a0_b179 (ninS ne_a0_r192 nin0))
  have c221_3 := own_sta_keepX c217_3 K221q (allS c217_14.nostat (allS c217_25.nostat all0))
  have c221_4 := own_sta_keepX c217_4 K221q (allS c217_14.nostat (allS c217_25.nostat all0))
  have c221_5 := c217_5.keep K221q (ninS ne_w_b179 (ninS ne_w_r192 nin0))
  have c221_6 := c217_6.keep K221q
  have c221_7 := c217_7.keep K221q (ninS ne_a1_b179 (ninS ne_a1_r192 nin0))
  have c221_8 := c217_8.keep K221q (ninS ne_a1_b179 (ninS ne_a1_r192 nin0))
  have c221_9 := c217_9.keep K221q (ninS ne_arr_b179 (ninS ne_arr_r192 nin0))
  have c221_10 := c217_10.keep K221q
  have c221_11 := c217_11.keep K221q
  have c221_12 := c217_12.keep K221q
  have c221_13 := c217_13.keep K221q
  have c221_14 := c217_14.keep K221q
  have c221_15 := c217_15.keep K221q
  have c221_16 := c217_16.keep K221q
  have c221_17 := own_ins_keep c217_17 K221q
  have c221_18 := c217_18.keep K221q
  have c221_19 := own_ins_keep c217_19 K221q
  have c221_20 := c217_20.keep K221q
  have c221_21 := own_ins_keep c217_21 K221q
  have c221_26 := Ex217.keep K221q
  have c221_27 := CHr.trans CR217 (CHr.keep K221q (allS (Safe.exa hZ.alike c217_14 (by decide) (by decide)) (allS (own_safe_arv hZ.alike c217_25 (by decide)) all0)) CR217.1)
  have c221_28 : k217 ≤ T221.heap.size := Nat.le_trans hk217 K221q.1
  have c221_29 := own_ins_keep (Ins.of_exa c217_13 (hw _ (own_mem 133 rfl))) K221q
  have nf222 : Fld Z T221.heap b179 "java/util/ArrayList" "size" "I" (.int (4 : Int32)) := xS221
  have nf223 : Fld Z T221.heap b179 "java/util/AbstractList" "modCount" "I" (.int (4 : Int32)) := xM221
  have nl221 : Arv Z T221.heap r192 kr192 (.object "java/lang/Object") (10 : Int32) [(.ref el0), (.ref el1), (.ref el2), (.ref el3), .null, .null, .null, .null, .null, .null] .null := xV221
  have Z221 : n0 ≤ T221.heap.size := Nat.le_trans Z217 K221q.1
  have K221 := Keep.trans K217 K221q (allS (Or.inr sz_b179) (allS (Or.inr sz_r192) all0))
  refine own_goW (U' := T221.setTop (mkF m 74 #[.val (.ref a0), .val (.ref a1), .val .null, .val (.int (4 : Int32)), .val (.ref el3)] [(.int (1 : Int32))])) (fun _ k => st221.trans k) ?_
  refine own_goW (U' := T221.setTop (mkF m 30 #[.val (.ref a0), .val (.ref a1), .val .null, .val (.int (4 : Int32)), .val (.ref el3)] [(.ref a1), (.int (4 : Int32))])) (fun _ k => XS.pop X221.here hx rfl (hb hby d11_74) rfl rfl (XS.goto X221.here hx rfl (pc0 := 75) (pc' := 28) rfl (hb hby d11_75) (by decide) (by decide) (XS.iloadN X221.here hx rfl (hb hby d11_28) rfl (XS.aloadN X221.here hx rfl (hb hby d11_29) rfl rfl k)))) ?_
  obtain ⟨cq224, kq224, q224a, q224b, q224c⟩ := isOf hZ rfl c221_6
  obtain ⟨_, _, ⟨T224, L224, k224, n224⟩, -, X224, ⟨Lc224, hQ224, l224, y224, z224⟩, st224⟩ := X221.interfaceBack hx (xi := (⟨"java/util/List", "size", "()I"⟩ : MethodName)) (y := (⟨"java/util/ArrayList", "size", "()I"⟩ : MethodName)) hown (mvT hZ (hw _ (own_mem 88 rfl))) (mvT hZ (hw _ (own_mem 89 rfl))) (mvT hZ (hw _ (own_mem 90 rfl))) (mvT hZ (hw _ (own_mem 91 rfl))) (mvT hZ (hw _ (own_mem 92 rfl))) (mvT hZ (hw _ (own_mem 93 rfl))) (mvT hZ (hw _ (own_mem 94 rfl))) (mvT hZ (hw _ (own_mem 95 rfl))) (by decide) (backOf (W := 1) (rm14 l Z aw hw [] a1 (4 : Int32) T221.heap n0 Z221 c221_7) hZ (hw _ (own_mem 96 rfl)) (hw _ (own_mem 37 rfl)) (by decide) (by decide)) q224a q224b q224c (g := (mkF m 30 #[.val (.ref a0), .val (.ref a1), .val .null, .val (.int (4 : Int32)), .val (.ref el3)] [(.ref a1), (.int (4 : Int32))])) rfl (by rw [hml]; rfl) (Steps.refl _) (argsL := []) (rest := [(.int (4 : Int32))]) (lenOf own_pd5 rfl) rfl (by show 2 * 0 + _ ≤ _; exact Nat.le_of_eq rfl) (hb hby d11_30) (fun _ _ => ⟨rfl, rfl, (by decide : 11 + 0 ≤ _), (by decide : 69 + 0 ≤ _)⟩)
  dsimp only [Pt.U, Pt.locs, Pt.cells, Pt.slots] at X224 l224 y224 z224 st224 hQ224
  subst l224 y224 z224
  obtain ⟨rfl, N224q, e224⟩ := hQ224
  have N224 := Fr.app N221 N224q
  refine own_goW (U' := T224.setTop (mkF m 35 #[.val (.ref a0), .val (.ref a1), .val .null, .val (.int (4 : Int32)), .val (.ref el3)] [(.int (4 : Int32)), (.int (4 : Int32))])) (fun _ k => st224.trans k) ?_
  refine own_goW (U' := T224.setTop (mkF m 174 #[.val (.ref a0), .val (.ref a1), .val .null, .val (.int (4 : Int32)), .val (.ref el3)] [])) (fun _ k => XS.icmpYes X224.here hx rfl (pc0 := 35) (pc' := 174) rfl (hb hby d11_35) rfl (flt (by decide : ¬ ((4 : Int32) < (4 : Int32)))).2.1 (by decide) (by decide) k) ?_
  refine own_retW (vm₁ := T217.vm) X224 hS217 (by rw [show T224.heap = T221.heap from e224]; exact c221_28) (by rw [hh, show T224.heap = T221.heap from e224]; exact CHr.trans c221_27 (CHv.at (s := s) (vm0 := T217.vm) X224 hZ (own_EW hw) c221_27.1)) (v := none) hlk (fun _ => rfl) (by decide) (by decide) (fun fs hr => X224.returnOut hx Bd.returns (hb hby d11_174) hr) ?_
  show (Q11_4 Z a0 a1 cs w k0 arr k1 el0 el1 el2 el3 h0 n0) _ T224.heap _
  rw [e224]
  exact ⟨rfl, N224, K221, c221_0, ⟨_, sz_b179, c221_1, xE221, nf222, ⟨_, _, xD221, nl221⟩⟩⟩
theorem d15_0 : decode prog_1_method_4_code 0 = .ok (.aload_n 0, 1) := by decide +kernel
theorem d15_1 : decode prog_1_method_4_code 1 = .ok (.getfield 10, 3) := by decide +kernel
theorem d15_4 : decode prog_1_method_4_code 4 = .ok (.invokeinterface 23 1, 5) := by decide +kernel
theorem d15_9 : decode prog_1_method_4_code 9 = .ok (.aload_n 1, 1) := by decide +kernel
theorem d15_10 : decode prog_1_method_4_code 10 = .ok (.invokeinterface 23 1, 5) := by decide +kernel
theorem d15_15 : decode prog_1_method_4_code 15 = .ok (.if_icmp .ge 34, 3) := by decide +kernel
theorem d15_49 : decode prog_1_method_4_code 49 = .ok (.aload_n 0, 1) := by decide +kernel
theorem d15_50 : decode prog_1_method_4_code 50 = .ok (.getfield 10, 3) := by decide +kernel
theorem d15_53 : decode prog_1_method_4_code 53 = .ok (.invokeinterface 23 1, 5) := by decide +kernel
theorem d15_58 : decode prog_1_method_4_code 58 = .ok (.aload_n 1, 1) := by decide +kernel
theorem d15_59 : decode prog_1_method_4_code 59 = .ok (.invokeinterface 23 1, 5) := by decide +kernel
theorem d15_64 : decode prog_1_method_4_code 64 = .ok (.iload_n 2, 1) := by decide +kernel
theorem d15_65 : decode prog_1_method_4_code 65 = .ok (.iadd, 1) := by decide +kernel
theorem d15_66 : decode prog_1_method_4_code 66 = .ok (.if_icmp .le 36, 3) := by decide +kernel
theorem d15_102 : decode prog_1_method_4_code 102 = .ok (.aload_n 0, 1) := by decide +kernel
theorem d15_103 : decode prog_1_method_4_code 103 = .ok (.getfield 10, 3) := by decide +kernel
theorem d15_106 : decode prog_1_method_4_code 106 = .ok (.areturn, 1) := by decide +kernel
theorem own_ef15 (m : MethodId) (x0 : Addr) (x1 : Addr) (x2 : Int32) : entryFrame m #[(.ref x0), (.ref x1), (.int x2)] 3 = mkF m 0 #[.val (.ref x0), .val (.ref x1), .val (.int x2)] [] := by first | (simp [entryFrame, mkF, argsToLocals, Value.category]; done) | rfl
def Q15 (Z : State) (a0 : Addr) (a1 : Addr) (p2 : Int32) (pl : Addr) (n : Int32) (r : Int32) (h0 : Heap) (n0 : Nat) (v : Option Value) (h : Heap) (L : List Loc) : Prop := v = some (.ref pl) ∧ Fr n0 L ∧ h = h0
set_option maxRecDepth 65536 in
set_option maxHeartbeats 40000000 in
theorem rm15 (l : Launch) (Z : State) (aw : Array Value) (hw : ∀ d ∈ tables_1, d.before aw Z = true) (ws : List Jvm.Cond) (a0 : Addr) (a1 : Addr) (p2 : Int32) (pl : Addr) (n : Int32) (r : Int32) (h0 : Heap) (n0 : Nat) (Z0 : n0 ≤ h0.size) (F_p : Fld Z h0 a0 "com/example/hashtory/hashtory/Arguments" "positionals" "Ljava/util/List;" (.ref pl)) (E_p : Exa Z h0 pl "java/util/ArrayList") (F_n : Fld Z h0 pl "java/util/ArrayList" "size" "I" (.int n)) (E_r : Exa Z h0 a1 "java/util/ArrayList") (F_r : Fld Z h0 a1 "java/util/ArrayList" "size" "I" (.int r)) (h1 : ¬ (n < r)) (h2 : ¬ ((r + p2) < n)) :
    MetFree l (⟨"com/example/hashtory/hashtory/Arguments", "positionals", "(Ljava/util/List;I)Ljava/util/List;"⟩ : MethodName) (head1 (Jvm.Cond.code (⟨"com/example/hashtory/hashtory/Arguments", "positionals", "(Ljava/util/List;I)Ljava/util/List;"⟩ : MethodName) prog_1_method_4_code 3 (some (.object "java/util/List")) :: ws) ({ frames := 1, cells := 0, slots := 0, locals := 13 } : Room)) (fun a U => a = #[(.ref a0), (.ref a1), (.int p2)] ∧ Z.Warmed39 U.vm ∧ U.heap = h0) (fun _ _ _ _ _ => True) (fun _ U o U' => ∃ v L, o = .returned v ∧ (Q15 Z a0 a1 p2 pl n r h0 n0) v U'.heap L ∧ FrameEnd U o U' L ({ frames := 1, cells := 0, slots := 0, locals := 13 } : Room).cells ({ frames := 1, cells := 0, slots := 0, locals := 13 } : Room).slots) := by
  refine MetFree.of_bodySF (plainFor_of_name own_pn10) hisR ?_
  intro p e s m args below meth c s₁ Bd hml0 hP hK
  obtain ⟨rfl, hZ, hh⟩ := hP
  have hx := Bd.exec
  have hby := Bd.bytes
  have hml : c.maxLocals = 3 := hml0
  have hown : s.vm.findClass "com/example/hashtory/hashtory/Arguments" = some m.cls := findClass_of_methodNamed Bd.named
  have hnm := (name_of_methodNamed Bd.named Bd.method).1
  have hlk : meth.locks = false := BodyLoose.notSynchronized (by assumption)
  have X0 : Stand p l e ({ frames := 1, cells := 0, slots := 0, locals := 13 } : Room) s m #[(.ref a0), (.ref a1), (.int p2)] below meth c s₁ [] 0 0 := Stand.of_body Bd
  have e0 : s₁.heap = h0 := by rw [← hh, Bd.state]; rfl
  have N0 := Fr.nil n0
  show own_Done p e below s (Q15 Z a0 a1 p2 pl n r h0 n0) ({ frames := 1, cells := 0, slots := 0, locals := 13 } : Room).cells ({ frames := 1, cells := 0, slots := 0, locals := 13 } : Room).slots (s₁.setTop (entryFrame m #[(.ref a0), (.ref a1), (.int p2)] 3))
  refine own_go (U' := s₁.setTop (mkF m 0 #[.val (.ref a0), .val (.ref a1), .val (.int p2)] [])) (fun _ k => castTop (own_ef15 m a0 a1 p2) k) ?_
  refine own_go (U' := s₁.setTop (mkF m 1 #[.val (.ref a0), .val (.ref a1), .val (.int p2)] [(.ref a0)])) (fun _ k => XS.aloadN X0.here hx rfl (hb hby d15_0) rfl rfl k) ?_
  obtain ⟨T225, X225, e225, st225⟩ := getF X0 hx hZ hown (host := "") (Or.inl (hw _ (own_mem 68 rfl))) Via.refl e0 F_p (g := (mkF m 1 #[.val (.ref a0), .val (.ref a1), .val (.int p2)] [(.ref a0)])) rfl rfl (hb hby d15_1)
  refine own_go (U' := T225.setTop (mkF m 4 #[.val (.ref a0), .val (.ref a1), .val (.int p2)] [(.ref pl)])) (fun _ k => st225 _ k) ?_
  obtain ⟨cq226, kq226, q226a, q226b, q226c⟩ := isOf hZ e225 E_p
  obtain ⟨_, _, ⟨T226, L226, k226, n226⟩, -, X226, ⟨Lc226, hQ226, l226, y226, z226⟩, st226⟩ := X225.interfaceBack hx (xi := (⟨"java/util/List", "size", "()I"⟩ : MethodName)) (y := (⟨"java/util/ArrayList", "size", "()I"⟩ : MethodName)) hown (mvT hZ (hw _ (own_mem 88 rfl))) (mvT hZ (hw _ (own_mem 89 rfl))) (mvT hZ (hw _ (own_mem 90 rfl))) (mvT hZ (hw _ (own_mem 91 rfl))) (mvT hZ (hw _ (own_mem 92 rfl))) (mvT hZ (hw _ (own_mem 93 rfl))) (mvT hZ (hw _ (own_mem 94 rfl))) (mvT hZ (hw _ (own_mem 95 rfl))) (by decide) (backOf (W := 0) (rm14 l Z aw hw [] pl n h0 n0 Z0 F_n) hZ (hw _ (own_mem 96 rfl)) (hw _ (own_mem 37 rfl)) (by decide) (by decide)) q226a q226b q226c (g := (mkF m 4 #[.val (.ref a0), .val (.ref a1), .val (.int p2)] [(.ref pl)])) rfl (by rw [hml]; rfl) (Steps.refl _) (argsL := []) (rest := []) (lenOf own_pd5 rfl) rfl (by show 2 * 0 + _ ≤ _; exact Nat.le_of_eq rfl) (hb hby d15_4) (fun _ _ => ⟨rfl, e225, (by decide : 0 + 0 ≤ _), (by decide : 0 + 0 ≤ _)⟩)
  dsimp only [Pt.U, Pt.locs, Pt.cells, Pt.slots] at X226 l226 y226 z226 st226 hQ226
  subst l226 y226 z226
  obtain ⟨rfl, N226q, e226⟩ := hQ226
  have N226 := Fr.app N0 N226q
  refine own_go (U' := T226.setTop (mkF m 9 #[.val (.ref a0), .val (.ref a1), .val (.int p2)] [(.int n)])) (fun _ k => st226.trans k) ?_
  refine own_go (U' := T226.setTop (mkF m 10 #[.val (.ref a0), .val (.ref a1), .val (.int p2)] [(.ref a1), (.int n)])) (fun _ k => XS.aloadN X226.here hx rfl (hb hby d15_9) rfl rfl k) ?_
  obtain ⟨cq227, kq227, q227a, q227b, q227c⟩ := isOf hZ e226 E_r
  obtain ⟨_, _, ⟨T227, L227, k227, n227⟩, -, X227, ⟨Lc227, hQ227, l227, y227, z227⟩, st227⟩ := X226.interfaceBack hx (xi := (⟨"java/util/List", "size", "()I"⟩ : MethodName)) (y := (⟨"java/util/ArrayList", "size", "()I"⟩ : MethodName)) hown (mvT hZ (hw _ (own_mem 88 rfl))) (mvT hZ (hw _ (own_mem 89 rfl))) (mvT hZ (hw _ (own_mem 90 rfl))) (mvT hZ (hw _ (own_mem 91 rfl))) (mvT hZ (hw _ (own_mem 92 rfl))) (mvT hZ (hw _ (own_mem 93 rfl))) (mvT hZ (hw _ (own_mem 94 rfl))) (mvT hZ (hw _ (own_mem 95 rfl))) (by decide) (backOf (W := 1) (rm14 l Z aw hw [] a1 r h0 n0 Z0 F_r) hZ (hw _ (own_mem 96 rfl)) (hw _ (own_mem 37 rfl)) (by decide) (by decide)) q227a q227b q227c (g := (mkF m 10 #[.val (.ref a0), .val (.ref a1), .val (.int p2)] [(.ref a1), (.int n)])) rfl (by rw [hml]; rfl) (Steps.refl _) (argsL := []) (rest := [(.int n)]) (lenOf own_pd5 rfl) rfl (by show 2 * 0 + _ ≤ _; exact Nat.le_of_eq rfl) (hb hby d15_10) (fun _ _ => ⟨rfl, e226, (by decide : 0 + 0 ≤ _), (by decide : 0 + 0 ≤ _)⟩)
  dsimp only [Pt.U, Pt.locs, Pt.cells, Pt.slots] at X227 l227 y227 z227 st227 hQ227
  subst l227 y227 z227
  obtain ⟨rfl, N227q, e227⟩ := hQ227
  have N227 := Fr.app N226 N227q
  refine own_go (U' := T227.setTop (mkF m 15 #[.val (.ref a0), .val (.ref a1), .val (.int p2)] [(.int r), (.int n)])) (fun _ k => st227.trans k) ?_
  refine own_go (U' := T227.setTop (mkF m 50 #[.val (.ref a0), .val (.ref a1), .val (.int p2)] [(.ref a0)])) (fun _ k => XS.icmpYes X227.here hx rfl (pc0 := 15) (pc' := 49) rfl (hb hby d15_15) rfl (flt h1).2.1 (by decide) (by decide) (XS.aloadN X227.here hx rfl (hb hby d15_49) rfl rfl k)) ?_
  obtain ⟨T228, X228, e228, st228⟩ := getF X227 hx hZ hown (host := "") (Or.inl (hw _ (own_mem 68 rfl))) Via.refl e227 F_p (g := (mkF m 50 #[.val (.ref a0), .val (.ref a1), .val (.int p2)] [(.ref a0)])) rfl rfl (hb hby d15_50)
  refine own_go (U' := T228.setTop (mkF m 53 #[.val (.ref a0), .val (.ref a1), .val (.int p2)] [(.ref pl)])) (fun _ k => st228 _ k) ?_
  obtain ⟨cq229, kq229, q229a, q229b, q229c⟩ := isOf hZ e228 E_p
  obtain ⟨_, _, ⟨T229, L229, k229, n229⟩, -, X229, ⟨Lc229, hQ229, l229, y229, z229⟩, st229⟩ := X228.interfaceBack hx (xi := (⟨"java/util/List", "size", "()I"⟩ : MethodName)) (y := (⟨"java/util/ArrayList", "size", "()I"⟩ : MethodName)) hown (mvT hZ (hw _ (own_mem 88 rfl))) (mvT hZ (hw _ (own_mem 89 rfl))) (mvT hZ (hw _ (own_mem 90 rfl))) (mvT hZ (hw _ (own_mem 91 rfl))) (mvT hZ (hw _ (own_mem 92 rfl))) (mvT hZ (hw _ (own_mem 93 rfl))) (mvT hZ (hw _ (own_mem 94 rfl))) (mvT hZ (hw _ (own_mem 95 rfl))) (by decide) (backOf (W := 0) (rm14 l Z aw hw [] pl n h0 n0 Z0 F_n) hZ (hw _ (own_mem 96 rfl)) (hw _ (own_mem 37 rfl)) (by decide) (by decide)) q229a q229b q229c (g := (mkF m 53 #[.val (.ref a0), .val (.ref a1), .val (.int p2)] [(.ref pl)])) rfl (by rw [hml]; rfl) (Steps.refl _) (argsL := []) (rest := []) (lenOf own_pd5 rfl) rfl (by show 2 * 0 + _ ≤ _; exact Nat.le_of_eq rfl) (hb hby d15_53) (fun _ _ => ⟨rfl, e228, (by decide : 0 + 0 ≤ _), (by decide : 0 + 0 ≤ _)⟩)
  dsimp only [Pt.U, Pt.locs, Pt.cells, Pt.slots] at X229 l229 y229 z229 st229 hQ229
  subst l229 y229 z229
  obtain ⟨rfl, N229q, e229⟩ := hQ229
  have N229 := Fr.app N227 N229q
  refine own_go (U' := T229.setTop (mkF m 58 #[.val (.ref a0), .val (.ref a1), .val (.int p2)] [(.int n)])) (fun _ k => st229.trans k) ?_
  refine own_go (U' := T229.setTop (mkF m 59 #[.val (.ref a0), .val (.ref a1), .val (.int p2)] [(.ref a1), (.int n)])) (fun _ k => XS.aloadN X229.here hx rfl (hb hby d15_58) rfl rfl k) ?_
  obtain ⟨cq230, kq230, q230a, q230b, q230c⟩ := isOf hZ e229 E_r
  obtain ⟨_, _, ⟨T230, L230, k230, n230⟩, -, X230, ⟨Lc230, hQ230, l230, y230, z230⟩, st230⟩ := X229.interfaceBack hx (xi := (⟨"java/util/List", "size", "()I"⟩ : MethodName)) (y := (⟨"java/util/ArrayList", "size", "()I"⟩ : MethodName)) hown (mvT hZ (hw _ (own_mem 88 rfl))) (mvT hZ (hw _ (own_mem 89 rfl))) (mvT hZ (hw _ (own_mem 90 rfl))) (mvT hZ (hw _ (own_mem 91 rfl))) (mvT hZ (hw _ (own_mem 92 rfl))) (mvT hZ (hw _ (own_mem 93 rfl))) (mvT hZ (hw _ (own_mem 94 rfl))) (mvT hZ (hw _ (own_mem 95 rfl))) (by decide) (backOf (W := 1) (rm14 l Z aw hw [] a1 r h0 n0 Z0 F_r) hZ (hw _ (own_mem 96 rfl)) (hw _ (own_mem 37 rfl)) (by decide) (by decide)) q230a q230b q230c (g := (mkF m 59 #[.val (.ref a0), .val (.ref a1), .val (.int p2)] [(.ref a1), (.int n)])) rfl (by rw [hml]; rfl) (Steps.refl _) (argsL := []) (rest := [(.int n)]) (lenOf own_pd5 rfl) rfl (by show 2 * 0 + _ ≤ _; exact Nat.le_of_eq rfl) (hb hby d15_59) (fun _ _ => ⟨rfl, e229, (by decide : 0 + 0 ≤ _), (by decide : 0 + 0 ≤ _)⟩)
  dsimp only [Pt.U, Pt.locs, Pt.cells, Pt.slots] at X230 l230 y230 z230 st230 hQ230
  subst l230 y230 z230
  obtain ⟨rfl, N230q, e230⟩ := hQ230
  have N230 := Fr.app N229 N230q
  refine own_go (U' := T230.setTop (mkF m 64 #[.val (.ref a0), .val (.ref a1), .val (.int p2)] [(.int r), (.int n)])) (fun _ k => st230.trans k) ?_
  refine own_go (U' := T230.setTop (mkF m 66 #[.val (.ref a0), .val (.ref a1), .val (.int p2)] [(.int (r + p2)), (.int n)])) (fun _ k => XS.iloadN X230.here hx rfl (hb hby d15_64) rfl (XS.iadd X230.here hx rfl (hb hby d15_65) rfl k)) ?_
  refine own_go (U' := T230.setTop (mkF m 103 #[.val (.ref a0), .val (.ref a1), .val (.int p2)] [(.ref a0)])) (fun _ k => XS.icmpYes X230.here hx rfl (pc0 := 66) (pc' := 102) rfl (hb hby d15_66) rfl (flt h2).2.2.2 (by decide) (by decide) (XS.aloadN X230.here hx rfl (hb hby d15_102) rfl rfl k)) ?_
  obtain ⟨T231, X231, e231, st231⟩ := getF X230 hx hZ hown (host := "") (Or.inl (hw _ (own_mem 68 rfl))) Via.refl e230 F_p (g := (mkF m 103 #[.val (.ref a0), .val (.ref a1), .val (.int p2)] [(.ref a0)])) rfl rfl (hb hby d15_103)
  refine own_go (U' := T231.setTop (mkF m 106 #[.val (.ref a0), .val (.ref a1), .val (.int p2)] [(.ref pl)])) (fun _ k => st231 _ k) ?_
  refine own_ret X231 (v := (some (.ref pl))) hlk (fun h => by rw [Bd.returns] at h; cases h) (by decide) (by decide) (fun fs hr => own_retR X231 hx Bd.returns rfl rfl rfl (hb hby d15_106) hr) ?_
  show (Q15 Z a0 a1 p2 pl n r h0 n0) _ T231.heap _
  rw [e231]
  exact ⟨by first | rfl | decide, N230, rfl⟩

theorem own_nlt {a b y : Int32} (h : ¬ a < y) (hab : ¬ b < a) : ¬ b < y := by
  simp only [Int32.lt_iff_toInt_lt] at *
  omega
theorem own_r5 {p y : Int32} (h : ((p &&& (7 : Int32)) % (5 : Int32)) = y) : ¬ y < (0 : Int32) ∧ y < (5 : Int32) := by
  have e : (p &&& (7 : Int32)).toInt = p.toInt % 8 := c_mask p _ 3 (by decide) (by decide)
  have q := (c_irem (p &&& (7 : Int32)) (5 : Int32) 5 (by decide)).1 (by omega)
  rw [h] at q
  have k0 : (0 : Int32).toInt = 0 := by decide
  have k5 : (5 : Int32).toInt = 5 := by decide
  rw [Int32.lt_iff_toInt_lt, Int32.lt_iff_toInt_lt, k0, k5]
  omega
theorem own_eq0 {y : Int32} (h : ¬ y < 0) (h2 : ¬ (0 : Int32) < y) : y = 0 := by
  have k0 : (0 : Int32).toInt = 0 := by decide
  rw [Int32.lt_iff_toInt_lt, k0] at h
  rw [Int32.lt_iff_toInt_lt, k0] at h2
  exact Int32.toInt_inj.mp (by rw [k0]; omega)
theorem own_eqk {y a b : Int32} (hab : b.toInt = a.toInt + 1) (h : a < y) (h2 : ¬ b < y) : y = b := by
  simp only [Int32.lt_iff_toInt_lt] at *
  exact Int32.toInt_inj.mp (by omega)
theorem own_n4 {y : Int32} (h : y < 5) : ¬ (4 : Int32) < y := by
  have k4 : (4 : Int32).toInt = 4 := by decide
  have k5 : (5 : Int32).toInt = 5 := by decide
  simp only [Int32.lt_iff_toInt_lt, k4, k5] at *
  omega
theorem own_min {x k r : Int32} (hk0 : 0 ≤ k.toInt) (h : f_1 (x &&& (7 : Int32)) k = r) : 0 ≤ r.toInt ∧ r.toInt ≤ k.toInt := by
  have e : (x &&& (7 : Int32)).toInt = x.toInt % 8 := c_mask x _ 3 (by decide) (by decide)
  unfold f_1 at h
  by_cases q : k < (x &&& (7 : Int32))
  · rw [if_pos q] at h; subst h; omega
  · rw [if_neg q] at h; subst h
    rw [Int32.lt_iff_toInt_lt] at q
    omega
theorem own_p1 {k r : Int32} (h : 0 ≤ r.toInt ∧ r.toInt ≤ k.toInt) : ¬ (k < r) := by
  rw [Int32.lt_iff_toInt_lt]; omega
theorem own_r0 {k r : Int32} (h : 0 ≤ r.toInt ∧ r.toInt ≤ k.toInt) : ¬ (r < 0) := by
  have k0 : (0 : Int32).toInt = 0 := by decide
  rw [Int32.lt_iff_toInt_lt, k0]; omega
theorem own_p2 {k r o q : Int32} (hr : 0 ≤ r.toInt ∧ r.toInt ≤ k.toInt) (h : f_2 (k - r) ((q &&& (2147483647 : Int32)) - r) = o) : ¬ ((r + o) < k) := by
  have e : (q &&& (2147483647 : Int32)).toInt = q.toInt % 2147483648 := c_mask q _ 31 (by decide) (by decide)
  have a1 := c_isub k r
  have a2 := rng32 (k - r)
  have b1 := c_isub (q &&& (2147483647 : Int32)) r
  have b2 := rng32 ((q &&& (2147483647 : Int32)) - r)
  have c1 := c_iadd r o
  have c2 := rng32 (r + o)
  have d1 := rng32 k
  unfold f_2 at h
  rw [Int32.lt_iff_toInt_lt]
  by_cases p : (k - r) < ((q &&& (2147483647 : Int32)) - r)
  · rw [if_pos p] at h; subst h
    rw [Int32.lt_iff_toInt_lt] at p
    omega
  · rw [if_neg p] at h; subst h
    rw [Int32.lt_iff_toInt_lt] at p
    omega

theorem own_pd16 : parseMethodDescriptor "(C)Ljava/lang/String;" = some ⟨[.char], some (.object "java/lang/String")⟩ := by decide +kernel
theorem own_pd17 : parseMethodDescriptor "(Ljava/util/List;Ljava/util/Set;)V" = some ⟨[(.object "java/util/List"), (.object "java/util/Set")], none⟩ := by decide +kernel
theorem own_pd18 : parseMethodDescriptor "(Ljava/util/List;I)Ljava/util/List;" = some ⟨[(.object "java/util/List"), .int], some (.object "java/util/List")⟩ := by decide +kernel
theorem own_text134 : (∀ c ∈ ("a" : String).toList, c.toNat < 256) ∧ ("a" : String).toList.map (fun c => Value.int (Jvm.Lit.byteI c.toNat.toUInt16)) = [(.int (97 : Int32))] := by decide +kernel
theorem own_text198 : (∀ c ∈ ("b" : String).toList, c.toNat < 256) ∧ ("b" : String).toList.map (fun c => Value.int (Jvm.Lit.byteI c.toNat.toUInt16)) = [(.int (98 : Int32))] := by decide +kernel
theorem own_text199 : (∀ c ∈ ("c" : String).toList, c.toNat < 256) ∧ ("c" : String).toList.map (fun c => Value.int (Jvm.Lit.byteI c.toNat.toUInt16)) = [(.int (99 : Int32))] := by decide +kernel
theorem own_text200 : (∀ c ∈ ("d" : String).toList, c.toNat < 256) ∧ ("d" : String).toList.map (fun c => Value.int (Jvm.Lit.byteI c.toNat.toUInt16)) = [(.int (100 : Int32))] := by decide +kernel
theorem own_pn11 : plainName "com/example/hashtory/hashtory/ArgumentsPositionalsPinLaw" = true := by first | (simp [plainName, overriddenIn]; done) | decide +kernel
theorem own_ef0 (m : MethodId) (x0 : Int32) (x1 : Int32) (x2 : Int64) : entryFrame m #[(.int x0), (.int x1), (.long x2)] maxLocals = mkF m 0 #[.val (.int x0), .val (.int x1), .val (.long x2), .second, .unset, .unset, .unset, .unset, .unset, .unset, .unset, .unset, .unset, .unset, .unset] [] := by first | (simp [entryFrame, mkF, argsToLocals, Value.category, maxLocals]; done) | rfl
def Q0 (Z : State) (p0 : Int32) (p1 : Int32) (q2 : Int64) (cs : Int32) (w : Addr) (k0 : ClassId) (h0 : Heap) (n0 : Nat) (v : Option Value) (h : Heap) (L : List Loc) : Prop := v = some (.int 1) ∧ Fr n0 L
set_option maxRecDepth 65536 in
set_option maxHeartbeats 40000000 in
theorem rm0 (l : Launch) (Z : State) (aw : Array Value) (hw : ∀ d ∈ tables_1, d.before aw Z = true) (ws : List Jvm.Cond) (p0 : Int32) (p1 : Int32) (q2 : Int64) (cs : Int32) (w : Addr) (k0 : ClassId) (h0 : Heap) (n0 : Nat) (Z0 : n0 ≤ h0.size) (S_cs : Sta Z h0 "java/lang/String" "COMPACT_STRINGS" "Z" (.int cs)) (S_ad : Sta Z h0 "java/lang/StringUTF16" "$assertionsDisabled" "Z" (.int (1 : Int32))) (S_hi : Sta Z h0 "java/lang/StringUTF16" "HI_BYTE_SHIFT" "I" (.int (0 : Int32))) (S_lo : Sta Z h0 "java/lang/StringUTF16" "LO_BYTE_SHIFT" "I" (.int (8 : Int32))) (S_df : Sta Z h0 "java/util/ArrayList" "DEFAULTCAPACITY_EMPTY_ELEMENTDATA" "[Ljava/lang/Object;" (.ref w)) (V_w : Arv Z h0 w k0 (.object "java/lang/Object") (0 : Int32) [] .null) (hcs : ¬ (cs = (0 : Int32))) :
    MetFree l x (head1 (Jvm.Cond.code x code maxLocals ret :: ws) room_1) (fun a U => a = #[(.int p0), (.int p1), (.long q2)] ∧ Z.Warmed39 U.vm ∧ U.heap = h0 ∧ CHv Z own_EL U.vm h0) (fun _ _ _ _ _ => True) (fun _ U o U' => ∃ v L, o = .returned v ∧ (Q0 Z p0 p1 q2 cs w k0 h0 n0) v U'.heap L ∧ CHr Z own_EL U.vm U.heap U'.vm U'.heap ∧ ReturnedEndW U o U' L room_1.cells room_1.slots) := by
  refine MetFree.of_bodySF (plainFor_of_name own_pn11) hisR ?_
  intro p e s m args below meth c s₁ Bd hml0 hP hK
  obtain ⟨rfl, hZ, hh, hCH⟩ := hP
  have hx := Bd.exec
  have hby := Bd.bytes
  have hml : c.maxLocals = 15 := hml0
  have hown : s.vm.findClass "com/example/hashtory/hashtory/ArgumentsPositionalsPinLaw" = some m.cls := findClass_of_methodNamed Bd.named
  have hnm := (name_of_methodNamed Bd.named Bd.method).1
  have hlk : meth.locks = false := BodyLoose.notSynchronized (by assumption)
  have X0 : Stand p l e room_1 s m #[(.int p0), (.int p1), (.long q2)] below meth c s₁ [] 0 0 := Stand.of_body Bd
  have e0 : s₁.heap = h0 := by rw [← hh, Bd.state]; rfl
  have N0 := Fr.nil n0
  have hS0 : s.Since s.vm 0 := (State.WarmedH.refl s).since 0
  show own_DoneW p e below s Z own_EL (Q0 Z p0 p1 q2 cs w k0 h0 n0) room_1.cells room_1.slots (s₁.setTop (entryFrame m #[(.int p0), (.int p1), (.long q2)] maxLocals))
  refine own_goW (U' := s₁.setTop (mkF m 0 #[.val (.int p0), .val (.int p1), .val (.long q2), .second, .unset, .unset, .unset, .unset, .unset, .unset, .unset, .unset, .unset, .unset, .unset] [])) (fun _ k => castTop (own_ef0 m p0 p1 q2) k) ?_
  have hCR0 := CHr.refl hCH
  have hSz0 : 0 ≤ h0.size := Nat.zero_le _
  refine own_goW (U' := s₁.setTop (mkF m 6 #[.val (.int p0), .val (.int p1), .val (.long q2), .second, .unset, .unset, .unset, .unset, .unset, .unset, .unset, .unset, .unset, .unset, .unset] [(.int ((p0 &&& (7 : Int32)) % (5 : Int32)))])) (fun _ k => XS.iloadN X0.here hx rfl (hb hby at_0) rfl (XS.bipush X0.here hx rfl (hb hby at_1) (XS.iand X0.here hx rfl (hb hby at_3) rfl (XS.iconst X0.here hx rfl (hb hby at_4) (iremM X0 hx rfl (hb hby at_5) rfl (by decide) k))))) ?_
  generalize hy6 : ((p0 &&& (7 : Int32)) % (5 : Int32)) = y6
  refine own_goW (U' := s₁.setTop (mkF m 8 #[.val (.int p0), .val (.int p1), .val (.long q2), .second, .val (.int y6), .unset, .unset, .unset, .unset, .unset, .unset, .unset, .unset, .unset, .unset] [])) (fun _ k => XS.istore X0.here hx rfl (hb hby at_6) rfl (l' := #[.val (.int p0), .val (.int p1), .val (.long q2), .second, .val (.int y6), .unset, .unset, .unset, .unset, .unset, .unset, .unset, .unset, .unset, .unset]) rfl k) ?_
  have hr5 := own_r5 hy6
  refine own_goW (U' := s₁.setTop (mkF m 16 #[.val (.int p0), .val (.int p1), .val (.long q2), .second, .val (.int y6), .unset, .unset, .unset, .unset, .unset, .unset, .unset, .unset, .unset, .unset] [(.int y6), (.int (((p0.toUInt32 >>> ((3 : Int32) &&& 31).toUInt32).toInt32) &&& (7 : Int32)))])) (fun _ k => XS.iloadN X0.here hx rfl (hb hby at_8) rfl (XS.iconst X0.here hx rfl (hb hby at_9) (XS.iushr X0.here hx rfl (hb hby at_10) rfl (XS.bipush X0.here hx rfl (hb hby at_11) (XS.iand X0.here hx rfl (hb hby at_13) rfl (XS.iload X0.here hx rfl (hb hby at_14) rfl k)))))) ?_
  obtain ⟨_, _, ⟨T232, L232, k232, n232⟩, -, X232, ⟨Lc232, hQ232, l232, y232, z232⟩, st232⟩ := Jvm.LawKit.callS X0 hx (y := (⟨"java/lang/Math", "min", "(II)I"⟩ : MethodName)) hown (mvT hZ (hw _ (own_mem 0 rfl))) (mvT hZ (hw _ (own_mem 1 rfl))) (mvT hZ (hw _ (own_mem 2 rfl))) (mvT hZ (hw _ (own_mem 3 rfl))) (by decide) (backOf (W := 0) (rm1 l Z aw hw [] (((p0.toUInt32 >>> ((3 : Int32) &&& 31).toUInt32).toInt32) &&& (7 : Int32)) y6 h0 n0 Z0 ) hZ (hw _ (own_mem 3 rfl)) (hw _ (own_mem 2 rfl)) (by decide) (by decide)) (g := (mkF m 16 #[.val (.int p0), .val (.int p1), .val (.long q2), .second, .val (.int y6), .unset, .unset, .unset, .unset, .unset, .unset, .unset, .unset, .unset, .unset] [(.int y6), (.int (((p0.toUInt32 >>> ((3 : Int32) &&& 31).toUInt32).toInt32) &&& (7 : Int32)))])) rfl (by rw [hml]; rfl) (argsL := [(.int (((p0.toUInt32 >>> ((3 : Int32) &&& 31).toUInt32).toInt32) &&& (7 : Int32))), (.int y6)]) (rest := []) (lenOf own_pd8 rfl) rfl (by show 2 * 0 + _ ≤ _; exact Nat.le_of_eq rfl) (hb hby at_16) (fun _ _ => ⟨rfl, e0, (by decide : 0 + 0 ≤ _), (by decide : 0 + 0 ≤ _)⟩)
  dsimp only [Pt.U, Pt.locs, Pt.cells, Pt.slots] at X232 l232 y232 z232 st232 hQ232
  subst l232 y232 z232
  obtain ⟨rfl, N232q, e232⟩ := hQ232
  have N232 := Fr.app N0 N232q
  refine own_goW (U' := T232.setTop (mkF m 19 #[.val (.int p0), .val (.int p1), .val (.long q2), .second, .val (.int y6), .unset, .unset, .unset, .unset, .unset, .unset, .unset, .unset, .unset, .unset] [(.int (f_1 (((p0.toUInt32 >>> ((3 : Int32) &&& 31).toUInt32).toInt32) &&& (7 : Int32)) y6))])) (fun _ k => st232 _ k) ?_
  generalize hy19 : (f_1 (((p0.toUInt32 >>> ((3 : Int32) &&& 31).toUInt32).toInt32) &&& (7 : Int32)) y6) = y19
  refine own_goW (U' := T232.setTop (mkF m 29 #[.val (.int p0), .val (.int p1), .val (.long q2), .second, .val (.int y6), .val (.int y19), .unset, .unset, .unset, .unset, .unset, .unset, .unset, .unset, .unset] [(.int (2147483647 : Int32)), (.int p1), (.int (y6 - y19))])) (fun _ k => XS.istore X232.here hx rfl (hb hby at_19) rfl (l' := #[.val (.int p0), .val (.int p1), .val (.long q2), .second, .val (.int y6), .val (.int y19), .unset, .unset, .unset, .unset, .unset, .unset, .unset, .unset, .unset]) rfl (XS.iload X232.here hx rfl (hb hby at_21) rfl (XS.iload X232.here hx rfl (hb hby at_23) rfl (XS.isub X232.here hx rfl (hb hby at_25) rfl (XS.iloadN X232.here hx rfl (hb hby at_26) rfl (X232.ldcInt hx hown (mvT hZ (hw _ (own_mem 4 rfl))) (g := (mkF m 27 #[.val (.int p0), .val (.int p1), .val (.long q2), .second, .val (.int y6), .val (.int y19), .unset, .unset, .unset, .unset, .unset, .unset, .unset, .unset, .unset] [(.int p1), (.int (y6 - y19))])) rfl (hb hby at_27) _ k)))))) ?_
  refine own_goW (U' := T232.setTop (mkF m 33 #[.val (.int p0), .val (.int p1), .val (.long q2), .second, .val (.int y6), .val (.int y19), .unset, .unset, .unset, .unset, .unset, .unset, .unset, .unset, .unset] [(.int ((p1 &&& (2147483647 : Int32)) - y19)), (.int (y6 - y19))])) (fun _ k => XS.iand X232.here hx rfl (hb hby at_29) rfl (XS.iload X232.here hx rfl (hb hby at_30) rfl (XS.isub X232.here hx rfl (hb hby at_32) rfl k))) ?_
  obtain ⟨_, _, ⟨T233, L233, k233, n233⟩, -, X233, ⟨Lc233, hQ233, l233, y233, z233⟩, st233⟩ := Jvm.LawKit.callS X232 hx (y := (⟨"java/lang/Math", "max", "(II)I"⟩ : MethodName)) hown (mvT hZ (hw _ (own_mem 5 rfl))) (mvT hZ (hw _ (own_mem 6 rfl))) (mvT hZ (hw _ (own_mem 2 rfl))) (mvT hZ (hw _ (own_mem 7 rfl))) (by decide) (backOf (W := 0) (rm2 l Z aw hw [] (y6 - y19) ((p1 &&& (2147483647 : Int32)) - y19) h0 n0 Z0 ) hZ (hw _ (own_mem 7 rfl)) (hw _ (own_mem 2 rfl)) (by decide) (by decide)) (g := (mkF m 33 #[.val (.int p0), .val (.int p1), .val (.long q2), .second, .val (.int y6), .val (.int y19), .unset, .unset, .unset, .unset, .unset, .unset, .unset, .unset, .unset] [(.int ((p1 &&& (2147483647 : Int32)) - y19)), (.int (y6 - y19))])) rfl (by rw [hml]; rfl) (argsL := [(.int (y6 - y19)), (.int ((p1 &&& (2147483647 : Int32)) - y19))]) (rest := []) (lenOf own_pd8 rfl) rfl (by show 2 * 0 + _ ≤ _; exact Nat.le_of_eq rfl) (hb hby at_33) (fun _ _ => ⟨rfl, e232, (by decide : 0 + 0 ≤ _), (by decide : 0 + 0 ≤ _)⟩)
  dsimp only [Pt.U, Pt.locs, Pt.cells, Pt.slots] at X233 l233 y233 z233 st233 hQ233
  subst l233 y233 z233
  obtain ⟨rfl, N233q, e233⟩ := hQ233
  have N233 := Fr.app N232 N233q
  refine own_goW (U' := T233.setTop (mkF m 36 #[.val (.int p0), .val (.int p1), .val (.long q2), .second, .val (.int y6), .val (.int y19), .unset, .unset, .unset, .unset, .unset, .unset, .unset, .unset, .unset] [(.int (f_2 (y6 - y19) ((p1 &&& (2147483647 : Int32)) - y19)))])) (fun _ k => st233 _ k) ?_
  generalize hy36 : (f_2 (y6 - y19) ((p1 &&& (2147483647 : Int32)) - y19)) = y36
  refine own_goW (U' := T233.setTop (mkF m 45 #[.val (.int p0), .val (.int p1), .val (.long q2), .second, .val (.int y6), .val (.int y19), .val (.int y36), .unset, .unset, .unset, .unset, .unset, .unset, .unset, .unset] [(.int (((q2 &&& (65535 : Int64)).toInt32).toUInt32.toUInt16.toUInt32.toInt32))])) (fun _ k => XS.istore X233.here hx rfl (hb hby at_36) rfl (l' := #[.val (.int p0), .val (.int p1), .val (.long q2), .second, .val (.int y6), .val (.int y19), .val (.int y36), .unset, .unset, .unset, .unset, .unset, .unset, .unset, .unset]) rfl (XS.lloadN X233.here hx rfl (hb hby at_38) rfl (X233.ldc2Long hx hown (mvT hZ (hw _ (own_mem 8 rfl))) (g := (mkF m 39 #[.val (.int p0), .val (.int p1), .val (.long q2), .second, .val (.int y6), .val (.int y19), .val (.int y36), .unset, .unset, .unset, .unset, .unset, .unset, .unset, .unset] [(.long q2)])) rfl (hb hby at_39) _ (XS.land X233.here hx rfl (hb hby at_42) rfl (XS.l2i X233.here hx rfl (hb hby at_43) rfl (XS.i2c X233.here hx rfl (hb hby at_44) rfl k)))))) ?_
  obtain ⟨_, _, ⟨T234, L234, k234, n234⟩, -, X234, ⟨Lc234, hQ234, l234, y234, z234⟩, st234⟩ := Jvm.LawKit.callS X233 hx (y := (⟨"java/lang/String", "valueOf", "(C)Ljava/lang/String;"⟩ : MethodName)) hown (mvT hZ (hw _ (own_mem 9 rfl))) (mvT hZ (hw _ (own_mem 10 rfl))) (mvT hZ (hw _ (own_mem 11 rfl))) (mvT hZ (hw _ (own_mem 12 rfl))) (by decide) (backOf (W := 0) (rm3 l Z aw hw [] (((q2 &&& (65535 : Int64)).toInt32).toUInt32.toUInt16.toUInt32.toInt32) cs h0 n0 Z0 S_cs S_ad S_hi S_lo (by first | assumption | decide | rfl)) hZ (hw _ (own_mem 12 rfl)) (hw _ (own_mem 11 rfl)) (by decide) (by decide)) (g := (mkF m 45 #[.val (.int p0), .val (.int p1), .val (.long q2), .second, .val (.int y6), .val (.int y19), .val (.int y36), .unset, .unset, .unset, .unset, .unset, .unset, .unset, .unset] [(.int (((q2 &&& (65535 : Int64)).toInt32).toUInt32.toUInt16.toUInt32.toInt32))])) rfl (by rw [hml]; rfl) (argsL := [(.int (((q2 &&& (65535 : Int64)).toInt32).toUInt32.toUInt16.toUInt32.toInt32))]) (rest := []) (lenOf own_pd16 rfl) rfl (by show 2 * 0 + _ ≤ _; exact Nat.le_of_eq rfl) (hb hby at_45) (fun _ _ => ⟨rfl, e233, (by decide : 0 + 2 ≤ _), (by decide : 0 + 6 ≤ _)⟩)
  dsimp only [Pt.U, Pt.locs, Pt.cells, Pt.slots] at X234 l234 y234 z234 st234 hQ234
  subst l234 y234 z234
  obtain ⟨r234, rfl, N234q, K234q, sr234, xE234, xS234⟩ := hQ234
  have N234 := Fr.app N233 N234q
  have ne_w_r234 : w ≠ r234 := Nat.ne_of_lt (Nat.lt_of_lt_of_le V_w.lt sr234)
  have g_r234 : n0 ≤ r234 := Nat.le_trans Z0 sr234
  have sz_r234 : h0.size ≤ r234 := Nat.le_trans (Keep.refl h0 []).1 sr234
  have c234_0 := own_sta_keep S_cs K234q
  have c234_1 := own_sta_keep S_ad K234q
  have c234_2 := own_sta_keep S_hi K234q
  have c234_3 := own_sta_keep S_lo K234q
  have c234_4 := own_sta_keep S_df K234q
  have c234_5 := V_w.keep K234q nin0
  have c234_6 := CHr.trans hCR0 (CHr.keep K234q all0 hCR0.1)
  have c234_7 : 0 ≤ T234.heap.size := Nat.le_trans hSz0 K234q.1
  have Z234 : n0 ≤ T234.heap.size := Nat.le_trans Z0 K234q.1
  have K234 := Keep.trans (Keep.refl h0 []) K234q all0
  refine own_goW (U' := T234.setTop (mkF m 48 #[.val (.int p0), .val (.int p1), .val (.long q2), .second, .val (.int y6), .val (.int y19), .val (.int y36), .unset, .unset, .unset, .unset, .unset, .unset, .unset, .unset] [(.ref r234)])) (fun _ k => st234 _ k) ?_
  refine own_goW (U' := T234.setTop (mkF m 58 #[.val (.int p0), .val (.int p1), .val (.long q2), .second, .val (.int y6), .val (.int y19), .val (.int y36), .val (.ref r234), .unset, .unset, .unset, .unset, .unset, .unset, .unset] [(.long (((q2.toUInt64 >>> ((16 : Int32) &&& 0x3f).toInt64.toUInt64).toInt64) &&& (65535 : Int64)))])) (fun _ k => XS.astore X234.here hx rfl (hb hby at_48) rfl rfl (l' := #[.val (.int p0), .val (.int p1), .val (.long q2), .second, .val (.int y6), .val (.int y19), .val (.int y36), .val (.ref r234), .unset, .unset, .unset, .unset, .unset, .unset, .unset]) rfl (XS.lloadN X234.here hx rfl (hb hby at_50) rfl (XS.bipush X234.here hx rfl (hb hby at_51) (XS.lushr X234.here hx rfl (hb hby at_53) rfl (X234.ldc2Long hx hown (mvT hZ (hw _ (own_mem 8 rfl))) (g := (mkF m 54 #[.val (.int p0), .val (.int p1), .val (.long q2), .second, .val (.int y6), .val (.int y19), .val (.int y36), .val (.ref r234), .unset, .unset, .unset, .unset, .unset, .unset, .unset] [(.long ((q2.toUInt64 >>> ((16 : Int32) &&& 0x3f).toInt64.toUInt64).toInt64))])) rfl (hb hby at_54) _ (XS.land X234.here hx rfl (hb hby at_57) rfl k)))))) ?_
  refine own_goW (U' := T234.setTop (mkF m 60 #[.val (.int p0), .val (.int p1), .val (.long q2), .second, .val (.int y6), .val (.int y19), .val (.int y36), .val (.ref r234), .unset, .unset, .unset, .unset, .unset, .unset, .unset] [(.int (((((q2.toUInt64 >>> ((16 : Int32) &&& 0x3f).toInt64.toUInt64).toInt64) &&& (65535 : Int64)).toInt32).toUInt32.toUInt16.toUInt32.toInt32))])) (fun _ k => XS.l2i X234.here hx rfl (hb hby at_58) rfl (XS.i2c X234.here hx rfl (hb hby at_59) rfl k)) ?_
  obtain ⟨_, _, ⟨T235, L235, k235, n235⟩, -, X235, ⟨Lc235, hQ235, l235, y235, z235⟩, st235⟩ := Jvm.LawKit.callS X234 hx (y := (⟨"java/lang/String", "valueOf", "(C)Ljava/lang/String;"⟩ : MethodName)) hown (mvT hZ (hw _ (own_mem 9 rfl))) (mvT hZ (hw _ (own_mem 10 rfl))) (mvT hZ (hw _ (own_mem 11 rfl))) (mvT hZ (hw _ (own_mem 12 rfl))) (by decide) (backOf (W := 0) (rm3 l Z aw hw [] (((((q2.toUInt64 >>> ((16 : Int32) &&& 0x3f).toInt64.toUInt64).toInt64) &&& (65535 : Int64)).toInt32).toUInt32.toUInt16.toUInt32.toInt32) cs T234.heap n0 Z234 c234_0 c234_1 c234_2 c234_3 (by first | assumption | decide | rfl)) hZ (hw _ (own_mem 12 rfl)) (hw _ (own_mem 11 rfl)) (by decide) (by decide)) (g := (mkF m 60 #[.val (.int p0), .val (.int p1), .val (.long q2), .second, .val (.int y6), .val (.int y19), .val (.int y36), .val (.ref r234), .unset, .unset, .unset, .unset, .unset, .unset, .unset] [(.int (((((q2.toUInt64 >>> ((16 : Int32) &&& 0x3f).toInt64.toUInt64).toInt64) &&& (65535 : Int64)).toInt32).toUInt32.toUInt16.toUInt32.toInt32))])) rfl (by rw [hml]; rfl) (argsL := [(.int (((((q2.toUInt64 >>> ((16 : Int32) &&& 0x3f).toInt64.toUInt64).toInt64) &&& (65535 : Int64)).toInt32).toUInt32.toUInt16.toUInt32.toInt32))]) (rest := []) (lenOf own_pd16 rfl) rfl (by show 2 * 0 + _ ≤ _; exact Nat.le_of_eq rfl) (hb hby at_60) (fun _ _ => ⟨rfl, rfl, (by decide : 2 + 2 ≤ _), (by decide : 6 + 6 ≤ _)⟩)
  dsimp only [Pt.U, Pt.locs, Pt.cells, Pt.slots] at X235 l235 y235 z235 st235 hQ235
  subst l235 y235 z235
  obtain ⟨r235, rfl, N235q, K235q, sr235, xE235, xS235⟩ := hQ235
  have N235 := Fr.app N234 N235q
  have ne_w_r235 : w ≠ r235 := Nat.ne_of_lt (Nat.lt_of_lt_of_le c234_5.lt sr235)
  have ne_r234_r235 : r234 ≠ r235 := Nat.ne_of_lt (Nat.lt_of_lt_of_le xE234.lt sr235)
  have g_r235 : n0 ≤ r235 := Nat.le_trans Z234 sr235
  have sz_r235 : h0.size ≤ r235 := Nat.le_trans K234.1 sr235
  have c235_0 := own_sta_keep c234_0 K235q
  have c235_1 := own_sta_keep c234_1 K235q
  have c235_2 := own_sta_keep c234_2 K235q
  have c235_3 := own_sta_keep c234_3 K235q
  have c235_4 := own_sta_keep c234_4 K235q
  have c235_5 := c234_5.keep K235q nin0
  have c235_6 := CHr.trans c234_6 (CHr.keep K235q all0 c234_6.1)
  have c235_7 : 0 ≤ T235.heap.size := Nat.le_trans c234_7 K235q.1
  have c235_8 := xE234.keep K235q
  have c235_9 := own_S.keep xS234 K235q
  have Z235 : n0 ≤ T235.heap.size := Nat.le_trans Z234 K235q.1
  have K235 := Keep.trans K234 K235q all0
  refine own_goW (U' := T235.setTop (mkF m 63 #[.val (.int p0), .val (.int p1), .val (.long q2), .second, .val (.int y6), .val (.int y19), .val (.int y36), .val (.ref r234), .unset, .unset, .unset, .unset, .unset, .unset, .unset] [(.ref r235)])) (fun _ k => st235 _ k) ?_
  refine own_goW (U' := T235.setTop (mkF m 73 #[.val (.int p0), .val (.int p1), .val (.long q2), .second, .val (.int y6), .val (.int y19), .val (.int y36), .val (.ref r234), .val (.ref r235), .unset, .unset, .unset, .unset, .unset, .unset] [(.long (((q2.toUInt64 >>> ((32 : Int32) &&& 0x3f).toInt64.toUInt64).toInt64) &&& (65535 : Int64)))])) (fun _ k => XS.astore X235.here hx rfl (hb hby at_63) rfl rfl (l' := #[.val (.int p0), .val (.int p1), .val (.long q2), .second, .val (.int y6), .val (.int y19), .val (.int y36), .val (.ref r234), .val (.ref r235), .unset, .unset, .unset, .unset, .unset, .unset]) rfl (XS.lloadN X235.here hx rfl (hb hby at_65) rfl (XS.bipush X235.here hx rfl (hb hby at_66) (XS.lushr X235.here hx rfl (hb hby at_68) rfl (X235.ldc2Long hx hown (mvT hZ (hw _ (own_mem 8 rfl))) (g := (mkF m 69 #[.val (.int p0), .val (.int p1), .val (.long q2), .second, .val (.int y6), .val (.int y19), .val (.int y36), .val (.ref r234), .val (.ref r235), .unset, .unset, .unset, .unset, .unset, .unset] [(.long ((q2.toUInt64 >>> ((32 : Int32) &&& 0x3f).toInt64.toUInt64).toInt64))])) rfl (hb hby at_69) _ (XS.land X235.here hx rfl (hb hby at_72) rfl k)))))) ?_
  refine own_goW (U' := T235.setTop (mkF m 75 #[.val (.int p0), .val (.int p1), .val (.long q2), .second, .val (.int y6), .val (.int y19), .val (.int y36), .val (.ref r234), .val (.ref r235), .unset, .unset, .unset, .unset, .unset, .unset] [(.int (((((q2.toUInt64 >>> ((32 : Int32) &&& 0x3f).toInt64.toUInt64).toInt64) &&& (65535 : Int64)).toInt32).toUInt32.toUInt16.toUInt32.toInt32))])) (fun _ k => XS.l2i X235.here hx rfl (hb hby at_73) rfl (XS.i2c X235.here hx rfl (hb hby at_74) rfl k)) ?_
  obtain ⟨_, _, ⟨T236, L236, k236, n236⟩, -, X236, ⟨Lc236, hQ236, l236, y236, z236⟩, st236⟩ := Jvm.LawKit.callS X235 hx (y := (⟨"java/lang/String", "valueOf", "(C)Ljava/lang/String;"⟩ : MethodName)) hown (mvT hZ (hw _ (own_mem 9 rfl))) (mvT hZ (hw _ (own_mem 10 rfl))) (mvT hZ (hw _ (own_mem 11 rfl))) (mvT hZ (hw _ (own_mem 12 rfl))) (by decide) (backOf (W := 0) (rm3 l Z aw hw [] (((((q2.toUInt64 >>> ((32 : Int32) &&& 0x3f).toInt64.toUInt64).toInt64) &&& (65535 : Int64)).toInt32).toUInt32.toUInt16.toUInt32.toInt32) cs T235.heap n0 Z235 c235_0 c235_1 c235_2 c235_3 (by first | assumption | decide | rfl)) hZ (hw _ (own_mem 12 rfl)) (hw _ (own_mem 11 rfl)) (by decide) (by decide)) (g := (mkF m 75 #[.val (.int p0), .val (.int p1), .val (.long q2), .second, .val (.int y6), .val (.int y19), .val (.int y36), .val (.ref r234), .val (.ref r235), .unset, .unset, .unset, .unset, .unset, .unset] [(.int (((((q2.toUInt64 >>> ((32 : Int32) &&& 0x3f).toInt64.toUInt64).toInt64) &&& (65535 : Int64)).toInt32).toUInt32.toUInt16.toUInt32.toInt32))])) rfl (by rw [hml]; rfl) (argsL := [(.int (((((q2.toUInt64 >>> ((32 : Int32) &&& 0x3f).toInt64.toUInt64).toInt64) &&& (65535 : Int64)).toInt32).toUInt32.toUInt16.toUInt32.toInt32))]) (rest := []) (lenOf own_pd16 rfl) rfl (by show 2 * 0 + _ ≤ _; exact Nat.le_of_eq rfl) (hb hby at_75) (fun _ _ => ⟨rfl, rfl, (by decide : 4 + 2 ≤ _), (by decide : 12 + 6 ≤ _)⟩)
  dsimp only [Pt.U, Pt.locs, Pt.cells, Pt.slots] at X236 l236 y236 z236 st236 hQ236
  subst l236 y236 z236
  obtain ⟨r236, rfl, N236q, K236q, sr236, xE236, xS236⟩ := hQ236
  have N236 := Fr.app N235 N236q
  have ne_w_r236 : w ≠ r236 := Nat.ne_of_lt (Nat.lt_of_lt_of_le c235_5.lt sr236)
  have ne_r234_r236 : r234 ≠ r236 := Nat.ne_of_lt (Nat.lt_of_lt_of_le c235_8.lt sr236)
  have ne_r235_r236 : r235 ≠ r236 := Nat.ne_of_lt (Nat.lt_of_lt_of_le xE235.lt sr236)
  have g_r236 : n0 ≤ r236 := Nat.le_trans Z235 sr236
  have sz_r236 : h0.size ≤ r236 := Nat.le_trans K235.1 sr236
  have c236_0 := own_sta_keep c235_0 K236q
  have c236_1 := own_sta_keep c235_1 K236q
  have c236_2 := own_sta_keep c235_2 K236q
  have c236_3 := own_sta_keep c235_3 K236q
  have c236_4 := own_sta_keep c235_4 K236q
  have c236_5 := c235_5.keep K236q nin0
  have c236_6 := CHr.trans c235_6 (CHr.keep K236q all0 c235_6.1)
  have c236_7 : 0 ≤ T236.heap.size := Nat.le_trans c235_7 K236q.1
  have c236_8 := c235_8.keep K236q
  have c236_9 := own_S.keep c235_9 K236q
  have c236_10 := xE235.keep K236q
  have c236_11 := own_S.keep xS235 K236q
  have Z236 : n0 ≤ T236.heap.size := Nat.le_trans Z235 K236q.1
  have K236 := Keep.trans K235 K236q all0
  refine own_goW (U' := T236.setTop (mkF m 78 #[.val (.int p0), .val (.int p1), .val (.long q2), .second, .val (.int y6), .val (.int y19), .val (.int y36), .val (.ref r234), .val (.ref r235), .unset, .unset, .unset, .unset, .unset, .unset] [(.ref r236)])) (fun _ k => st236 _ k) ?_
  refine own_goW (U' := T236.setTop (mkF m 88 #[.val (.int p0), .val (.int p1), .val (.long q2), .second, .val (.int y6), .val (.int y19), .val (.int y36), .val (.ref r234), .val (.ref r235), .val (.ref r236), .unset, .unset, .unset, .unset, .unset] [(.long (((q2.toUInt64 >>> ((48 : Int32) &&& 0x3f).toInt64.toUInt64).toInt64) &&& (65535 : Int64)))])) (fun _ k => XS.astore X236.here hx rfl (hb hby at_78) rfl rfl (l' := #[.val (.int p0), .val (.int p1), .val (.long q2), .second, .val (.int y6), .val (.int y19), .val (.int y36), .val (.ref r234), .val (.ref r235), .val (.ref r236), .unset, .unset, .unset, .unset, .unset]) rfl (XS.lloadN X236.here hx rfl (hb hby at_80) rfl (XS.bipush X236.here hx rfl (hb hby at_81) (XS.lushr X236.here hx rfl (hb hby at_83) rfl (X236.ldc2Long hx hown (mvT hZ (hw _ (own_mem 8 rfl))) (g := (mkF m 84 #[.val (.int p0), .val (.int p1), .val (.long q2), .second, .val (.int y6), .val (.int y19), .val (.int y36), .val (.ref r234), .val (.ref r235), .val (.ref r236), .unset, .unset, .unset, .unset, .unset] [(.long ((q2.toUInt64 >>> ((48 : Int32) &&& 0x3f).toInt64.toUInt64).toInt64))])) rfl (hb hby at_84) _ (XS.land X236.here hx rfl (hb hby at_87) rfl k)))))) ?_
  refine own_goW (U' := T236.setTop (mkF m 90 #[.val (.int p0), .val (.int p1), .val (.long q2), .second, .val (.int y6), .val (.int y19), .val (.int y36), .val (.ref r234), .val (.ref r235), .val (.ref r236), .unset, .unset, .unset, .unset, .unset] [(.int (((((q2.toUInt64 >>> ((48 : Int32) &&& 0x3f).toInt64.toUInt64).toInt64) &&& (65535 : Int64)).toInt32).toUInt32.toUInt16.toUInt32.toInt32))])) (fun _ k => XS.l2i X236.here hx rfl (hb hby at_88) rfl (XS.i2c X236.here hx rfl (hb hby at_89) rfl k)) ?_
  obtain ⟨_, _, ⟨T237, L237, k237, n237⟩, -, X237, ⟨Lc237, hQ237, l237, y237, z237⟩, st237⟩ := Jvm.LawKit.callS X236 hx (y := (⟨"java/lang/String", "valueOf", "(C)Ljava/lang/String;"⟩ : MethodName)) hown (mvT hZ (hw _ (own_mem 9 rfl))) (mvT hZ (hw _ (own_mem 10 rfl))) (mvT hZ (hw _ (own_mem 11 rfl))) (mvT hZ (hw _ (own_mem 12 rfl))) (by decide) (backOf (W := 0) (rm3 l Z aw hw [] (((((q2.toUInt64 >>> ((48 : Int32) &&& 0x3f).toInt64.toUInt64).toInt64) &&& (65535 : Int64)).toInt32).toUInt32.toUInt16.toUInt32.toInt32) cs T236.heap n0 Z236 c236_0 c236_1 c236_2 c236_3 (by first | assumption | decide | rfl)) hZ (hw _ (own_mem 12 rfl)) (hw _ (own_mem 11 rfl)) (by decide) (by decide)) (g := (mkF m 90 #[.val (.int p0), .val (.int p1), .val (.long q2), .second, .val (.int y6), .val (.int y19), .val (.int y36), .val (.ref r234), .val (.ref r235), .val (.ref r236), .unset, .unset, .unset, .unset, .unset] [(.int (((((q2.toUInt64 >>> ((48 : Int32) &&& 0x3f).toInt64.toUInt64).toInt64) &&& (65535 : Int64)).toInt32).toUInt32.toUInt16.toUInt32.toInt32))])) rfl (by rw [hml]; rfl) (argsL := [(.int (((((q2.toUInt64 >>> ((48 : Int32) &&& 0x3f).toInt64.toUInt64).toInt64) &&& (65535 : Int64)).toInt32).toUInt32.toUInt16.toUInt32.toInt32))]) (rest := []) (lenOf own_pd16 rfl) rfl (by show 2 * 0 + _ ≤ _; exact Nat.le_of_eq rfl) (hb hby at_90) (fun _ _ => ⟨rfl, rfl, (by decide : 6 + 2 ≤ _), (by decide : 18 + 6 ≤ _)⟩)
  dsimp only [Pt.U, Pt.locs, Pt.cells, Pt.slots] at X237 l237 y237 z237 st237 hQ237
  subst l237 y237 z237
  obtain ⟨r237, rfl, N237q, K237q, sr237, xE237, xS237⟩ := hQ237
  have N237 := Fr.app N236 N237q
  have ne_w_r237 : w ≠ r237 := Nat.ne_of_lt (Nat.lt_of_lt_of_le c236_5.lt sr237)
  have ne_r234_r237 : r234 ≠ r237 := Nat.ne_of_lt (Nat.lt_of_lt_of_le c236_8.lt sr237)
  have ne_r235_r237 : r235 ≠ r237 := Nat.ne_of_lt (Nat.lt_of_lt_of_le c236_10.lt sr237)
  have ne_r236_r237 : r236 ≠ r237 := Nat.ne_of_lt (Nat.lt_of_lt_of_le xE236.lt sr237)
  have g_r237 : n0 ≤ r237 := Nat.le_trans Z236 sr237
  have sz_r237 : h0.size ≤ r237 := Nat.le_trans K236.1 sr237
  have c237_0 := own_sta_keep c236_0 K237q
  have c237_1 := own_sta_keep c236_1 K237q
  have c237_2 := own_sta_keep c236_2 K237q
  have c237_3 := own_sta_keep c236_3 K237q
  have c237_4 := own_sta_keep c236_4 K237q
  have c237_5 := c236_5.keep K237q nin0
  have c237_6 := CHr.trans c236_6 (CHr.keep K237q all0 c236_6.1)
  have c237_7 : 0 ≤ T237.heap.size := Nat.le_trans c236_7 K237q.1
  have c237_8 := c236_8.keep K237q
  have c237_9 := own_S.keep c236_9 K237q
  have c237_10 := c236_10.keep K237q
  have c237_11 := own_S.keep c236_11 K237q
  have c237_12 := xE236.keep K237q
  have c237_13 := own_S.keep xS236 K237q
  have Z237 : n0 ≤ T237.heap.size := Nat.le_trans Z236 K237q.1
  have K237 := Keep.trans K236 K237q all0
  refine own_goW (U' := T237.setTop (mkF m 93 #[.val (.int p0), .val (.int p1), .val (.long q2), .second, .val (.int y6), .val (.int y19), .val (.int y36), .val (.ref r234), .val (.ref r235), .val (.ref r236), .unset, .unset, .unset, .unset, .unset] [(.ref r237)])) (fun _ k => st237 _ k) ?_
  refine own_goW (U' := T237.setTop (mkF m 95 #[.val (.int p0), .val (.int p1), .val (.long q2), .second, .val (.int y6), .val (.int y19), .val (.int y36), .val (.ref r234), .val (.ref r235), .val (.ref r236), .val (.ref r237), .unset, .unset, .unset, .unset] [])) (fun _ k => XS.astore X237.here hx rfl (hb hby at_93) rfl rfl (l' := #[.val (.int p0), .val (.int p1), .val (.long q2), .second, .val (.int y6), .val (.int y19), .val (.int y36), .val (.ref r234), .val (.ref r235), .val (.ref r236), .val (.ref r237), .unset, .unset, .unset, .unset]) rfl k) ?_
  obtain ⟨T238, h238, X238, e238, E238, A238, D238, -, st238⟩ := newO X237 hx hZ hown (hw _ (own_mem 35 rfl)) (hw _ (own_mem 36 rfl)) (hw _ (own_mem 37 rfl)) rfl (g := (mkF m 95 #[.val (.int p0), .val (.int p1), .val (.long q2), .second, .val (.int y6), .val (.int y19), .val (.int y36), .val (.ref r234), .val (.ref r235), .val (.ref r236), .val (.ref r237), .unset, .unset, .unset, .unset] [])) rfl (hb hby at_95) (by decide) (by decide)
  obtain ⟨b238, g238⟩ : ∃ z, z = T237.heap.size := ⟨_, rfl⟩
  have g_b238 : n0 ≤ b238 := Nat.le_trans Z237 (Nat.le_of_eq g238.symm)
  have sz_b238 : T237.heap.size ≤ b238 := Nat.le_trans (Keep.refl T237.heap []).1 (Nat.le_of_eq g238.symm)
  have ne_w_b238 : w ≠ b238 := Nat.ne_of_lt (Nat.lt_of_lt_of_le c237_5.lt (Nat.le_of_eq g238.symm))
  have ne_r234_b238 : r234 ≠ b238 := Nat.ne_of_lt (Nat.lt_of_lt_of_le c237_8.lt (Nat.le_of_eq g238.symm))
  have ne_r235_b238 : r235 ≠ b238 := Nat.ne_of_lt (Nat.lt_of_lt_of_le c237_10.lt (Nat.le_of_eq g238.symm))
  have ne_r236_b238 : r236 ≠ b238 := Nat.ne_of_lt (Nat.lt_of_lt_of_le c237_12.lt (Nat.le_of_eq g238.symm))
  have ne_r237_b238 : r237 ≠ b238 := Nat.ne_of_lt (Nat.lt_of_lt_of_le xE237.lt (Nat.le_of_eq g238.symm))
  rw [← g238] at A238 D238 st238
  have c238_0 := c237_0.ext E238
  have c238_1 := c237_1.ext E238
  have c238_2 := c237_2.ext E238
  have c238_3 := c237_3.ext E238
  have c238_4 := c237_4.ext E238
  have c238_5 := c237_5.ext E238
  have c238_6 := CHr.trans c237_6 (CHr.ext E238 c237_6.1)
  have c238_7 : 0 ≤ h238.size := Nat.le_trans c237_7 E238.1
  have c238_8 := c237_8.ext E238
  have c238_9 := c237_10.ext E238
  have c238_10 := c237_12.ext E238
  have c238_11 := xE237.ext E238
  have Z238 : n0 ≤ h238.size := Nat.le_trans Z237 E238.1
  have K238 := Keep.ext (Keep.refl T237.heap []) E238
  have F238_55 : Fld Z h238 b238 "java/util/AbstractList" "modCount" "I" (.int (0 : Int32)) := D238 (Or.inl (hw _ (own_mem 55 rfl))) (ty := .int) (by decide)
  have F238_58 : Fld Z h238 b238 "java/util/ArrayList" "elementData" "[Ljava/lang/Object;" .null := D238 (Or.inl (hw _ (own_mem 58 rfl))) (ty := (.array (.object "java/lang/Object"))) (by decide)
  have F238_98 : Fld Z h238 b238 "java/util/ArrayList" "size" "I" (.int (0 : Int32)) := D238 (Or.inl (hw _ (own_mem 98 rfl))) (ty := .int) (by decide)
  refine own_goW (U' := T238.setTop (mkF m 98 #[.val (.int p0), .val (.int p1), .val (.long q2), .second, .val (.int y6), .val (.int y19), .val (.int y36), .val (.ref r234), .val (.ref r235), .val (.ref r236), .val (.ref r237), .unset, .unset, .unset, .unset] [(.ref b238)])) (fun _ k => st238 _ k) ?_
  refine own_goW (U' := T238.setTop (mkF m 99 #[.val (.int p0), .val (.int p1), .val (.long q2), .second, .val (.int y6), .val (.int y19), .val (.int y36), .val (.ref r234), .val (.ref r235), .val (.ref r236), .val (.ref r237), .unset, .unset, .unset, .unset] [(.ref b238), (.ref b238)])) (fun _ k => XS.dup X238.here hx rfl (hb hby at_98) rfl rfl k) ?_
  obtain ⟨_, _, ⟨T239, L239, k239, n239⟩, -, X239, ⟨Lc239, hQ239, l239, y239, z239⟩, st239⟩ := X238.specialBack hx (y := (⟨"java/util/ArrayList", "<init>", "()V"⟩ : MethodName)) rfl hown (mvT hZ (hw _ (own_mem 38 rfl))) (mvT hZ (hw _ (own_mem 39 rfl))) (mvT hZ (hw _ (own_mem 40 rfl))) (by decide) (backOf (W := 1) (rm8 l Z aw hw [] b238 w h238 n0 Z238 c238_4 A238 F238_98 F238_58 F238_55 (by first | assumption | decide | rfl)) hZ (hw _ (own_mem 40 rfl)) (hw _ (own_mem 37 rfl)) (by decide) (by decide)) (g := (mkF m 99 #[.val (.int p0), .val (.int p1), .val (.long q2), .second, .val (.int y6), .val (.int y19), .val (.int y36), .val (.ref r234), .val (.ref r235), .val (.ref r236), .val (.ref r237), .unset, .unset, .unset, .unset] [(.ref b238), (.ref b238)])) rfl (by rw [hml]; rfl) (Steps.refl _) (a := b238) (argsL := []) (rest := [(.ref b238)]) (lenOf own_pd10 rfl) rfl (by show 2 * 0 + _ ≤ _; exact Nat.le_of_eq rfl) (hb hby at_99) (fun _ _ => ⟨rfl, e238, (by decide : 9 + 0 ≤ _), (by decide : 27 + 0 ≤ _)⟩)
  dsimp only [Pt.U, Pt.locs, Pt.cells, Pt.slots] at X239 l239 y239 z239 st239 hQ239
  subst l239 y239 z239
  obtain ⟨rfl, N239q, K239q, xE239, xS239, xD239, xM239⟩ := hQ239
  have N239 := Fr.app N237 N239q
  have c239_0 := own_sta_keepX c238_0 K239q (allS A238.nostat all0)
  have c239_1 := own_sta_keepX c238_1 K239q (allS A238.nostat all0)
  have c239_2 := own_sta_keepX c238_2 K239q (allS A238.nostat all0)
  have c239_3 := own_sta_keepX c238_3 K239q (allS A238.nostat all0)
  have c239_4 := own_sta_keepX c238_4 K239q (allS A238.nostat all0)
  have c239_5 := c238_5.keep K239q (ninS ne_w_b238 nin0)
  have c239_6 := CHr.trans c238_6 (CHr.keep K239q (allS (Safe.exa hZ.alike A238 (by decide) (by decide)) all0) c238_6.1)
  have c239_7 : 0 ≤ T239.heap.size := Nat.le_trans c238_7 K239q.1
  have c239_8 := c238_8.keep K239q
  have c239_9 := c238_9.keep K239q
  have c239_10 := c238_10.keep K239q
  have c239_11 := c238_11.keep K239q
  have c239_12 := A238.keep K239q
  have Z239 : n0 ≤ T239.heap.size := Nat.le_trans Z238 K239q.1
  have K239 := Keep.trans K238 K239q (allS (Or.inr sz_b238) all0)
  refine own_goW (U' := T239.setTop (mkF m 102 #[.val (.int p0), .val (.int p1), .val (.long q2), .second, .val (.int y6), .val (.int y19), .val (.int y36), .val (.ref r234), .val (.ref r235), .val (.ref r236), .val (.ref r237), .unset, .unset, .unset, .unset] [(.ref b238)])) (fun _ k => st239.trans k) ?_
  refine own_goW (U' := T239.setTop (mkF m 106 #[.val (.int p0), .val (.int p1), .val (.long q2), .second, .val (.int y6), .val (.int y19), .val (.int y36), .val (.ref r234), .val (.ref r235), .val (.ref r236), .val (.ref r237), .val (.ref b238), .unset, .unset, .unset] [(.int y6)])) (fun _ k => XS.astore X239.here hx rfl (hb hby at_102) rfl rfl (l' := #[.val (.int p0), .val (.int p1), .val (.long q2), .second, .val (.int y6), .val (.int y19), .val (.int y36), .val (.ref r234), .val (.ref r235), .val (.ref r236), .val (.ref r237), .val (.ref b238), .unset, .unset, .unset]) rfl (XS.iload X239.here hx rfl (hb hby at_104) rfl k)) ?_
  by_cases hc106_240 : (0 : Int32) < y6
  ·refine own_goW (U' := T239.setTop (mkF m 113 #[.val (.int p0), .val (.int p1), .val (.long q2), .second, .val (.int y6), .val (.int y19), .val (.int y36), .val (.ref r234), .val (.ref r235), .val (.ref r236), .val (.ref r237), .val (.ref b238), .unset, .unset, .unset] [(.ref r234), (.ref b238)])) (fun _ k => XS.ifNo X239.here hx rfl (hb hby at_106) rfl ((if0 _ _).trans (tlt hc106_240).2.2.2) (XS.aload X239.here hx rfl (hb hby at_109) rfl rfl (XS.aload X239.here hx rfl (hb hby at_111) rfl rfl k))) ?_
   obtain ⟨cq241, kq241, q241a, q241b, q241c⟩ := isOf hZ rfl xE239
   obtain ⟨_, _, ⟨T241, L241, k241, n241⟩, -, X241, ⟨Lc241, hQ241, l241, y241, z241⟩, st241⟩ := X239.interfaceBack hx (xi := (⟨"java/util/List", "add", "(Ljava/lang/Object;)Z"⟩ : MethodName)) (y := (⟨"java/util/ArrayList", "add", "(Ljava/lang/Object;)Z"⟩ : MethodName)) hown (mvT hZ (hw _ (own_mem 105 rfl))) (mvT hZ (hw _ (own_mem 106 rfl))) (mvT hZ (hw _ (own_mem 107 rfl))) (mvT hZ (hw _ (own_mem 108 rfl))) (mvT hZ (hw _ (own_mem 109 rfl))) (mvT hZ (hw _ (own_mem 110 rfl))) (mvT hZ (hw _ (own_mem 111 rfl))) (mvT hZ (hw _ (own_mem 95 rfl))) (by decide) (backOf (W := 0) (rm16g l Z aw hw [] b238 r234 w k0 (0 : Int32) T239.heap n0 Z239 c239_4 c239_5 (Ins.of_exa c239_8 (hw _ (own_mem 133 rfl))) xE239 xS239 xD239 xM239 (by first | assumption | decide | rfl)) hZ (hw _ (own_mem 112 rfl)) (hw _ (own_mem 37 rfl)) (by decide) (by decide)) q241a q241b q241c (g := (mkF m 113 #[.val (.int p0), .val (.int p1), .val (.long q2), .second, .val (.int y6), .val (.int y19), .val (.int y36), .val (.ref r234), .val (.ref r235), .val (.ref r236), .val (.ref r237), .val (.ref b238), .unset, .unset, .unset] [(.ref r234), (.ref b238)])) rfl (by rw [hml]; rfl) (Steps.refl _) (argsL := [(.ref r234)]) (rest := []) (lenOf own_pd15 rfl) rfl (by show 2 * 0 + _ ≤ _; exact Nat.le_of_eq rfl) (hb hby at_113) (fun _ _ => ⟨rfl, rfl, (by decide : 9 + 1 ≤ _), (by decide : 27 + 10 ≤ _)⟩)
   dsimp only [Pt.U, Pt.locs, Pt.cells, Pt.slots] at X241 l241 y241 z241 st241 hQ241
   subst l241 y241 z241
   obtain ⟨r241, kr241, rfl, N241q, K241q, sr241, xE241, xS241, xD241, xM241, xV241, xO241⟩ := hQ241
   have N241 := Fr.app N239 N241q
   have ne_w_r241 : w ≠ r241 := Nat.ne_of_lt (Nat.lt_of_lt_of_le c239_5.lt sr241)
   have ne_r234_r241 : r234 ≠ r241 := Nat.ne_of_lt (Nat.lt_of_lt_of_le c239_8.lt sr241)
   have ne_r235_r241 : r235 ≠ r241 := Nat.ne_of_lt (Nat.lt_of_lt_of_le c239_9.lt sr241)
   have ne_r236_r241 : r236 ≠ r241 := Nat.ne_of_lt (Nat.lt_of_lt_of_le c239_10.lt sr241)
   have ne_r237_r241 : r237 ≠ r241 := Nat.ne_of_lt (Nat.lt_of_lt_of_le c239_11.lt sr241)
   have ne_b238_r241 : b238 ≠ r241 := Nat.ne_of_lt (Nat.lt_of_lt_of_le xE239.lt sr241)
   have g_r241 : n0 ≤ r241 := Nat.le_trans Z239 sr241
   have sz_r241 : T237.heap.size ≤ r241 := Nat.le_trans K239.1 sr241
   have c241_0 := own_sta_keepX c239_0 K241q (allS xE239.nostat all0)
   have c241_1 := own_sta_keepX c239_1 K241q (allS xE239.nostat all0)
   have c241_2 := own_sta_keepX c239_2 K241q (allS xE239.nostat all0)
   have c241_3 := own_sta_keepX c239_3 K241q (allS xE239.nostat all0)
   have c241_4 := own_sta_keepX c239_4 K241q (allS xE239.nostat all0)
   have c241_5 := c239_5.keep K241q (ninS ne_w_b238 nin0)
   have c241_6 := CHr.trans c239_6 (CHr.keep K241q (allS (Safe.exa hZ.alike xE239 (by decide) (by decide)) all0) c239_6.1)
   have c241_7 : 0 ≤ T241.heap.size := Nat.le_trans c239_7 K241q.1
   have c241_8 := c239_8.keep K241q
   have c241_9 := c239_9.keep K241q
   have c241_10 := c239_10.keep K241q
   have c241_11 := c239_11.keep K241q
   have c241_12 := xE239.keep K241q
   have c241_16 := own_ins_keep (Ins.of_exa c239_8 (hw _ (own_mem 133 rfl))) K241q
   have nf242 : Fld Z T241.heap b238 "java/util/AbstractList" "modCount" "I" (.int (1 : Int32)) := xM241
   have Z241 : n0 ≤ T241.heap.size := Nat.le_trans Z239 K241q.1
   have K241 := Keep.trans K239 K241q (allS (Or.inr sz_b238) all0)
   refine own_goW (U' := T241.setTop (mkF m 118 #[.val (.int p0), .val (.int p1), .val (.long q2), .second, .val (.int y6), .val (.int y19), .val (.int y36), .val (.ref r234), .val (.ref r235), .val (.ref r236), .val (.ref r237), .val (.ref b238), .unset, .unset, .unset] [(.int (1 : Int32))])) (fun _ k => st241.trans k) ?_
   refine own_goW (U' := T241.setTop (mkF m 122 #[.val (.int p0), .val (.int p1), .val (.long q2), .second, .val (.int y6), .val (.int y19), .val (.int y36), .val (.ref r234), .val (.ref r235), .val (.ref r236), .val (.ref r237), .val (.ref b238), .unset, .unset, .unset] [(.int (1 : Int32)), (.int y6)])) (fun _ k => XS.pop X241.here hx rfl (hb hby at_118) rfl rfl (XS.iload X241.here hx rfl (hb hby at_119) rfl (XS.iconst X241.here hx rfl (hb hby at_121) k))) ?_
   by_cases hc122_243 : (1 : Int32) < y6
   ·refine own_goW (U' := T241.setTop (mkF m 129 #[.val (.int p0), .val (.int p1), .val (.long q2), .second, .val (.int y6), .val (.int y19), .val (.int y36), .val (.ref r234), .val (.ref r235), .val (.ref r236), .val (.ref r237), .val (.ref b238), .unset, .unset, .unset] [(.ref r235), (.ref b238)])) (fun _ k => XS.icmpNo X241.here hx rfl (hb hby at_122) rfl (tlt hc122_243).2.2.2 (XS.aload X241.here hx rfl (hb hby at_125) rfl rfl (XS.aload X241.here hx rfl (hb hby at_127) rfl rfl k))) ?_
    obtain ⟨cq244, kq244, q244a, q244b, q244c⟩ := isOf hZ rfl xE241
    obtain ⟨_, _, ⟨T244, L244, k244, n244⟩, -, X244, ⟨Lc244, hQ244, l244, y244, z244⟩, st244⟩ := X241.interfaceBack hx (xi := (⟨"java/util/List", "add", "(Ljava/lang/Object;)Z"⟩ : MethodName)) (y := (⟨"java/util/ArrayList", "add", "(Ljava/lang/Object;)Z"⟩ : MethodName)) hown (mvT hZ (hw _ (own_mem 105 rfl))) (mvT hZ (hw _ (own_mem 106 rfl))) (mvT hZ (hw _ (own_mem 107 rfl))) (mvT hZ (hw _ (own_mem 108 rfl))) (mvT hZ (hw _ (own_mem 109 rfl))) (mvT hZ (hw _ (own_mem 110 rfl))) (mvT hZ (hw _ (own_mem 111 rfl))) (mvT hZ (hw _ (own_mem 95 rfl))) (by decide) (backOf (W := 0) (rm16s l Z aw hw [] b238 r235 r241 kr241 (1 : Int32) (1 : Int32) [(.ref r234), .null, .null, .null, .null, .null, .null, .null, .null, .null] T241.heap n0 Z241 (Ins.of_exa c241_9 (hw _ (own_mem 133 rfl))) xE241 xS241 xD241 nf242 xV241 (by first | assumption | decide | rfl) (by first | assumption | decide | rfl) (by first | assumption | decide | rfl) (by first | assumption | decide | rfl) (by first | assumption | decide | rfl) (by first | assumption | decide | rfl) (by first | assumption | decide | rfl) (by first | assumption | decide | rfl)) hZ (hw _ (own_mem 112 rfl)) (hw _ (own_mem 37 rfl)) (by decide) (by decide)) q244a q244b q244c (g := (mkF m 129 #[.val (.int p0), .val (.int p1), .val (.long q2), .second, .val (.int y6), .val (.int y19), .val (.int y36), .val (.ref r234), .val (.ref r235), .val (.ref r236), .val (.ref r237), .val (.ref b238), .unset, .unset, .unset] [(.ref r235), (.ref b238)])) rfl (by rw [hml]; rfl) (Steps.refl _) (argsL := [(.ref r235)]) (rest := []) (lenOf own_pd15 rfl) rfl (by show 2 * 0 + _ ≤ _; exact Nat.le_of_eq rfl) (hb hby at_129) (fun _ _ => ⟨rfl, rfl, (by decide : 10 + 0 ≤ _), (by decide : 37 + 0 ≤ _)⟩)
    dsimp only [Pt.U, Pt.locs, Pt.cells, Pt.slots] at X244 l244 y244 z244 st244 hQ244
    subst l244 y244 z244
    obtain ⟨rfl, N244q, K244q, xE244, xS244, xD244, xM244, xV244⟩ := hQ244
    have N244 := Fr.app N241 N244q
    have c244_0 := own_sta_keepX c241_0 K244q (allS xE241.nostat (allS xV241.nostat all0))
    have c244_1 := own_sta_keepX c241_1 K244q (allS xE241.nostat (allS xV241.nostat all0))
    have c244_2 := own_sta_keepX c241_2 K244q (allS xE241.nostat (allS xV241.nostat all0))
    have c244_3 := own_sta_keepX c241_3 K244q (allS xE241.nostat (allS xV241.nostat all0))
    have c244_4 := own_sta_keepX c241_4 K244q (allS xE241.nostat (allS xV241.nostat all0))
    have c244_5 := c241_5.keep K244q (ninS ne_w_b238 (ninS ne_w_r241 nin0))
    have c244_6 := CHr.trans c241_6 (CHr.keep K244q (allS (Safe.exa hZ.alike xE241 (by decide) (by decide)) (allS (own_safe_arv hZ.alike xV241 (by decide)) all0)) c241_6.1)
    have c244_7 : 0 ≤ T244.heap.size := Nat.le_trans c241_7 K244q.1
    have c244_8 := c241_8.keep K244q
    have c244_9 := c241_9.keep K244q
    have c244_10 := c241_10.keep K244q
    have c244_11 := c241_11.keep K244q
    have c244_12 := xE241.keep K244q
    have c244_13 := own_ins_keep c241_16 K244q
    have c244_18 := own_ins_keep (Ins.of_exa c241_9 (hw _ (own_mem 133 rfl))) K244q
    have nf245 : Fld Z T244.heap b238 "java/util/ArrayList" "size" "I" (.int (2 : Int32)) := xS244
    have nf246 : Fld Z T244.heap b238 "java/util/AbstractList" "modCount" "I" (.int (2 : Int32)) := xM244
    have nl244 : Arv Z T244.heap r241 kr241 (.object "java/lang/Object") (10 : Int32) [(.ref r234), (.ref r235), .null, .null, .null, .null, .null, .null, .null, .null] .null := xV244
    have Z244 : n0 ≤ T244.heap.size := Nat.le_trans Z241 K244q.1
    have K244 := Keep.trans K241 K244q (allS (Or.inr sz_b238) (allS (Or.inr sz_r241) all0))
    refine own_goW (U' := T244.setTop (mkF m 134 #[.val (.int p0), .val (.int p1), .val (.long q2), .second, .val (.int y6), .val (.int y19), .val (.int y36), .val (.ref r234), .val (.ref r235), .val (.ref r236), .val (.ref r237), .val (.ref b238), .unset, .unset, .unset] [(.int (1 : Int32))])) (fun _ k => st244.trans k) ?_
    refine own_goW (U' := T244.setTop (mkF m 138 #[.val (.int p0), .val (.int p1), .val (.long q2), .second, .val (.int y6), .val (.int y19), .val (.int y36), .val (.ref r234), .val (.ref r235), .val (.ref r236), .val (.ref r237), .val (.ref b238), .unset, .unset, .unset] [(.int (2 : Int32)), (.int y6)])) (fun _ k => XS.pop X244.here hx rfl (hb hby at_134) rfl rfl (XS.iload X244.here hx rfl (hb hby at_135) rfl (XS.iconst X244.here hx rfl (hb hby at_137) k))) ?_
    by_cases hc138_247 : (2 : Int32) < y6
    ·refine own_goW (U' := T244.setTop (mkF m 145 #[.val (.int p0), .val (.int p1), .val (.long q2), .second, .val (.int y6), .val (.int y19), .val (.int y36), .val (.ref r234), .val (.ref r235), .val (.ref r236), .val (.ref r237), .val (.ref b238), .unset, .unset, .unset] [(.ref r236), (.ref b238)])) (fun _ k => XS.icmpNo X244.here hx rfl (hb hby at_138) rfl (tlt hc138_247).2.2.2 (XS.aload X244.here hx rfl (hb hby at_141) rfl rfl (XS.aload X244.here hx rfl (hb hby at_143) rfl rfl k))) ?_
     obtain ⟨cq248, kq248, q248a, q248b, q248c⟩ := isOf hZ rfl xE244
     obtain ⟨_, _, ⟨T248, L248, k248, n248⟩, -, X248, ⟨Lc248, hQ248, l248, y248, z248⟩, st248⟩ := X244.interfaceBack hx (xi := (⟨"java/util/List", "add", "(Ljava/lang/Object;)Z"⟩ : MethodName)) (y := (⟨"java/util/ArrayList", "add", "(Ljava/lang/Object;)Z"⟩ : MethodName)) hown (mvT hZ (hw _ (own_mem 105 rfl))) (mvT hZ (hw _ (own_mem 106 rfl))) (mvT hZ (hw _ (own_mem 107 rfl))) (mvT hZ (hw _ (own_mem 108 rfl))) (mvT hZ (hw _ (own_mem 109 rfl))) (mvT hZ (hw _ (own_mem 110 rfl))) (mvT hZ (hw _ (own_mem 111 rfl))) (mvT hZ (hw _ (own_mem 95 rfl))) (by decide) (backOf (W := 0) (rm16s l Z aw hw [] b238 r236 r241 kr241 (2 : Int32) (2 : Int32) [(.ref r234), (.ref r235), .null, .null, .null, .null, .null, .null, .null, .null] T244.heap n0 Z244 (Ins.of_exa c244_10 (hw _ (own_mem 133 rfl))) xE244 nf245 xD244 nf246 nl244 (by first | assumption | decide | rfl) (by first | assumption | decide | rfl) (by first | assumption | decide | rfl) (by first | assumption | decide | rfl) (by first | assumption | decide | rfl) (by first | assumption | decide | rfl) (by first | assumption | decide | rfl) (by first | assumption | decide | rfl)) hZ (hw _ (own_mem 112 rfl)) (hw _ (own_mem 37 rfl)) (by decide) (by decide)) q248a q248b q248c (g := (mkF m 145 #[.val (.int p0), .val (.int p1), .val (.long q2), .second, .val (.int y6), .val (.int y19), .val (.int y36), .val (.ref r234), .val (.ref r235), .val (.ref r236), .val (.ref r237), .val (.ref b238), .unset, .unset, .unset] [(.ref r236), (.ref b238)])) rfl (by rw [hml]; rfl) (Steps.refl _) (argsL := [(.ref r236)]) (rest := []) (lenOf own_pd15 rfl) rfl (by show 2 * 0 + _ ≤ _; exact Nat.le_of_eq rfl) (hb hby at_145) (fun _ _ => ⟨rfl, rfl, (by decide : 10 + 0 ≤ _), (by decide : 37 + 0 ≤ _)⟩)
     dsimp only [Pt.U, Pt.locs, Pt.cells, Pt.slots] at X248 l248 y248 z248 st248 hQ248
     subst l248 y248 z248
     obtain ⟨rfl, N248q, K248q, xE248, xS248, xD248, xM248, xV248⟩ := hQ248
     have N248 := Fr.app N244 N248q
     have c248_0 := own_sta_keepX c244_0 K248q (allS xE244.nostat (allS nl244.nostat all0))
     have c248_1 := own_sta_keepX c244_1 K248q (allS xE244.nostat (allS nl244.nostat all0))
     have c248_2 := own_sta_keepX c244_2 K248q (allS xE244.nostat (allS nl244.nostat all0))
     have c248_3 := own_sta_keepX c244_3 K248q (allS xE244.nostat (allS nl244.nostat all0))
     have c248_4 := own_sta_keepX c244_4 K248q (allS xE244.nostat (allS nl244.nostat all0))
     have c248_5 := c244_5.keep K248q (ninS ne_w_b238 (ninS ne_w_r241 nin0))
     have c248_6 := CHr.trans c244_6 (CHr.keep K248q (allS (Safe.exa hZ.alike xE244 (by decide) (by decide)) (allS (own_safe_arv hZ.alike nl244 (by decide)) all0)) c244_6.1)
     have c248_7 : 0 ≤ T248.heap.size := Nat.le_trans c244_7 K248q.1
     have c248_8 := c244_8.keep K248q
     have c248_9 := c244_9.keep K248q
     have c248_10 := c244_10.keep K248q
     have c248_11 := c244_11.keep K248q
     have c248_12 := xE244.keep K248q
     have c248_13 := own_ins_keep c244_13 K248q
     have c248_14 := own_ins_keep c244_18 K248q
     have c248_19 := own_ins_keep (Ins.of_exa c244_10 (hw _ (own_mem 133 rfl))) K248q
     have nf249 : Fld Z T248.heap b238 "java/util/ArrayList" "size" "I" (.int (3 : Int32)) := xS248
     have nf250 : Fld Z T248.heap b238 "java/util/AbstractList" "modCount" "I" (.int (3 : Int32)) := xM248
     have nl248 : Arv Z T248.heap r241 kr241 (.object "java/lang/Object") (10 : Int32) [(.ref r234), (.ref r235), (.ref r236), .null, .null, .null, .null, .null, .null, .null] .null := xV248
     have Z248 : n0 ≤ T248.heap.size := Nat.le_trans Z244 K248q.1
     have K248 := Keep.trans K244 K248q (allS (Or.inr sz_b238) (allS (Or.inr sz_r241) all0))
     refine own_goW (U' := T248.setTop (mkF m 150 #[.val (.int p0), .val (.int p1), .val (.long q2), .second, .val (.int y6), .val (.int y19), .val (.int y36), .val (.ref r234), .val (.ref r235), .val (.ref r236), .val (.ref r237), .val (.ref b238), .unset, .unset, .unset] [(.int (1 : Int32))])) (fun _ k => st248.trans k) ?_
     refine own_goW (U' := T248.setTop (mkF m 154 #[.val (.int p0), .val (.int p1), .val (.long q2), .second, .val (.int y6), .val (.int y19), .val (.int y36), .val (.ref r234), .val (.ref r235), .val (.ref r236), .val (.ref r237), .val (.ref b238), .unset, .unset, .unset] [(.int (3 : Int32)), (.int y6)])) (fun _ k => XS.pop X248.here hx rfl (hb hby at_150) rfl rfl (XS.iload X248.here hx rfl (hb hby at_151) rfl (XS.iconst X248.here hx rfl (hb hby at_153) k))) ?_
     by_cases hc154_251 : (3 : Int32) < y6
     ·refine own_goW (U' := T248.setTop (mkF m 161 #[.val (.int p0), .val (.int p1), .val (.long q2), .second, .val (.int y6), .val (.int y19), .val (.int y36), .val (.ref r234), .val (.ref r235), .val (.ref r236), .val (.ref r237), .val (.ref b238), .unset, .unset, .unset] [(.ref r237), (.ref b238)])) (fun _ k => XS.icmpNo X248.here hx rfl (hb hby at_154) rfl (tlt hc154_251).2.2.2 (XS.aload X248.here hx rfl (hb hby at_157) rfl rfl (XS.aload X248.here hx rfl (hb hby at_159) rfl rfl k))) ?_
      obtain ⟨cq252, kq252, q252a, q252b, q252c⟩ := isOf hZ rfl xE248
      obtain ⟨_, _, ⟨T252, L252, k252, n252⟩, -, X252, ⟨Lc252, hQ252, l252, y252, z252⟩, st252⟩ := X248.interfaceBack hx (xi := (⟨"java/util/List", "add", "(Ljava/lang/Object;)Z"⟩ : MethodName)) (y := (⟨"java/util/ArrayList", "add", "(Ljava/lang/Object;)Z"⟩ : MethodName)) hown (mvT hZ (hw _ (own_mem 105 rfl))) (mvT hZ (hw _ (own_mem 106 rfl))) (mvT hZ (hw _ (own_mem 107 rfl))) (mvT hZ (hw _ (own_mem 108 rfl))) (mvT hZ (hw _ (own_mem 109 rfl))) (mvT hZ (hw _ (own_mem 110 rfl))) (mvT hZ (hw _ (own_mem 111 rfl))) (mvT hZ (hw _ (own_mem 95 rfl))) (by decide) (backOf (W := 0) (rm16s l Z aw hw [] b238 r237 r241 kr241 (3 : Int32) (3 : Int32) [(.ref r234), (.ref r235), (.ref r236), .null, .null, .null, .null, .null, .null, .null] T248.heap n0 Z248 (Ins.of_exa c248_11 (hw _ (own_mem 133 rfl))) xE248 nf249 xD248 nf250 nl248 (by first | assumption | decide | rfl) (by first | assumption | decide | rfl) (by first | assumption | decide | rfl) (by first | assumption | decide | rfl) (by first | assumption | decide | rfl) (by first | assumption | decide | rfl) (by first | assumption | decide | rfl) (by first | assumption | decide | rfl)) hZ (hw _ (own_mem 112 rfl)) (hw _ (own_mem 37 rfl)) (by decide) (by decide)) q252a q252b q252c (g := (mkF m 161 #[.val (.int p0), .val (.int p1), .val (.long q2), .second, .val (.int y6), .val (.int y19), .val (.int y36), .val (.ref r234), .val (.ref r235), .val (.ref r236), .val (.ref r237), .val (.ref b238), .unset, .unset, .unset] [(.ref r237), (.ref b238)])) rfl (by rw [hml]; rfl) (Steps.refl _) (argsL := [(.ref r237)]) (rest := []) (lenOf own_pd15 rfl) rfl (by show 2 * 0 + _ ≤ _; exact Nat.le_of_eq rfl) (hb hby at_161) (fun _ _ => ⟨rfl, rfl, (by decide : 10 + 0 ≤ _), (by decide : 37 + 0 ≤ _)⟩)
      dsimp only [Pt.U, Pt.locs, Pt.cells, Pt.slots] at X252 l252 y252 z252 st252 hQ252
      subst l252 y252 z252
      obtain ⟨rfl, N252q, K252q, xE252, xS252, xD252, xM252, xV252⟩ := hQ252
      have N252 := Fr.app N248 N252q
      have c252_0 := own_sta_keepX c248_0 K252q (allS xE248.nostat (allS nl248.nostat all0))
      have c252_1 := own_sta_keepX c248_1 K252q (allS xE248.nostat (allS nl248.nostat all0))
      have c252_2 := own_sta_keepX c248_2 K252q (allS xE248.nostat (allS nl248.nostat all0))
      have c252_3 := own_sta_keepX c248_3 K252q (allS xE248.nostat (allS nl248.nostat all0))
      have c252_4 := own_sta_keepX c248_4 K252q (allS xE248.nostat (allS nl248.nostat all0))
      have c252_5 := c248_5.keep K252q (ninS ne_w_b238 (ninS ne_w_r241 nin0))
      have c252_6 := CHr.trans c248_6 (CHr.keep K252q (allS (Safe.exa hZ.alike xE248 (by decide) (by decide)) (allS (own_safe_arv hZ.alike nl248 (by decide)) all0)) c248_6.1)
      have c252_7 : 0 ≤ T252.heap.size := Nat.le_trans c248_7 K252q.1
      have c252_8 := c248_8.keep K252q
      have c252_9 := c248_9.keep K252q
      have c252_10 := c248_10.keep K252q
      have c252_11 := c248_11.keep K252q
      have c252_12 := xE248.keep K252q
      have c252_13 := own_ins_keep c248_13 K252q
      have c252_14 := own_ins_keep c248_14 K252q
      have c252_15 := own_ins_keep c248_19 K252q
      have c252_20 := own_ins_keep (Ins.of_exa c248_11 (hw _ (own_mem 133 rfl))) K252q
      have nf253 : Fld Z T252.heap b238 "java/util/ArrayList" "size" "I" (.int (4 : Int32)) := xS252
      have nf254 : Fld Z T252.heap b238 "java/util/AbstractList" "modCount" "I" (.int (4 : Int32)) := xM252
      have nl252 : Arv Z T252.heap r241 kr241 (.object "java/lang/Object") (10 : Int32) [(.ref r234), (.ref r235), (.ref r236), (.ref r237), .null, .null, .null, .null, .null, .null] .null := xV252
      have Z252 : n0 ≤ T252.heap.size := Nat.le_trans Z248 K252q.1
      have K252 := Keep.trans K248 K252q (allS (Or.inr sz_b238) (allS (Or.inr sz_r241) all0))
      refine own_goW (U' := T252.setTop (mkF m 166 #[.val (.int p0), .val (.int p1), .val (.long q2), .second, .val (.int y6), .val (.int y19), .val (.int y36), .val (.ref r234), .val (.ref r235), .val (.ref r236), .val (.ref r237), .val (.ref b238), .unset, .unset, .unset] [(.int (1 : Int32))])) (fun _ k => st252.trans k) ?_
      refine own_goW (U' := T252.setTop (mkF m 167 #[.val (.int p0), .val (.int p1), .val (.long q2), .second, .val (.int y6), .val (.int y19), .val (.int y36), .val (.ref r234), .val (.ref r235), .val (.ref r236), .val (.ref r237), .val (.ref b238), .unset, .unset, .unset] [])) (fun _ k => XS.pop X252.here hx rfl (hb hby at_166) rfl rfl k) ?_
      obtain rfl : y6 = (4 : Int32) := own_eqk (a := (3 : Int32)) (b := (4 : Int32)) (by decide) hc154_251 (own_n4 hr5.2)
      have hmr := own_min (by decide) hy19
      have hp1 := own_p1 hmr
      have hp2 := own_p2 hmr hy36
      have hr0 := own_r0 hmr
      have tail : ∀ (vm_ : Vm) (T_ : State) (l_ : List Loc) (k_ : Nat) (X_ : Stand p l e room_1 (s.setVm vm_) m #[(.int p0), (.int p1), (.long q2)] below meth c T_ l_ 24 160) (h_ : Heap) (e_ : T_.heap = h_) (hS_ : s.Since vm_ k_) (hZ : Z.Warmed39 (s.setVm vm_).vm) (hown : (s.setVm vm_).vm.findClass "com/example/hashtory/hashtory/ArgumentsPositionalsPinLaw" = some m.cls) (CR_ : CHr Z own_EL s.vm h0 vm_ h_) (Sz_ : k_ ≤ h_.size) (N_ : Fr n0 l_) (Z_ : n0 ≤ h_.size) (KP_ : Keep T237.heap h_ []) (req : Addr) (t_0 : Exa Z h_ b238 "java/util/ArrayList") (t_1 : Fld Z h_ b238 "java/util/ArrayList" "size" "I" (.int (4 : Int32))) (t_2 : Fld Z h_ b238 "java/util/ArrayList" "elementData" "[Ljava/lang/Object;" (.ref r241)) (t_3 : Fld Z h_ b238 "java/util/AbstractList" "modCount" "I" (.int (4 : Int32))) (t_4 : Arv Z h_ r241 kr241 (.object "java/lang/Object") (10 : Int32) [(.ref r234), (.ref r235), (.ref r236), (.ref r237), .null, .null, .null, .null, .null, .null] .null) (t_5 : Exa Z h_ r234 "java/lang/String") (t_6 : Exa Z h_ r235 "java/lang/String") (t_7 : Exa Z h_ r236 "java/lang/String") (t_8 : Exa Z h_ r237 "java/lang/String") (q_0 : Exa Z h_ req "java/util/ArrayList") (q_1 : Fld Z h_ req "java/util/ArrayList" "size" "I" (.int y19)), own_DoneW p e below s Z own_EL (Q0 Z p0 p1 q2 cs w k0 h0 n0) room_1.cells room_1.slots (T_.setTop (mkF m 239 #[.val (.int p0), .val (.int p1), .val (.long q2), .second, .val (.int (4 : Int32)), .val (.int y19), .val (.int y36), .val (.ref r234), .val (.ref r235), .val (.ref r236), .val (.ref r237), .val (.ref b238), .val (.ref req), .unset, .unset] [])) := by
       intro vm_ T_ l_ k_ X_ h_ e_ hS_ hZ hown CR_ Sz_ N_ Z_ KP_ req t_0 t_1 t_2 t_3 t_4 t_5 t_6 t_7 t_8 q_0 q_1
       have sb_0 := own_sta_keep c237_0 KP_
       have sb_1 := own_sta_keep c237_1 KP_
       have sb_2 := own_sta_keep c237_2 KP_
       have sb_3 := own_sta_keep c237_3 KP_
       have sb_4 := own_sta_keep c237_4 KP_
       have vb_ := c237_5.keep KP_ nin0
       obtain ⟨T255, h255, X255, e255, E255, A255, D255, -, st255⟩ := newO X_ hx hZ hown (hw _ (own_mem 59 rfl)) (hw _ (own_mem 60 rfl)) (hw _ (own_mem 61 rfl)) e_ (g := (mkF m 239 #[.val (.int p0), .val (.int p1), .val (.long q2), .second, .val (.int (4 : Int32)), .val (.int y19), .val (.int y36), .val (.ref r234), .val (.ref r235), .val (.ref r236), .val (.ref r237), .val (.ref b238), .val (.ref req), .unset, .unset] [])) rfl (hb hby at_239) (by decide) (by decide)
       obtain ⟨b255, g255⟩ : ∃ z, z = h_.size := ⟨_, rfl⟩
       have g_b255 : n0 ≤ b255 := Nat.le_trans Z_ (Nat.le_of_eq g255.symm)
       have sz_b255 : T237.heap.size ≤ b255 := Nat.le_trans KP_.1 (Nat.le_of_eq g255.symm)
       have ne_b238_b255 : b238 ≠ b255 := Nat.ne_of_lt (Nat.lt_of_lt_of_le t_0.lt (Nat.le_of_eq g255.symm))
       have ne_r241_b255 : r241 ≠ b255 := Nat.ne_of_lt (Nat.lt_of_lt_of_le t_4.lt (Nat.le_of_eq g255.symm))
       have ne_r234_b255 : r234 ≠ b255 := Nat.ne_of_lt (Nat.lt_of_lt_of_le t_5.lt (Nat.le_of_eq g255.symm))
       have ne_r235_b255 : r235 ≠ b255 := Nat.ne_of_lt (Nat.lt_of_lt_of_le t_6.lt (Nat.le_of_eq g255.symm))
       have ne_r236_b255 : r236 ≠ b255 := Nat.ne_of_lt (Nat.lt_of_lt_of_le t_7.lt (Nat.le_of_eq g255.symm))
       have ne_r237_b255 : r237 ≠ b255 := Nat.ne_of_lt (Nat.lt_of_lt_of_le t_8.lt (Nat.le_of_eq g255.symm))
       have ne_req_b255 : req ≠ b255 := Nat.ne_of_lt (Nat.lt_of_lt_of_le q_0.lt (Nat.le_of_eq g255.symm))
       have ne_w_b255 : w ≠ b255 := Nat.ne_of_lt (Nat.lt_of_lt_of_le vb_.lt (Nat.le_of_eq g255.symm))
       rw [← g255] at A255 D255 st255
       have c255_0 := t_0.ext E255
       have c255_1 := t_1.ext E255
       have c255_2 := t_2.ext E255
       have c255_3 := t_3.ext E255
       have c255_4 := t_4.ext E255
       have c255_5 := t_5.ext E255
       have c255_6 := t_6.ext E255
       have c255_7 := t_7.ext E255
       have c255_8 := t_8.ext E255
       have c255_9 := q_0.ext E255
       have c255_10 := q_1.ext E255
       have c255_11 := CHr.trans CR_ (CHr.ext E255 CR_.1)
       have c255_12 : k_ ≤ h255.size := Nat.le_trans Sz_ E255.1
       have c255_13 := sb_0.ext E255
       have c255_14 := sb_1.ext E255
       have c255_15 := sb_2.ext E255
       have c255_16 := sb_3.ext E255
       have c255_17 := sb_4.ext E255
       have c255_18 := vb_.ext E255
       have Z255 : n0 ≤ h255.size := Nat.le_trans Z_ E255.1
       have K255 := Keep.ext KP_ E255
       have F255_69 : Fld Z h255 b255 "com/example/hashtory/hashtory/Arguments" "positionals" "Ljava/util/List;" .null := D255 (Or.inr (hw _ (own_mem 69 rfl))) (ty := (.object "java/util/List")) (by decide)
       have F255_87 : Fld Z h255 b255 "com/example/hashtory/hashtory/Arguments" "options" "Ljava/util/Map;" .null := D255 (Or.inr (hw _ (own_mem 87 rfl))) (ty := (.object "java/util/Map")) (by decide)
       refine own_goW (U' := T255.setTop (mkF m 242 #[.val (.int p0), .val (.int p1), .val (.long q2), .second, .val (.int (4 : Int32)), .val (.int y19), .val (.int y36), .val (.ref r234), .val (.ref r235), .val (.ref r236), .val (.ref r237), .val (.ref b238), .val (.ref req), .unset, .unset] [(.ref b255)])) (fun _ k => st255 _ k) ?_
       refine own_goW (U' := T255.setTop (mkF m 246 #[.val (.int p0), .val (.int p1), .val (.long q2), .second, .val (.int (4 : Int32)), .val (.int y19), .val (.int y36), .val (.ref r234), .val (.ref r235), .val (.ref r236), .val (.ref r237), .val (.ref b238), .val (.ref req), .unset, .unset] [.null, (.ref b238), (.ref b255), (.ref b255)])) (fun _ k => XS.dup X255.here hx rfl (hb hby at_242) rfl rfl (XS.aload X255.here hx rfl (hb hby at_243) rfl rfl (XS.aconstNull X255.here hx rfl (hb hby at_245) k))) ?_
       have hO256 : own_S Z h255 r234 := own_S.keep c237_9 K255
       have hO257 : own_S Z h255 r235 := own_S.keep c237_11 K255
       have hO258 : own_S Z h255 r236 := own_S.keep c237_13 K255
       have hO259 : own_S Z h255 r237 := own_S.keep xS237 K255
       obtain ⟨_, _, ⟨T260, L260, k260, n260⟩, -, X260, hS260, hg260, ⟨Lc260, hQ260, l260, y260, z260, C260⟩, st260⟩ := X255.specialBackS hx (y := (⟨"com/example/hashtory/hashtory/Arguments", "<init>", "(Ljava/util/List;Ljava/util/Set;)V"⟩ : MethodName)) rfl hown (mvT hZ (hw _ (own_mem 62 rfl))) (mvT hZ (hw _ (own_mem 63 rfl))) (mvT hZ (hw _ (own_mem 64 rfl))) (by decide) (backOfSH (s := s) (vm0 := vm_) (W := 1) (rm11_4 l Z aw hw [] b255 b238 cs w k0 r241 kr241 r234 r235 r236 r237 h255 n0 Z255 A255 F255_69 F255_87 c255_13 c255_17 c255_18 c255_0 c255_1 c255_2 c255_4 c255_5 c255_6 c255_7 c255_8 (by first | assumption | decide | rfl) (by first | assumption | decide | rfl) (by first | assumption | decide | rfl) (by first | assumption | decide | rfl) (by first | assumption | decide | rfl) (by first | assumption | decide | rfl)) hZ (hw _ (own_mem 64 rfl)) (hw _ (own_mem 61 rfl)) (by decide) (by decide) (own_EW hw) c255_11.1) (g := (mkF m 246 #[.val (.int p0), .val (.int p1), .val (.long q2), .second, .val (.int (4 : Int32)), .val (.int y19), .val (.int y36), .val (.ref r234), .val (.ref r235), .val (.ref r236), .val (.ref r237), .val (.ref b238), .val (.ref req), .unset, .unset] [.null, (.ref b238), (.ref b255), (.ref b255)])) rfl (by rw [hml]; rfl) (Steps.refl _) (a := b255) (argsL := [(.ref b238), .null]) (rest := [(.ref b255)]) (lenOf own_pd17 rfl) rfl (by show 2 * 0 + _ ≤ _; exact Nat.le_of_eq rfl) (hb hby at_246) (fun _ _ => ⟨rfl, e255, (by decide : 25 + 11 ≤ _), (by decide : 162 + 69 ≤ _)⟩)
       dsimp only [Pt.U, Pt.locs, Pt.cells, Pt.slots] at X260 hS260 hg260 l260 y260 z260 C260 st260 hQ260
       subst l260 y260 z260
       obtain ⟨X260, hS260, hZ, hown⟩ := rebS hS_ (by rw [show T255.heap = h255 from e255]; exact c255_12) X260 hS260 hg260 hZ hown
       obtain ⟨rfl, N260q, K260q, xE260, pl260, spl260, xP260, xL260, xS260, pa260, kp260, xD260, xV260⟩ := hQ260
       have N260 := Fr.app N_ N260q
       have ne_b238_pl260 : b238 ≠ pl260 := Nat.ne_of_lt (Nat.lt_of_lt_of_le c255_0.lt spl260)
       have ne_r241_pl260 : r241 ≠ pl260 := Nat.ne_of_lt (Nat.lt_of_lt_of_le c255_4.lt spl260)
       have ne_r234_pl260 : r234 ≠ pl260 := Nat.ne_of_lt (Nat.lt_of_lt_of_le c255_5.lt spl260)
       have ne_r235_pl260 : r235 ≠ pl260 := Nat.ne_of_lt (Nat.lt_of_lt_of_le c255_6.lt spl260)
       have ne_r236_pl260 : r236 ≠ pl260 := Nat.ne_of_lt (Nat.lt_of_lt_of_le c255_7.lt spl260)
       have ne_r237_pl260 : r237 ≠ pl260 := Nat.ne_of_lt (Nat.lt_of_lt_of_le c255_8.lt spl260)
       have ne_req_pl260 : req ≠ pl260 := Nat.ne_of_lt (Nat.lt_of_lt_of_le c255_9.lt spl260)
       have ne_w_pl260 : w ≠ pl260 := Nat.ne_of_lt (Nat.lt_of_lt_of_le c255_18.lt spl260)
       have ne_b255_pl260 : b255 ≠ pl260 := Nat.ne_of_lt (Nat.lt_of_lt_of_le A255.lt spl260)
       have g_pl260 : n0 ≤ pl260 := Nat.le_trans Z255 spl260
       have sz_pl260 : T237.heap.size ≤ pl260 := Nat.le_trans K255.1 spl260
       have c260_0 := c255_0.keep K260q
       have c260_1 := c255_1.keep K260q (ninS ne_b238_b255 nin0)
       have c260_2 := c255_2.keep K260q (ninS ne_b238_b255 nin0)
       have c260_3 := c255_3.keep K260q (ninS ne_b238_b255 nin0)
       have c260_4 := c255_4.keep K260q (ninS ne_r241_b255 nin0)
       have c260_5 := c255_5.keep K260q
       have c260_6 := c255_6.keep K260q
       have c260_7 := c255_7.keep K260q
       have c260_8 := c255_8.keep K260q
       have c260_9 := c255_9.keep K260q
       have c260_10 := c255_10.keep K260q (ninS ne_req_b255 nin0)
       have c260_11 := own_sta_keepX c255_13 K260q (allS A255.nostat all0)
       have c260_12 := own_sta_keepX c255_14 K260q (allS A255.nostat all0)
       have c260_13 := own_sta_keepX c255_15 K260q (allS A255.nostat all0)
       have c260_14 := own_sta_keepX c255_16 K260q (allS A255.nostat all0)
       have c260_15 := own_sta_keepX c255_17 K260q (allS A255.nostat all0)
       have c260_16 := c255_18.keep K260q (ninS ne_w_b255 nin0)
       have c260_17 := A255.keep K260q
       have Z260 : n0 ≤ T260.heap.size := Nat.le_trans Z255 K260q.1
       have K260 := Keep.trans K255 K260q (allS (Or.inr sz_b255) all0)
       have CT260 := CHr.trans c255_11 C260
       refine own_goW (U' := T260.setTop (mkF m 249 #[.val (.int p0), .val (.int p1), .val (.long q2), .second, .val (.int (4 : Int32)), .val (.int y19), .val (.int y36), .val (.ref r234), .val (.ref r235), .val (.ref r236), .val (.ref r237), .val (.ref b238), .val (.ref req), .unset, .unset] [(.ref b255)])) (fun _ k => st260.trans k) ?_
       refine own_goW (U' := T260.setTop (mkF m 257 #[.val (.int p0), .val (.int p1), .val (.long q2), .second, .val (.int (4 : Int32)), .val (.int y19), .val (.int y36), .val (.ref r234), .val (.ref r235), .val (.ref r236), .val (.ref r237), .val (.ref b238), .val (.ref req), .val (.ref b255), .unset] [(.int y36), (.ref req), (.ref b255)])) (fun _ k => XS.astore X260.here hx rfl (hb hby at_249) rfl rfl (l' := #[.val (.int p0), .val (.int p1), .val (.long q2), .second, .val (.int (4 : Int32)), .val (.int y19), .val (.int y36), .val (.ref r234), .val (.ref r235), .val (.ref r236), .val (.ref r237), .val (.ref b238), .val (.ref req), .val (.ref b255), .unset]) rfl (XS.aload X260.here hx rfl (hb hby at_251) rfl rfl (XS.aload X260.here hx rfl (hb hby at_253) rfl rfl (XS.iload X260.here hx rfl (hb hby at_255) rfl k)))) ?_
       obtain ⟨cq261, kq261, q261a, q261b, q261c⟩ := isOf hZ rfl xE260
       obtain ⟨_, _, ⟨T261, L261, k261, n261⟩, -, X261, ⟨Lc261, hQ261, l261, y261, z261⟩, st261⟩ := X260.virtualBack hx (y := (⟨"com/example/hashtory/hashtory/Arguments", "positionals", "(Ljava/util/List;I)Ljava/util/List;"⟩ : MethodName)) (z := (⟨"com/example/hashtory/hashtory/Arguments", "positionals", "(Ljava/util/List;I)Ljava/util/List;"⟩ : MethodName)) hown (mvT hZ (hw _ (own_mem 99 rfl))) (mvT hZ (hw _ (own_mem 100 rfl))) (notFace_of_selects (args := #[]) (mvT hZ (hw _ (own_mem 102 rfl)))) (mvT hZ (hw _ (own_mem 102 rfl))) (mvT hZ (hw _ (own_mem 101 rfl))) (by decide) (backOf (W := 0) (rm15 l Z aw hw [] b255 req y36 pl260 (4 : Int32) y19 T260.heap n0 Z260 xP260 xL260 xS260 c260_9 c260_10 (by first | assumption | decide | rfl) (by first | assumption | decide | rfl)) hZ (hw _ (own_mem 103 rfl)) (hw _ (own_mem 61 rfl)) (by decide) (by decide)) q261a q261c (g := (mkF m 257 #[.val (.int p0), .val (.int p1), .val (.long q2), .second, .val (.int (4 : Int32)), .val (.int y19), .val (.int y36), .val (.ref r234), .val (.ref r235), .val (.ref r236), .val (.ref r237), .val (.ref b238), .val (.ref req), .val (.ref b255), .unset] [(.int y36), (.ref req), (.ref b255)])) rfl (by rw [hml]; rfl) (Steps.refl _) (argsL := [(.ref req), (.int y36)]) (rest := []) (lenOf own_pd18 rfl) rfl (by show 2 * 0 + _ ≤ _; exact Nat.le_of_eq rfl) (hb hby at_257) (fun _ _ => ⟨rfl, rfl, (by decide : 36 + 0 ≤ _), (by decide : 231 + 0 ≤ _)⟩)
       dsimp only [Pt.U, Pt.locs, Pt.cells, Pt.slots] at X261 l261 y261 z261 st261 hQ261
       subst l261 y261 z261
       obtain ⟨rfl, N261q, e261⟩ := hQ261
       have N261 := Fr.app N260 N261q
       refine own_goW (U' := T261.setTop (mkF m 260 #[.val (.int p0), .val (.int p1), .val (.long q2), .second, .val (.int (4 : Int32)), .val (.int y19), .val (.int y36), .val (.ref r234), .val (.ref r235), .val (.ref r236), .val (.ref r237), .val (.ref b238), .val (.ref req), .val (.ref b255), .unset] [(.ref pl260)])) (fun _ k => st261.trans k) ?_
       refine own_goW (U' := T261.setTop (mkF m 264 #[.val (.int p0), .val (.int p1), .val (.long q2), .second, .val (.int (4 : Int32)), .val (.int y19), .val (.int y36), .val (.ref r234), .val (.ref r235), .val (.ref r236), .val (.ref r237), .val (.ref b238), .val (.ref req), .val (.ref b255), .val (.ref pl260)] [(.ref pl260)])) (fun _ k => XS.astore X261.here hx rfl (hb hby at_260) rfl rfl (l' := #[.val (.int p0), .val (.int p1), .val (.long q2), .second, .val (.int (4 : Int32)), .val (.int y19), .val (.int y36), .val (.ref r234), .val (.ref r235), .val (.ref r236), .val (.ref r237), .val (.ref b238), .val (.ref req), .val (.ref b255), .val (.ref pl260)]) rfl (XS.aload X261.here hx rfl (hb hby at_262) rfl rfl k)) ?_
       obtain ⟨cq262, kq262, q262a, q262b, q262c⟩ := isOf hZ e261 xL260
       obtain ⟨_, _, ⟨T262, L262, k262, n262⟩, -, X262, ⟨Lc262, hQ262, l262, y262, z262⟩, st262⟩ := X261.interfaceBack hx (xi := (⟨"java/util/List", "size", "()I"⟩ : MethodName)) (y := (⟨"java/util/ArrayList", "size", "()I"⟩ : MethodName)) hown (mvT hZ (hw _ (own_mem 104 rfl))) (mvT hZ (hw _ (own_mem 89 rfl))) (mvT hZ (hw _ (own_mem 90 rfl))) (mvT hZ (hw _ (own_mem 91 rfl))) (mvT hZ (hw _ (own_mem 92 rfl))) (mvT hZ (hw _ (own_mem 93 rfl))) (mvT hZ (hw _ (own_mem 94 rfl))) (mvT hZ (hw _ (own_mem 95 rfl))) (by decide) (backOf (W := 0) (rm14 l Z aw hw [] pl260 (4 : Int32) T260.heap n0 Z260 xS260) hZ (hw _ (own_mem 96 rfl)) (hw _ (own_mem 37 rfl)) (by decide) (by decide)) q262a q262b q262c (g := (mkF m 264 #[.val (.int p0), .val (.int p1), .val (.long q2), .second, .val (.int (4 : Int32)), .val (.int y19), .val (.int y36), .val (.ref r234), .val (.ref r235), .val (.ref r236), .val (.ref r237), .val (.ref b238), .val (.ref req), .val (.ref b255), .val (.ref pl260)] [(.ref pl260)])) rfl (by rw [hml]; rfl) (Steps.refl _) (argsL := []) (rest := []) (lenOf own_pd5 rfl) rfl (by show 2 * 0 + _ ≤ _; exact Nat.le_of_eq rfl) (hb hby at_264) (fun _ _ => ⟨rfl, e261, (by decide : 36 + 0 ≤ _), (by decide : 231 + 0 ≤ _)⟩)
       dsimp only [Pt.U, Pt.locs, Pt.cells, Pt.slots] at X262 l262 y262 z262 st262 hQ262
       subst l262 y262 z262
       obtain ⟨rfl, N262q, e262⟩ := hQ262
       have N262 := Fr.app N261 N262q
       refine own_goW (U' := T262.setTop (mkF m 269 #[.val (.int p0), .val (.int p1), .val (.long q2), .second, .val (.int (4 : Int32)), .val (.int y19), .val (.int y36), .val (.ref r234), .val (.ref r235), .val (.ref r236), .val (.ref r237), .val (.ref b238), .val (.ref req), .val (.ref b255), .val (.ref pl260)] [(.int (4 : Int32))])) (fun _ k => st262.trans k) ?_
       refine own_goW (U' := T262.setTop (mkF m 271 #[.val (.int p0), .val (.int p1), .val (.long q2), .second, .val (.int (4 : Int32)), .val (.int y19), .val (.int y36), .val (.ref r234), .val (.ref r235), .val (.ref r236), .val (.ref r237), .val (.ref b238), .val (.ref req), .val (.ref b255), .val (.ref pl260)] [(.int (4 : Int32)), (.int (4 : Int32))])) (fun _ k => XS.iload X262.here hx rfl (hb hby at_269) rfl k) ?_
       refine own_goW (U' := T262.setTop (mkF m 278 #[.val (.int p0), .val (.int p1), .val (.long q2), .second, .val (.int (4 : Int32)), .val (.int y19), .val (.int y36), .val (.ref r234), .val (.ref r235), .val (.ref r236), .val (.ref r237), .val (.ref b238), .val (.ref req), .val (.ref b255), .val (.ref pl260)] [(.int (4 : Int32))])) (fun _ k => XS.icmpYes X262.here hx rfl (pc0 := 271) (pc' := 276) rfl (hb hby at_271) rfl (teq (by decide : ((4 : Int32) = (4 : Int32)))).1 (by decide) (by decide) (XS.iload X262.here hx rfl (hb hby at_276) rfl k)) ?_
       refine own_goW (U' := T262.setTop (mkF m 284 #[.val (.int p0), .val (.int p1), .val (.long q2), .second, .val (.int (4 : Int32)), .val (.int y19), .val (.int y36), .val (.ref r234), .val (.ref r235), .val (.ref r236), .val (.ref r237), .val (.ref b238), .val (.ref req), .val (.ref b255), .val (.ref pl260)] [(.int (0 : Int32)), (.ref pl260)])) (fun _ k => XS.ifNo X262.here hx rfl (hb hby at_278) rfl ((if0 _ _).trans (tlt (by decide : ((0 : Int32) < (4 : Int32)))).2.2.2) (XS.aload X262.here hx rfl (hb hby at_281) rfl rfl (XS.iconst X262.here hx rfl (hb hby at_283) k))) ?_
       obtain ⟨cq263, kq263, q263a, q263b, q263c⟩ := isOf hZ e262 xL260
       obtain ⟨_, _, ⟨T263, L263, k263, n263⟩, -, X263, ⟨Lc263, hQ263, l263, y263, z263⟩, st263⟩ := X262.interfaceBack hx (xi := (⟨"java/util/List", "get", "(I)Ljava/lang/Object;"⟩ : MethodName)) (y := (⟨"java/util/ArrayList", "get", "(I)Ljava/lang/Object;"⟩ : MethodName)) hown (mvT hZ (hw _ (own_mem 181 rfl))) (mvT hZ (hw _ (own_mem 138 rfl))) (mvT hZ (hw _ (own_mem 139 rfl))) (mvT hZ (hw _ (own_mem 140 rfl))) (mvT hZ (hw _ (own_mem 141 rfl))) (mvT hZ (hw _ (own_mem 142 rfl))) (mvT hZ (hw _ (own_mem 143 rfl))) (mvT hZ (hw _ (own_mem 95 rfl))) (by decide) (backOf (W := 0) (rm20 l Z aw hw [] pl260 (0 : Int32) (4 : Int32) pa260 kp260 [(.ref r234), (.ref r235), (.ref r236), (.ref r237), .null, .null, .null, .null, .null, .null] r234 T260.heap n0 Z260 xL260 xS260 xD260 xV260 (by first | assumption | decide | rfl) (by first | assumption | decide | rfl) (by first | assumption | decide | rfl) (by first | assumption | decide | rfl)) hZ (hw _ (own_mem 144 rfl)) (hw _ (own_mem 37 rfl)) (by decide) (by decide)) q263a q263b q263c (g := (mkF m 284 #[.val (.int p0), .val (.int p1), .val (.long q2), .second, .val (.int (4 : Int32)), .val (.int y19), .val (.int y36), .val (.ref r234), .val (.ref r235), .val (.ref r236), .val (.ref r237), .val (.ref b238), .val (.ref req), .val (.ref b255), .val (.ref pl260)] [(.int (0 : Int32)), (.ref pl260)])) rfl (by rw [hml]; rfl) (Steps.refl _) (argsL := [(.int (0 : Int32))]) (rest := []) (lenOf own_pd9 rfl) rfl (by show 2 * 0 + _ ≤ _; exact Nat.le_of_eq rfl) (hb hby at_284) (fun _ _ => ⟨rfl, e262, (by decide : 36 + 0 ≤ _), (by decide : 231 + 0 ≤ _)⟩)
       dsimp only [Pt.U, Pt.locs, Pt.cells, Pt.slots] at X263 l263 y263 z263 st263 hQ263
       subst l263 y263 z263
       obtain ⟨rfl, N263q, e263⟩ := hQ263
       have N263 := Fr.app N262 N263q
       refine own_goW (U' := T263.setTop (mkF m 289 #[.val (.int p0), .val (.int p1), .val (.long q2), .second, .val (.int (4 : Int32)), .val (.int y19), .val (.int y36), .val (.ref r234), .val (.ref r235), .val (.ref r236), .val (.ref r237), .val (.ref b238), .val (.ref req), .val (.ref b255), .val (.ref pl260)] [(.ref r234)])) (fun _ k => st263.trans k) ?_
       obtain ⟨T264, X264, e264, st264⟩ := castY X263 hx hZ hown (hw _ (own_mem 182 rfl)) e263 (Ins.self c260_5) (g := (mkF m 289 #[.val (.int p0), .val (.int p1), .val (.long q2), .second, .val (.int (4 : Int32)), .val (.int y19), .val (.int y36), .val (.ref r234), .val (.ref r235), .val (.ref r236), .val (.ref r237), .val (.ref b238), .val (.ref req), .val (.ref b255), .val (.ref pl260)] [(.ref r234)])) rfl rfl (hb hby at_289)
       refine own_goW (U' := T264.setTop (mkF m 292 #[.val (.int p0), .val (.int p1), .val (.long q2), .second, .val (.int (4 : Int32)), .val (.int y19), .val (.int y36), .val (.ref r234), .val (.ref r235), .val (.ref r236), .val (.ref r237), .val (.ref b238), .val (.ref req), .val (.ref b255), .val (.ref pl260)] [(.ref r234)])) (fun _ k => st264 _ k) ?_
       refine own_goW (U' := T264.setTop (mkF m 294 #[.val (.int p0), .val (.int p1), .val (.long q2), .second, .val (.int (4 : Int32)), .val (.int y19), .val (.int y36), .val (.ref r234), .val (.ref r235), .val (.ref r236), .val (.ref r237), .val (.ref b238), .val (.ref req), .val (.ref b255), .val (.ref pl260)] [(.ref r234), (.ref r234)])) (fun _ k => XS.aload X264.here hx rfl (hb hby at_292) rfl rfl k) ?_
       obtain ⟨cq265, kq265, q265a, q265b, q265c⟩ := isOf hZ e264 c260_5
       obtain ⟨_, _, ⟨T265, L265, k265, n265⟩, -, X265, ⟨Lc265, hQ265, l265, y265, z265⟩, st265⟩ := X264.virtualBack hx (y := (⟨"java/lang/String", "equals", "(Ljava/lang/Object;)Z"⟩ : MethodName)) (z := (⟨"java/lang/String", "equals", "(Ljava/lang/Object;)Z"⟩ : MethodName)) hown (mvT hZ (hw _ (own_mem 183 rfl))) (mvT hZ (hw _ (own_mem 184 rfl))) (notFace_of_selects (args := #[]) (mvT hZ (hw _ (own_mem 186 rfl)))) (mvT hZ (hw _ (own_mem 186 rfl))) (mvT hZ (hw _ (own_mem 185 rfl))) (by decide) (backOf (W := 0) (rm28 l Z aw hw [] r234 T260.heap n0 Z260 ) hZ (hw _ (own_mem 187 rfl)) (hw _ (own_mem 11 rfl)) (by decide) (by decide)) q265a q265c (g := (mkF m 294 #[.val (.int p0), .val (.int p1), .val (.long q2), .second, .val (.int (4 : Int32)), .val (.int y19), .val (.int y36), .val (.ref r234), .val (.ref r235), .val (.ref r236), .val (.ref r237), .val (.ref b238), .val (.ref req), .val (.ref b255), .val (.ref pl260)] [(.ref r234), (.ref r234)])) rfl (by rw [hml]; rfl) (Steps.refl _) (argsL := [(.ref r234)]) (rest := []) (lenOf own_pd15 rfl) rfl (by show 2 * 0 + _ ≤ _; exact Nat.le_of_eq rfl) (hb hby at_294) (fun _ _ => ⟨rfl, e264, (by decide : 36 + 0 ≤ _), (by decide : 231 + 0 ≤ _)⟩)
       dsimp only [Pt.U, Pt.locs, Pt.cells, Pt.slots] at X265 l265 y265 z265 st265 hQ265
       subst l265 y265 z265
       obtain ⟨rfl, N265q, e265⟩ := hQ265
       have N265 := Fr.app N263 N265q
       refine own_goW (U' := T265.setTop (mkF m 297 #[.val (.int p0), .val (.int p1), .val (.long q2), .second, .val (.int (4 : Int32)), .val (.int y19), .val (.int y36), .val (.ref r234), .val (.ref r235), .val (.ref r236), .val (.ref r237), .val (.ref b238), .val (.ref req), .val (.ref b255), .val (.ref pl260)] [(.int (1 : Int32))])) (fun _ k => st265.trans k) ?_
       refine own_goW (U' := T265.setTop (mkF m 305 #[.val (.int p0), .val (.int p1), .val (.long q2), .second, .val (.int (4 : Int32)), .val (.int y19), .val (.int y36), .val (.ref r234), .val (.ref r235), .val (.ref r236), .val (.ref r237), .val (.ref b238), .val (.ref req), .val (.ref b255), .val (.ref pl260)] [(.int (1 : Int32)), (.int (4 : Int32))])) (fun _ k => XS.ifYes X265.here hx rfl (pc0 := 297) (pc' := 302) rfl (hb hby at_297) rfl ((if0 _ _).trans (feq (by decide : ¬ ((1 : Int32) = (0 : Int32)))).2) (by decide) (by decide) (XS.iload X265.here hx rfl (hb hby at_302) rfl (XS.iconst X265.here hx rfl (hb hby at_304) k))) ?_
       refine own_goW (U' := T265.setTop (mkF m 311 #[.val (.int p0), .val (.int p1), .val (.long q2), .second, .val (.int (4 : Int32)), .val (.int y19), .val (.int y36), .val (.ref r234), .val (.ref r235), .val (.ref r236), .val (.ref r237), .val (.ref b238), .val (.ref req), .val (.ref b255), .val (.ref pl260)] [(.int (1 : Int32)), (.ref pl260)])) (fun _ k => XS.icmpNo X265.here hx rfl (hb hby at_305) rfl (tlt (by decide : ((1 : Int32) < (4 : Int32)))).2.2.2 (XS.aload X265.here hx rfl (hb hby at_308) rfl rfl (XS.iconst X265.here hx rfl (hb hby at_310) k))) ?_
       obtain ⟨cq266, kq266, q266a, q266b, q266c⟩ := isOf hZ e265 xL260
       obtain ⟨_, _, ⟨T266, L266, k266, n266⟩, -, X266, ⟨Lc266, hQ266, l266, y266, z266⟩, st266⟩ := X265.interfaceBack hx (xi := (⟨"java/util/List", "get", "(I)Ljava/lang/Object;"⟩ : MethodName)) (y := (⟨"java/util/ArrayList", "get", "(I)Ljava/lang/Object;"⟩ : MethodName)) hown (mvT hZ (hw _ (own_mem 181 rfl))) (mvT hZ (hw _ (own_mem 138 rfl))) (mvT hZ (hw _ (own_mem 139 rfl))) (mvT hZ (hw _ (own_mem 140 rfl))) (mvT hZ (hw _ (own_mem 141 rfl))) (mvT hZ (hw _ (own_mem 142 rfl))) (mvT hZ (hw _ (own_mem 143 rfl))) (mvT hZ (hw _ (own_mem 95 rfl))) (by decide) (backOf (W := 0) (rm20 l Z aw hw [] pl260 (1 : Int32) (4 : Int32) pa260 kp260 [(.ref r234), (.ref r235), (.ref r236), (.ref r237), .null, .null, .null, .null, .null, .null] r235 T260.heap n0 Z260 xL260 xS260 xD260 xV260 (by first | assumption | decide | rfl) (by first | assumption | decide | rfl) (by first | assumption | decide | rfl) (by first | assumption | decide | rfl)) hZ (hw _ (own_mem 144 rfl)) (hw _ (own_mem 37 rfl)) (by decide) (by decide)) q266a q266b q266c (g := (mkF m 311 #[.val (.int p0), .val (.int p1), .val (.long q2), .second, .val (.int (4 : Int32)), .val (.int y19), .val (.int y36), .val (.ref r234), .val (.ref r235), .val (.ref r236), .val (.ref r237), .val (.ref b238), .val (.ref req), .val (.ref b255), .val (.ref pl260)] [(.int (1 : Int32)), (.ref pl260)])) rfl (by rw [hml]; rfl) (Steps.refl _) (argsL := [(.int (1 : Int32))]) (rest := []) (lenOf own_pd9 rfl) rfl (by show 2 * 0 + _ ≤ _; exact Nat.le_of_eq rfl) (hb hby at_311) (fun _ _ => ⟨rfl, e265, (by decide : 36 + 0 ≤ _), (by decide : 231 + 0 ≤ _)⟩)
       dsimp only [Pt.U, Pt.locs, Pt.cells, Pt.slots] at X266 l266 y266 z266 st266 hQ266
       subst l266 y266 z266
       obtain ⟨rfl, N266q, e266⟩ := hQ266
       have N266 := Fr.app N265 N266q
       refine own_goW (U' := T266.setTop (mkF m 316 #[.val (.int p0), .val (.int p1), .val (.long q2), .second, .val (.int (4 : Int32)), .val (.int y19), .val (.int y36), .val (.ref r234), .val (.ref r235), .val (.ref r236), .val (.ref r237), .val (.ref b238), .val (.ref req), .val (.ref b255), .val (.ref pl260)] [(.ref r235)])) (fun _ k => st266.trans k) ?_
       obtain ⟨T267, X267, e267, st267⟩ := castY X266 hx hZ hown (hw _ (own_mem 182 rfl)) e266 (Ins.self c260_6) (g := (mkF m 316 #[.val (.int p0), .val (.int p1), .val (.long q2), .second, .val (.int (4 : Int32)), .val (.int y19), .val (.int y36), .val (.ref r234), .val (.ref r235), .val (.ref r236), .val (.ref r237), .val (.ref b238), .val (.ref req), .val (.ref b255), .val (.ref pl260)] [(.ref r235)])) rfl rfl (hb hby at_316)
       refine own_goW (U' := T267.setTop (mkF m 319 #[.val (.int p0), .val (.int p1), .val (.long q2), .second, .val (.int (4 : Int32)), .val (.int y19), .val (.int y36), .val (.ref r234), .val (.ref r235), .val (.ref r236), .val (.ref r237), .val (.ref b238), .val (.ref req), .val (.ref b255), .val (.ref pl260)] [(.ref r235)])) (fun _ k => st267 _ k) ?_
       refine own_goW (U' := T267.setTop (mkF m 321 #[.val (.int p0), .val (.int p1), .val (.long q2), .second, .val (.int (4 : Int32)), .val (.int y19), .val (.int y36), .val (.ref r234), .val (.ref r235), .val (.ref r236), .val (.ref r237), .val (.ref b238), .val (.ref req), .val (.ref b255), .val (.ref pl260)] [(.ref r235), (.ref r235)])) (fun _ k => XS.aload X267.here hx rfl (hb hby at_319) rfl rfl k) ?_
       obtain ⟨cq268, kq268, q268a, q268b, q268c⟩ := isOf hZ e267 c260_6
       obtain ⟨_, _, ⟨T268, L268, k268, n268⟩, -, X268, ⟨Lc268, hQ268, l268, y268, z268⟩, st268⟩ := X267.virtualBack hx (y := (⟨"java/lang/String", "equals", "(Ljava/lang/Object;)Z"⟩ : MethodName)) (z := (⟨"java/lang/String", "equals", "(Ljava/lang/Object;)Z"⟩ : MethodName)) hown (mvT hZ (hw _ (own_mem 183 rfl))) (mvT hZ (hw _ (own_mem 184 rfl))) (notFace_of_selects (args := #[]) (mvT hZ (hw _ (own_mem 186 rfl)))) (mvT hZ (hw _ (own_mem 186 rfl))) (mvT hZ (hw _ (own_mem 185 rfl))) (by decide) (backOf (W := 0) (rm28 l Z aw hw [] r235 T260.heap n0 Z260 ) hZ (hw _ (own_mem 187 rfl)) (hw _ (own_mem 11 rfl)) (by decide) (by decide)) q268a q268c (g := (mkF m 321 #[.val (.int p0), .val (.int p1), .val (.long q2), .second, .val (.int (4 : Int32)), .val (.int y19), .val (.int y36), .val (.ref r234), .val (.ref r235), .val (.ref r236), .val (.ref r237), .val (.ref b238), .val (.ref req), .val (.ref b255), .val (.ref pl260)] [(.ref r235), (.ref r235)])) rfl (by rw [hml]; rfl) (Steps.refl _) (argsL := [(.ref r235)]) (rest := []) (lenOf own_pd15 rfl) rfl (by show 2 * 0 + _ ≤ _; exact Nat.le_of_eq rfl) (hb hby at_321) (fun _ _ => ⟨rfl, e267, (by decide : 36 + 0 ≤ _), (by decide : 231 + 0 ≤ _)⟩)
       dsimp only [Pt.U, Pt.locs, Pt.cells, Pt.slots] at X268 l268 y268 z268 st268 hQ268
       subst l268 y268 z268
       obtain ⟨rfl, N268q, e268⟩ := hQ268
       have N268 := Fr.app N266 N268q
       refine own_goW (U' := T268.setTop (mkF m 324 #[.val (.int p0), .val (.int p1), .val (.long q2), .second, .val (.int (4 : Int32)), .val (.int y19), .val (.int y36), .val (.ref r234), .val (.ref r235), .val (.ref r236), .val (.ref r237), .val (.ref b238), .val (.ref req), .val (.ref b255), .val (.ref pl260)] [(.int (1 : Int32))])) (fun _ k => st268.trans k) ?_
       refine own_goW (U' := T268.setTop (mkF m 332 #[.val (.int p0), .val (.int p1), .val (.long q2), .second, .val (.int (4 : Int32)), .val (.int y19), .val (.int y36), .val (.ref r234), .val (.ref r235), .val (.ref r236), .val (.ref r237), .val (.ref b238), .val (.ref req), .val (.ref b255), .val (.ref pl260)] [(.int (2 : Int32)), (.int (4 : Int32))])) (fun _ k => XS.ifYes X268.here hx rfl (pc0 := 324) (pc' := 329) rfl (hb hby at_324) rfl ((if0 _ _).trans (feq (by decide : ¬ ((1 : Int32) = (0 : Int32)))).2) (by decide) (by decide) (XS.iload X268.here hx rfl (hb hby at_329) rfl (XS.iconst X268.here hx rfl (hb hby at_331) k))) ?_
       refine own_goW (U' := T268.setTop (mkF m 338 #[.val (.int p0), .val (.int p1), .val (.long q2), .second, .val (.int (4 : Int32)), .val (.int y19), .val (.int y36), .val (.ref r234), .val (.ref r235), .val (.ref r236), .val (.ref r237), .val (.ref b238), .val (.ref req), .val (.ref b255), .val (.ref pl260)] [(.int (2 : Int32)), (.ref pl260)])) (fun _ k => XS.icmpNo X268.here hx rfl (hb hby at_332) rfl (tlt (by decide : ((2 : Int32) < (4 : Int32)))).2.2.2 (XS.aload X268.here hx rfl (hb hby at_335) rfl rfl (XS.iconst X268.here hx rfl (hb hby at_337) k))) ?_
       obtain ⟨cq269, kq269, q269a, q269b, q269c⟩ := isOf hZ e268 xL260
       obtain ⟨_, _, ⟨T269, L269, k269, n269⟩, -, X269, ⟨Lc269, hQ269, l269, y269, z269⟩, st269⟩ := X268.interfaceBack hx (xi := (⟨"java/util/List", "get", "(I)Ljava/lang/Object;"⟩ : MethodName)) (y := (⟨"java/util/ArrayList", "get", "(I)Ljava/lang/Object;"⟩ : MethodName)) hown (mvT hZ (hw _ (own_mem 181 rfl))) (mvT hZ (hw _ (own_mem 138 rfl))) (mvT hZ (hw _ (own_mem 139 rfl))) (mvT hZ (hw _ (own_mem 140 rfl))) (mvT hZ (hw _ (own_mem 141 rfl))) (mvT hZ (hw _ (own_mem 142 rfl))) (mvT hZ (hw _ (own_mem 143 rfl))) (mvT hZ (hw _ (own_mem 95 rfl))) (by decide) (backOf (W := 0) (rm20 l Z aw hw [] pl260 (2 : Int32) (4 : Int32) pa260 kp260 [(.ref r234), (.ref r235), (.ref r236), (.ref r237), .null, .null, .null, .null, .null, .null] r236 T260.heap n0 Z260 xL260 xS260 xD260 xV260 (by first | assumption | decide | rfl) (by first | assumption | decide | rfl) (by first | assumption | decide | rfl) (by first | assumption | decide | rfl)) hZ (hw _ (own_mem 144 rfl)) (hw _ (own_mem 37 rfl)) (by decide) (by decide)) q269a q269b q269c (g := (mkF m 338 #[.val (.int p0), .val (.int p1), .val (.long q2), .second, .val (.int (4 : Int32)), .val (.int y19), .val (.int y36), .val (.ref r234), .val (.ref r235), .val (.ref r236), .val (.ref r237), .val (.ref b238), .val (.ref req), .val (.ref b255), .val (.ref pl260)] [(.int (2 : Int32)), (.ref pl260)])) rfl (by rw [hml]; rfl) (Steps.refl _) (argsL := [(.int (2 : Int32))]) (rest := []) (lenOf own_pd9 rfl) rfl (by show 2 * 0 + _ ≤ _; exact Nat.le_of_eq rfl) (hb hby at_338) (fun _ _ => ⟨rfl, e268, (by decide : 36 + 0 ≤ _), (by decide : 231 + 0 ≤ _)⟩)
       dsimp only [Pt.U, Pt.locs, Pt.cells, Pt.slots] at X269 l269 y269 z269 st269 hQ269
       subst l269 y269 z269
       obtain ⟨rfl, N269q, e269⟩ := hQ269
       have N269 := Fr.app N268 N269q
       refine own_goW (U' := T269.setTop (mkF m 343 #[.val (.int p0), .val (.int p1), .val (.long q2), .second, .val (.int (4 : Int32)), .val (.int y19), .val (.int y36), .val (.ref r234), .val (.ref r235), .val (.ref r236), .val (.ref r237), .val (.ref b238), .val (.ref req), .val (.ref b255), .val (.ref pl260)] [(.ref r236)])) (fun _ k => st269.trans k) ?_
       obtain ⟨T270, X270, e270, st270⟩ := castY X269 hx hZ hown (hw _ (own_mem 182 rfl)) e269 (Ins.self c260_7) (g := (mkF m 343 #[.val (.int p0), .val (.int p1), .val (.long q2), .second, .val (.int (4 : Int32)), .val (.int y19), .val (.int y36), .val (.ref r234), .val (.ref r235), .val (.ref r236), .val (.ref r237), .val (.ref b238), .val (.ref req), .val (.ref b255), .val (.ref pl260)] [(.ref r236)])) rfl rfl (hb hby at_343)
       refine own_goW (U' := T270.setTop (mkF m 346 #[.val (.int p0), .val (.int p1), .val (.long q2), .second, .val (.int (4 : Int32)), .val (.int y19), .val (.int y36), .val (.ref r234), .val (.ref r235), .val (.ref r236), .val (.ref r237), .val (.ref b238), .val (.ref req), .val (.ref b255), .val (.ref pl260)] [(.ref r236)])) (fun _ k => st270 _ k) ?_
       refine own_goW (U' := T270.setTop (mkF m 348 #[.val (.int p0), .val (.int p1), .val (.long q2), .second, .val (.int (4 : Int32)), .val (.int y19), .val (.int y36), .val (.ref r234), .val (.ref r235), .val (.ref r236), .val (.ref r237), .val (.ref b238), .val (.ref req), .val (.ref b255), .val (.ref pl260)] [(.ref r236), (.ref r236)])) (fun _ k => XS.aload X270.here hx rfl (hb hby at_346) rfl rfl k) ?_
       obtain ⟨cq271, kq271, q271a, q271b, q271c⟩ := isOf hZ e270 c260_7
       obtain ⟨_, _, ⟨T271, L271, k271, n271⟩, -, X271, ⟨Lc271, hQ271, l271, y271, z271⟩, st271⟩ := X270.virtualBack hx (y := (⟨"java/lang/String", "equals", "(Ljava/lang/Object;)Z"⟩ : MethodName)) (z := (⟨"java/lang/String", "equals", "(Ljava/lang/Object;)Z"⟩ : MethodName)) hown (mvT hZ (hw _ (own_mem 183 rfl))) (mvT hZ (hw _ (own_mem 184 rfl))) (notFace_of_selects (args := #[]) (mvT hZ (hw _ (own_mem 186 rfl)))) (mvT hZ (hw _ (own_mem 186 rfl))) (mvT hZ (hw _ (own_mem 185 rfl))) (by decide) (backOf (W := 0) (rm28 l Z aw hw [] r236 T260.heap n0 Z260 ) hZ (hw _ (own_mem 187 rfl)) (hw _ (own_mem 11 rfl)) (by decide) (by decide)) q271a q271c (g := (mkF m 348 #[.val (.int p0), .val (.int p1), .val (.long q2), .second, .val (.int (4 : Int32)), .val (.int y19), .val (.int y36), .val (.ref r234), .val (.ref r235), .val (.ref r236), .val (.ref r237), .val (.ref b238), .val (.ref req), .val (.ref b255), .val (.ref pl260)] [(.ref r236), (.ref r236)])) rfl (by rw [hml]; rfl) (Steps.refl _) (argsL := [(.ref r236)]) (rest := []) (lenOf own_pd15 rfl) rfl (by show 2 * 0 + _ ≤ _; exact Nat.le_of_eq rfl) (hb hby at_348) (fun _ _ => ⟨rfl, e270, (by decide : 36 + 0 ≤ _), (by decide : 231 + 0 ≤ _)⟩)
       dsimp only [Pt.U, Pt.locs, Pt.cells, Pt.slots] at X271 l271 y271 z271 st271 hQ271
       subst l271 y271 z271
       obtain ⟨rfl, N271q, e271⟩ := hQ271
       have N271 := Fr.app N269 N271q
       refine own_goW (U' := T271.setTop (mkF m 351 #[.val (.int p0), .val (.int p1), .val (.long q2), .second, .val (.int (4 : Int32)), .val (.int y19), .val (.int y36), .val (.ref r234), .val (.ref r235), .val (.ref r236), .val (.ref r237), .val (.ref b238), .val (.ref req), .val (.ref b255), .val (.ref pl260)] [(.int (1 : Int32))])) (fun _ k => st271.trans k) ?_
       refine own_goW (U' := T271.setTop (mkF m 359 #[.val (.int p0), .val (.int p1), .val (.long q2), .second, .val (.int (4 : Int32)), .val (.int y19), .val (.int y36), .val (.ref r234), .val (.ref r235), .val (.ref r236), .val (.ref r237), .val (.ref b238), .val (.ref req), .val (.ref b255), .val (.ref pl260)] [(.int (3 : Int32)), (.int (4 : Int32))])) (fun _ k => XS.ifYes X271.here hx rfl (pc0 := 351) (pc' := 356) rfl (hb hby at_351) rfl ((if0 _ _).trans (feq (by decide : ¬ ((1 : Int32) = (0 : Int32)))).2) (by decide) (by decide) (XS.iload X271.here hx rfl (hb hby at_356) rfl (XS.iconst X271.here hx rfl (hb hby at_358) k))) ?_
       refine own_goW (U' := T271.setTop (mkF m 365 #[.val (.int p0), .val (.int p1), .val (.long q2), .second, .val (.int (4 : Int32)), .val (.int y19), .val (.int y36), .val (.ref r234), .val (.ref r235), .val (.ref r236), .val (.ref r237), .val (.ref b238), .val (.ref req), .val (.ref b255), .val (.ref pl260)] [(.int (3 : Int32)), (.ref pl260)])) (fun _ k => XS.icmpNo X271.here hx rfl (hb hby at_359) rfl (tlt (by decide : ((3 : Int32) < (4 : Int32)))).2.2.2 (XS.aload X271.here hx rfl (hb hby at_362) rfl rfl (XS.iconst X271.here hx rfl (hb hby at_364) k))) ?_
       obtain ⟨cq272, kq272, q272a, q272b, q272c⟩ := isOf hZ e271 xL260
       obtain ⟨_, _, ⟨T272, L272, k272, n272⟩, -, X272, ⟨Lc272, hQ272, l272, y272, z272⟩, st272⟩ := X271.interfaceBack hx (xi := (⟨"java/util/List", "get", "(I)Ljava/lang/Object;"⟩ : MethodName)) (y := (⟨"java/util/ArrayList", "get", "(I)Ljava/lang/Object;"⟩ : MethodName)) hown (mvT hZ (hw _ (own_mem 181 rfl))) (mvT hZ (hw _ (own_mem 138 rfl))) (mvT hZ (hw _ (own_mem 139 rfl))) (mvT hZ (hw _ (own_mem 140 rfl))) (mvT hZ (hw _ (own_mem 141 rfl))) (mvT hZ (hw _ (own_mem 142 rfl))) (mvT hZ (hw _ (own_mem 143 rfl))) (mvT hZ (hw _ (own_mem 95 rfl))) (by decide) (backOf (W := 0) (rm20 l Z aw hw [] pl260 (3 : Int32) (4 : Int32) pa260 kp260 [(.ref r234), (.ref r235), (.ref r236), (.ref r237), .null, .null, .null, .null, .null, .null] r237 T260.heap n0 Z260 xL260 xS260 xD260 xV260 (by first | assumption | decide | rfl) (by first | assumption | decide | rfl) (by first | assumption | decide | rfl) (by first | assumption | decide | rfl)) hZ (hw _ (own_mem 144 rfl)) (hw _ (own_mem 37 rfl)) (by decide) (by decide)) q272a q272b q272c (g := (mkF m 365 #[.val (.int p0), .val (.int p1), .val (.long q2), .second, .val (.int (4 : Int32)), .val (.int y19), .val (.int y36), .val (.ref r234), .val (.ref r235), .val (.ref r236), .val (.ref r237), .val (.ref b238), .val (.ref req), .val (.ref b255), .val (.ref pl260)] [(.int (3 : Int32)), (.ref pl260)])) rfl (by rw [hml]; rfl) (Steps.refl _) (argsL := [(.int (3 : Int32))]) (rest := []) (lenOf own_pd9 rfl) rfl (by show 2 * 0 + _ ≤ _; exact Nat.le_of_eq rfl) (hb hby at_365) (fun _ _ => ⟨rfl, e271, (by decide : 36 + 0 ≤ _), (by decide : 231 + 0 ≤ _)⟩)
       dsimp only [Pt.U, Pt.locs, Pt.cells, Pt.slots] at X272 l272 y272 z272 st272 hQ272
       subst l272 y272 z272
       obtain ⟨rfl, N272q, e272⟩ := hQ272
       have N272 := Fr.app N271 N272q
       refine own_goW (U' := T272.setTop (mkF m 370 #[.val (.int p0), .val (.int p1), .val (.long q2), .second, .val (.int (4 : Int32)), .val (.int y19), .val (.int y36), .val (.ref r234), .val (.ref r235), .val (.ref r236), .val (.ref r237), .val (.ref b238), .val (.ref req), .val (.ref b255), .val (.ref pl260)] [(.ref r237)])) (fun _ k => st272.trans k) ?_
       obtain ⟨T273, X273, e273, st273⟩ := castY X272 hx hZ hown (hw _ (own_mem 182 rfl)) e272 (Ins.self c260_8) (g := (mkF m 370 #[.val (.int p0), .val (.int p1), .val (.long q2), .second, .val (.int (4 : Int32)), .val (.int y19), .val (.int y36), .val (.ref r234), .val (.ref r235), .val (.ref r236), .val (.ref r237), .val (.ref b238), .val (.ref req), .val (.ref b255), .val (.ref pl260)] [(.ref r237)])) rfl rfl (hb hby at_370)
       refine own_goW (U' := T273.setTop (mkF m 373 #[.val (.int p0), .val (.int p1), .val (.long q2), .second, .val (.int (4 : Int32)), .val (.int y19), .val (.int y36), .val (.ref r234), .val (.ref r235), .val (.ref r236), .val (.ref r237), .val (.ref b238), .val (.ref req), .val (.ref b255), .val (.ref pl260)] [(.ref r237)])) (fun _ k => st273 _ k) ?_
       refine own_goW (U' := T273.setTop (mkF m 375 #[.val (.int p0), .val (.int p1), .val (.long q2), .second, .val (.int (4 : Int32)), .val (.int y19), .val (.int y36), .val (.ref r234), .val (.ref r235), .val (.ref r236), .val (.ref r237), .val (.ref b238), .val (.ref req), .val (.ref b255), .val (.ref pl260)] [(.ref r237), (.ref r237)])) (fun _ k => XS.aload X273.here hx rfl (hb hby at_373) rfl rfl k) ?_
       obtain ⟨cq274, kq274, q274a, q274b, q274c⟩ := isOf hZ e273 c260_8
       obtain ⟨_, _, ⟨T274, L274, k274, n274⟩, -, X274, ⟨Lc274, hQ274, l274, y274, z274⟩, st274⟩ := X273.virtualBack hx (y := (⟨"java/lang/String", "equals", "(Ljava/lang/Object;)Z"⟩ : MethodName)) (z := (⟨"java/lang/String", "equals", "(Ljava/lang/Object;)Z"⟩ : MethodName)) hown (mvT hZ (hw _ (own_mem 183 rfl))) (mvT hZ (hw _ (own_mem 184 rfl))) (notFace_of_selects (args := #[]) (mvT hZ (hw _ (own_mem 186 rfl)))) (mvT hZ (hw _ (own_mem 186 rfl))) (mvT hZ (hw _ (own_mem 185 rfl))) (by decide) (backOf (W := 0) (rm28 l Z aw hw [] r237 T260.heap n0 Z260 ) hZ (hw _ (own_mem 187 rfl)) (hw _ (own_mem 11 rfl)) (by decide) (by decide)) q274a q274c (g := (mkF m 375 #[.val (.int p0), .val (.int p1), .val (.long q2), .second, .val (.int (4 : Int32)), .val (.int y19), .val (.int y36), .val (.ref r234), .val (.ref r235), .val (.ref r236), .val (.ref r237), .val (.ref b238), .val (.ref req), .val (.ref b255), .val (.ref pl260)] [(.ref r237), (.ref r237)])) rfl (by rw [hml]; rfl) (Steps.refl _) (argsL := [(.ref r237)]) (rest := []) (lenOf own_pd15 rfl) rfl (by show 2 * 0 + _ ≤ _; exact Nat.le_of_eq rfl) (hb hby at_375) (fun _ _ => ⟨rfl, e273, (by decide : 36 + 0 ≤ _), (by decide : 231 + 0 ≤ _)⟩)
       dsimp only [Pt.U, Pt.locs, Pt.cells, Pt.slots] at X274 l274 y274 z274 st274 hQ274
       subst l274 y274 z274
       obtain ⟨rfl, N274q, e274⟩ := hQ274
       have N274 := Fr.app N272 N274q
       refine own_goW (U' := T274.setTop (mkF m 378 #[.val (.int p0), .val (.int p1), .val (.long q2), .second, .val (.int (4 : Int32)), .val (.int y19), .val (.int y36), .val (.ref r234), .val (.ref r235), .val (.ref r236), .val (.ref r237), .val (.ref b238), .val (.ref req), .val (.ref b255), .val (.ref pl260)] [(.int (1 : Int32))])) (fun _ k => st274.trans k) ?_
       refine own_goW (U' := T274.setTop (mkF m 384 #[.val (.int p0), .val (.int p1), .val (.long q2), .second, .val (.int (4 : Int32)), .val (.int y19), .val (.int y36), .val (.ref r234), .val (.ref r235), .val (.ref r236), .val (.ref r237), .val (.ref b238), .val (.ref req), .val (.ref b255), .val (.ref pl260)] [(.int (1 : Int32))])) (fun _ k => XS.ifYes X274.here hx rfl (pc0 := 378) (pc' := 383) rfl (hb hby at_378) rfl ((if0 _ _).trans (feq (by decide : ¬ ((1 : Int32) = (0 : Int32)))).2) (by decide) (by decide) (XS.iconst X274.here hx rfl (hb hby at_383) k)) ?_
       refine own_retW (vm₁ := T260.vm) X274 hS260 (by rw [show T274.heap = T260.heap from e274]; exact (Nat.le_refl _)) (by rw [hh, show T274.heap = T260.heap from e274]; exact CHr.trans CT260 (CHv.at (s := s) (vm0 := T260.vm) X274 hZ (own_EW hw) CT260.1)) (v := (some (.int (1 : Int32)))) hlk (fun h => by rw [Bd.returns] at h; cases h) (by decide) (by decide) (fun fs hr => retN X274 hx (t := .boolean) Bd.returns (by simp) (hb hby at_384) hr) ?_
       show (Q0 Z p0 p1 q2 cs w k0 h0 n0) _ T274.heap _
       rw [e274]
       exact ⟨rfl, N274⟩
      obtain ⟨T275, h275, X275, e275, E275, A275, D275, -, st275⟩ := newO X252 hx hZ hown (hw _ (own_mem 35 rfl)) (hw _ (own_mem 36 rfl)) (hw _ (own_mem 37 rfl)) rfl (g := (mkF m 167 #[.val (.int p0), .val (.int p1), .val (.long q2), .second, .val (.int (4 : Int32)), .val (.int y19), .val (.int y36), .val (.ref r234), .val (.ref r235), .val (.ref r236), .val (.ref r237), .val (.ref b238), .unset, .unset, .unset] [])) rfl (hb hby at_167) (by decide) (by decide)
      obtain ⟨b275, g275⟩ : ∃ z, z = T252.heap.size := ⟨_, rfl⟩
      have g_b275 : n0 ≤ b275 := Nat.le_trans Z252 (Nat.le_of_eq g275.symm)
      have sz_b275 : T237.heap.size ≤ b275 := Nat.le_trans K252.1 (Nat.le_of_eq g275.symm)
      have ne_w_b275 : w ≠ b275 := Nat.ne_of_lt (Nat.lt_of_lt_of_le c252_5.lt (Nat.le_of_eq g275.symm))
      have ne_r234_b275 : r234 ≠ b275 := Nat.ne_of_lt (Nat.lt_of_lt_of_le c252_8.lt (Nat.le_of_eq g275.symm))
      have ne_r235_b275 : r235 ≠ b275 := Nat.ne_of_lt (Nat.lt_of_lt_of_le c252_9.lt (Nat.le_of_eq g275.symm))
      have ne_r236_b275 : r236 ≠ b275 := Nat.ne_of_lt (Nat.lt_of_lt_of_le c252_10.lt (Nat.le_of_eq g275.symm))
      have ne_r237_b275 : r237 ≠ b275 := Nat.ne_of_lt (Nat.lt_of_lt_of_le c252_11.lt (Nat.le_of_eq g275.symm))
      have ne_b238_b275 : b238 ≠ b275 := Nat.ne_of_lt (Nat.lt_of_lt_of_le xE252.lt (Nat.le_of_eq g275.symm))
      have ne_r241_b275 : r241 ≠ b275 := Nat.ne_of_lt (Nat.lt_of_lt_of_le nl252.lt (Nat.le_of_eq g275.symm))
      rw [← g275] at A275 D275 st275
      have c275_0 := c252_0.ext E275
      have c275_1 := c252_1.ext E275
      have c275_2 := c252_2.ext E275
      have c275_3 := c252_3.ext E275
      have c275_4 := c252_4.ext E275
      have c275_5 := c252_5.ext E275
      have c275_6 := CHr.trans c252_6 (CHr.ext E275 c252_6.1)
      have c275_7 : 0 ≤ h275.size := Nat.le_trans c252_7 E275.1
      have c275_8 := c252_8.ext E275
      have c275_9 := c252_9.ext E275
      have c275_10 := c252_10.ext E275
      have c275_11 := c252_11.ext E275
      have c275_12 := xE252.ext E275
      have c275_13 := c252_13.ext E275
      have c275_14 := c252_14.ext E275
      have c275_15 := c252_15.ext E275
      have c275_16 := c252_20.ext E275
      have c275_17 := nf253.ext E275
      have c275_18 := xD252.ext E275
      have c275_19 := nf254.ext E275
      have c275_20 := nl252.ext E275
      have Z275 : n0 ≤ h275.size := Nat.le_trans Z252 E275.1
      have K275 := Keep.ext K252 E275
      have F275_55 : Fld Z h275 b275 "java/util/AbstractList" "modCount" "I" (.int (0 : Int32)) := D275 (Or.inl (hw _ (own_mem 55 rfl))) (ty := .int) (by decide)
      have F275_58 : Fld Z h275 b275 "java/util/ArrayList" "elementData" "[Ljava/lang/Object;" .null := D275 (Or.inl (hw _ (own_mem 58 rfl))) (ty := (.array (.object "java/lang/Object"))) (by decide)
      have F275_98 : Fld Z h275 b275 "java/util/ArrayList" "size" "I" (.int (0 : Int32)) := D275 (Or.inl (hw _ (own_mem 98 rfl))) (ty := .int) (by decide)
      refine own_goW (U' := T275.setTop (mkF m 170 #[.val (.int p0), .val (.int p1), .val (.long q2), .second, .val (.int (4 : Int32)), .val (.int y19), .val (.int y36), .val (.ref r234), .val (.ref r235), .val (.ref r236), .val (.ref r237), .val (.ref b238), .unset, .unset, .unset] [(.ref b275)])) (fun _ k => st275 _ k) ?_
      refine own_goW (U' := T275.setTop (mkF m 171 #[.val (.int p0), .val (.int p1), .val (.long q2), .second, .val (.int (4 : Int32)), .val (.int y19), .val (.int y36), .val (.ref r234), .val (.ref r235), .val (.ref r236), .val (.ref r237), .val (.ref b238), .unset, .unset, .unset] [(.ref b275), (.ref b275)])) (fun _ k => XS.dup X275.here hx rfl (hb hby at_170) rfl rfl k) ?_
      obtain ⟨_, _, ⟨T276, L276, k276, n276⟩, -, X276, ⟨Lc276, hQ276, l276, y276, z276⟩, st276⟩ := X275.specialBack hx (y := (⟨"java/util/ArrayList", "<init>", "()V"⟩ : MethodName)) rfl hown (mvT hZ (hw _ (own_mem 38 rfl))) (mvT hZ (hw _ (own_mem 39 rfl))) (mvT hZ (hw _ (own_mem 40 rfl))) (by decide) (backOf (W := 1) (rm8 l Z aw hw [] b275 w h275 n0 Z275 c275_4 A275 F275_98 F275_58 F275_55 (by first | assumption | decide | rfl)) hZ (hw _ (own_mem 40 rfl)) (hw _ (own_mem 37 rfl)) (by decide) (by decide)) (g := (mkF m 171 #[.val (.int p0), .val (.int p1), .val (.long q2), .second, .val (.int (4 : Int32)), .val (.int y19), .val (.int y36), .val (.ref r234), .val (.ref r235), .val (.ref r236), .val (.ref r237), .val (.ref b238), .unset, .unset, .unset] [(.ref b275), (.ref b275)])) rfl (by rw [hml]; rfl) (Steps.refl _) (a := b275) (argsL := []) (rest := [(.ref b275)]) (lenOf own_pd10 rfl) rfl (by show 2 * 0 + _ ≤ _; exact Nat.le_of_eq rfl) (hb hby at_171) (fun _ _ => ⟨rfl, e275, (by decide : 11 + 0 ≤ _), (by decide : 40 + 0 ≤ _)⟩)
      dsimp only [Pt.U, Pt.locs, Pt.cells, Pt.slots] at X276 l276 y276 z276 st276 hQ276
      subst l276 y276 z276
      obtain ⟨rfl, N276q, K276q, xE276, xS276, xD276, xM276⟩ := hQ276
      have N276 := Fr.app N252 N276q
      have c276_0 := own_sta_keepX c275_0 K276q (allS A275.nostat all0)
      have c276_1 := own_sta_keepX c275_1 K276q (allS A275.nostat all0)
      have c276_2 := own_sta_keepX c275_2 K276q (allS A275.nostat all0)
      have c276_3 := own_sta_keepX c275_3 K276q (allS A275.nostat all0)
      have c276_4 := own_sta_keepX c275_4 K276q (allS A275.nostat all0)
      have c276_5 := c275_5.keep K276q (ninS ne_w_b275 nin0)
      have c276_6 := CHr.trans c275_6 (CHr.keep K276q (allS (Safe.exa hZ.alike A275 (by decide) (by decide)) all0) c275_6.1)
      have c276_7 : 0 ≤ T276.heap.size := Nat.le_trans c275_7 K276q.1
      have c276_8 := c275_8.keep K276q
      have c276_9 := c275_9.keep K276q
      have c276_10 := c275_10.keep K276q
      have c276_11 := c275_11.keep K276q
      have c276_12 := c275_12.keep K276q
      have c276_13 := own_ins_keep c275_13 K276q
      have c276_14 := own_ins_keep c275_14 K276q
      have c276_15 := own_ins_keep c275_15 K276q
      have c276_16 := own_ins_keep c275_16 K276q
      have c276_17 := c275_17.keep K276q (ninS ne_b238_b275 nin0)
      have c276_18 := c275_18.keep K276q (ninS ne_b238_b275 nin0)
      have c276_19 := c275_19.keep K276q (ninS ne_b238_b275 nin0)
      have c276_20 := c275_20.keep K276q (ninS ne_r241_b275 nin0)
      have c276_21 := A275.keep K276q
      have Z276 : n0 ≤ T276.heap.size := Nat.le_trans Z275 K276q.1
      have K276 := Keep.trans K275 K276q (allS (Or.inr sz_b275) all0)
      refine own_goW (U' := T276.setTop (mkF m 174 #[.val (.int p0), .val (.int p1), .val (.long q2), .second, .val (.int (4 : Int32)), .val (.int y19), .val (.int y36), .val (.ref r234), .val (.ref r235), .val (.ref r236), .val (.ref r237), .val (.ref b238), .unset, .unset, .unset] [(.ref b275)])) (fun _ k => st276.trans k) ?_
      refine own_goW (U' := T276.setTop (mkF m 178 #[.val (.int p0), .val (.int p1), .val (.long q2), .second, .val (.int (4 : Int32)), .val (.int y19), .val (.int y36), .val (.ref r234), .val (.ref r235), .val (.ref r236), .val (.ref r237), .val (.ref b238), .val (.ref b275), .unset, .unset] [(.int y19)])) (fun _ k => XS.astore X276.here hx rfl (hb hby at_174) rfl rfl (l' := #[.val (.int p0), .val (.int p1), .val (.long q2), .second, .val (.int (4 : Int32)), .val (.int y19), .val (.int y36), .val (.ref r234), .val (.ref r235), .val (.ref r236), .val (.ref r237), .val (.ref b238), .val (.ref b275), .unset, .unset]) rfl (XS.iload X276.here hx rfl (hb hby at_176) rfl k)) ?_
      by_cases hc178_277 : (0 : Int32) < y19
      ·refine own_goW (U' := T276.setTop (mkF m 183 #[.val (.int p0), .val (.int p1), .val (.long q2), .second, .val (.int (4 : Int32)), .val (.int y19), .val (.int y36), .val (.ref r234), .val (.ref r235), .val (.ref r236), .val (.ref r237), .val (.ref b238), .val (.ref b275), .unset, .unset] [(.ref b275)])) (fun _ k => XS.ifNo X276.here hx rfl (hb hby at_178) rfl ((if0 _ _).trans (tlt hc178_277).2.2.2) (XS.aload X276.here hx rfl (hb hby at_181) rfl rfl k)) ?_
       obtain ⟨a278, T278, h278, k278, b278, kc278, X278, e278, E278, hS278, hk278, hZ, hown, Ex278, Fc278, Fv278, Vb278, -, -, CH278, -, -, st278⟩ := ldcCH (s := s) (vm0 := s.vm) X276 hx hZ hown (hw _ (own_mem 134 rfl)) (own_wS hw) rfl hS0 c276_7 (own_EW hw) (by decide) c276_6.1 (z := (1 : Int32)) own_text134 (by decide) rfl (g := (mkF m 183 #[.val (.int p0), .val (.int p1), .val (.long q2), .second, .val (.int (4 : Int32)), .val (.int y19), .val (.int y36), .val (.ref r234), .val (.ref r235), .val (.ref r236), .val (.ref r237), .val (.ref b238), .val (.ref b275), .unset, .unset] [(.ref b275)])) rfl (hb hby at_183) (n := 4) (by decide) (by decide) (by decide) (by decide)
       have c278_0 := c276_0.ext E278
       have c278_1 := c276_1.ext E278
       have c278_2 := c276_2.ext E278
       have c278_3 := c276_3.ext E278
       have c278_4 := c276_4.ext E278
       have c278_5 := c276_5.ext E278
       have c278_6 := c276_8.ext E278
       have c278_7 := c276_9.ext E278
       have c278_8 := c276_10.ext E278
       have c278_9 := c276_11.ext E278
       have c278_10 := c276_12.ext E278
       have c278_11 := c276_13.ext E278
       have c278_12 := c276_14.ext E278
       have c278_13 := c276_15.ext E278
       have c278_14 := c276_16.ext E278
       have c278_15 := c276_17.ext E278
       have c278_16 := c276_18.ext E278
       have c278_17 := c276_19.ext E278
       have c278_18 := c276_20.ext E278
       have c278_19 := xE276.ext E278
       have c278_20 := xS276.ext E278
       have c278_21 := xD276.ext E278
       have c278_22 := xM276.ext E278
       have Z278 : n0 ≤ h278.size := Nat.le_trans Z276 E278.1
       have K278 := Keep.ext K276 E278
       have CR278 := CHr.trans c276_6 CH278
       refine own_goW (U' := T278.setTop (mkF m 185 #[.val (.int p0), .val (.int p1), .val (.long q2), .second, .val (.int (4 : Int32)), .val (.int y19), .val (.int y36), .val (.ref r234), .val (.ref r235), .val (.ref r236), .val (.ref r237), .val (.ref b238), .val (.ref b275), .unset, .unset] [(.ref a278), (.ref b275)])) (fun _ k => st278 _ k) ?_
       obtain ⟨cq279, kq279, q279a, q279b, q279c⟩ := isOf hZ e278 c278_19
       obtain ⟨_, _, ⟨T279, L279, k279, n279⟩, -, X279, ⟨Lc279, hQ279, l279, y279, z279⟩, st279⟩ := X278.interfaceBack hx (xi := (⟨"java/util/List", "add", "(Ljava/lang/Object;)Z"⟩ : MethodName)) (y := (⟨"java/util/ArrayList", "add", "(Ljava/lang/Object;)Z"⟩ : MethodName)) hown (mvT hZ (hw _ (own_mem 105 rfl))) (mvT hZ (hw _ (own_mem 106 rfl))) (mvT hZ (hw _ (own_mem 107 rfl))) (mvT hZ (hw _ (own_mem 108 rfl))) (mvT hZ (hw _ (own_mem 109 rfl))) (mvT hZ (hw _ (own_mem 110 rfl))) (mvT hZ (hw _ (own_mem 111 rfl))) (mvT hZ (hw _ (own_mem 95 rfl))) (by decide) (backOf (W := 0) (rm16g l Z aw hw [] b275 a278 w k0 (0 : Int32) h278 n0 Z278 c278_4 c278_5 (Ins.of_exa Ex278 (hw _ (own_mem 133 rfl))) c278_19 c278_20 c278_21 c278_22 (by first | assumption | decide | rfl)) hZ (hw _ (own_mem 112 rfl)) (hw _ (own_mem 37 rfl)) (by decide) (by decide)) q279a q279b q279c (g := (mkF m 185 #[.val (.int p0), .val (.int p1), .val (.long q2), .second, .val (.int (4 : Int32)), .val (.int y19), .val (.int y36), .val (.ref r234), .val (.ref r235), .val (.ref r236), .val (.ref r237), .val (.ref b238), .val (.ref b275), .unset, .unset] [(.ref a278), (.ref b275)])) rfl (by rw [hml]; rfl) (Steps.refl _) (argsL := [(.ref a278)]) (rest := []) (lenOf own_pd15 rfl) rfl (by show 2 * 0 + _ ≤ _; exact Nat.le_of_eq rfl) (hb hby at_185) (fun _ _ => ⟨rfl, e278, (by decide : 13 + 1 ≤ _), (by decide : 48 + 10 ≤ _)⟩)
       dsimp only [Pt.U, Pt.locs, Pt.cells, Pt.slots] at X279 l279 y279 z279 st279 hQ279
       subst l279 y279 z279
       obtain ⟨r279, kr279, rfl, N279q, K279q, sr279, xE279, xS279, xD279, xM279, xV279, xO279⟩ := hQ279
       have N279 := Fr.app N276 N279q
       have ne_w_r279 : w ≠ r279 := Nat.ne_of_lt (Nat.lt_of_lt_of_le c278_5.lt sr279)
       have ne_r234_r279 : r234 ≠ r279 := Nat.ne_of_lt (Nat.lt_of_lt_of_le c278_6.lt sr279)
       have ne_r235_r279 : r235 ≠ r279 := Nat.ne_of_lt (Nat.lt_of_lt_of_le c278_7.lt sr279)
       have ne_r236_r279 : r236 ≠ r279 := Nat.ne_of_lt (Nat.lt_of_lt_of_le c278_8.lt sr279)
       have ne_r237_r279 : r237 ≠ r279 := Nat.ne_of_lt (Nat.lt_of_lt_of_le c278_9.lt sr279)
       have ne_b238_r279 : b238 ≠ r279 := Nat.ne_of_lt (Nat.lt_of_lt_of_le c278_10.lt sr279)
       have ne_r241_r279 : r241 ≠ r279 := Nat.ne_of_lt (Nat.lt_of_lt_of_le c278_18.lt sr279)
       have ne_b275_r279 : b275 ≠ r279 := Nat.ne_of_lt (Nat.lt_of_lt_of_le c278_19.lt sr279)
       have ne_a278_r279 : a278 ≠ r279 := Nat.ne_of_lt (Nat.lt_of_lt_of_le Ex278.lt sr279)
       have g_r279 : n0 ≤ r279 := Nat.le_trans Z278 sr279
       have sz_r279 : T237.heap.size ≤ r279 := Nat.le_trans K278.1 sr279
       have ne_a278_b275 : a278 ≠ b275 := Exa.ne Ex278 c278_19 (by decide)
       have c279_0 := own_sta_keepX c278_0 K279q (allS c278_19.nostat all0)
       have c279_1 := own_sta_keepX c278_1 K279q (allS c278_19.nostat all0)
       have c279_2 := own_sta_keepX c278_2 K279q (allS c278_19.nostat all0)
       have c279_3 := own_sta_keepX c278_3 K279q (allS c278_19.nostat all0)
       have c279_4 := own_sta_keepX c278_4 K279q (allS c278_19.nostat all0)
       have c279_5 := c278_5.keep K279q (ninS ne_w_b275 nin0)
       have c279_6 := c278_6.keep K279q
       have c279_7 := c278_7.keep K279q
       have c279_8 := c278_8.keep K279q
       have c279_9 := c278_9.keep K279q
       have c279_10 := c278_10.keep K279q
       have c279_11 := own_ins_keep c278_11 K279q
       have c279_12 := own_ins_keep c278_12 K279q
       have c279_13 := own_ins_keep c278_13 K279q
       have c279_14 := own_ins_keep c278_14 K279q
       have c279_15 := c278_15.keep K279q (ninS ne_b238_b275 nin0)
       have c279_16 := c278_16.keep K279q (ninS ne_b238_b275 nin0)
       have c279_17 := c278_17.keep K279q (ninS ne_b238_b275 nin0)
       have c279_18 := c278_18.keep K279q (ninS ne_r241_b275 nin0)
       have c279_19 := c278_19.keep K279q
       have c279_23 := Ex278.keep K279q
       have c279_24 := CHr.trans CR278 (CHr.keep K279q (allS (Safe.exa hZ.alike c278_19 (by decide) (by decide)) all0) CR278.1)
       have c279_25 : k278 ≤ T279.heap.size := Nat.le_trans hk278 K279q.1
       have c279_26 := own_ins_keep (Ins.of_exa Ex278 (hw _ (own_mem 133 rfl))) K279q
       have nf280 : Fld Z T279.heap b275 "java/util/AbstractList" "modCount" "I" (.int (1 : Int32)) := xM279
       have Z279 : n0 ≤ T279.heap.size := Nat.le_trans Z278 K279q.1
       have K279 := Keep.trans K278 K279q (allS (Or.inr sz_b275) all0)
       refine own_goW (U' := T279.setTop (mkF m 190 #[.val (.int p0), .val (.int p1), .val (.long q2), .second, .val (.int (4 : Int32)), .val (.int y19), .val (.int y36), .val (.ref r234), .val (.ref r235), .val (.ref r236), .val (.ref r237), .val (.ref b238), .val (.ref b275), .unset, .unset] [(.int (1 : Int32))])) (fun _ k => st279.trans k) ?_
       refine own_goW (U' := T279.setTop (mkF m 194 #[.val (.int p0), .val (.int p1), .val (.long q2), .second, .val (.int (4 : Int32)), .val (.int y19), .val (.int y36), .val (.ref r234), .val (.ref r235), .val (.ref r236), .val (.ref r237), .val (.ref b238), .val (.ref b275), .unset, .unset] [(.int (1 : Int32)), (.int y19)])) (fun _ k => XS.pop X279.here hx rfl (hb hby at_190) rfl rfl (XS.iload X279.here hx rfl (hb hby at_191) rfl (XS.iconst X279.here hx rfl (hb hby at_193) k))) ?_
       by_cases hc194_281 : (1 : Int32) < y19
       ·refine own_goW (U' := T279.setTop (mkF m 199 #[.val (.int p0), .val (.int p1), .val (.long q2), .second, .val (.int (4 : Int32)), .val (.int y19), .val (.int y36), .val (.ref r234), .val (.ref r235), .val (.ref r236), .val (.ref r237), .val (.ref b238), .val (.ref b275), .unset, .unset] [(.ref b275)])) (fun _ k => XS.icmpNo X279.here hx rfl (hb hby at_194) rfl (tlt hc194_281).2.2.2 (XS.aload X279.here hx rfl (hb hby at_197) rfl rfl k)) ?_
        obtain ⟨a282, T282, h282, k282, b282, kc282, X282, e282, E282, hS282, hk282, hZ, hown, Ex282, Fc282, Fv282, Vb282, -, -, CH282, -, -, st282⟩ := ldcCH (s := s) (vm0 := T278.vm) X279 hx hZ hown (hw _ (own_mem 198 rfl)) (own_wS hw) rfl hS278 c279_25 (own_EW hw) (by decide) c279_24.1 (z := (1 : Int32)) own_text198 (by decide) rfl (g := (mkF m 199 #[.val (.int p0), .val (.int p1), .val (.long q2), .second, .val (.int (4 : Int32)), .val (.int y19), .val (.int y36), .val (.ref r234), .val (.ref r235), .val (.ref r236), .val (.ref r237), .val (.ref b238), .val (.ref b275), .unset, .unset] [(.ref b275)])) rfl (hb hby at_199) (n := 4) (by decide) (by decide) (by decide) (by decide)
        have c282_0 := c279_0.ext E282
        have c282_1 := c279_1.ext E282
        have c282_2 := c279_2.ext E282
        have c282_3 := c279_3.ext E282
        have c282_4 := c279_4.ext E282
        have c282_5 := c279_5.ext E282
        have c282_6 := c279_6.ext E282
        have c282_7 := c279_7.ext E282
        have c282_8 := c279_8.ext E282
        have c282_9 := c279_9.ext E282
        have c282_10 := c279_10.ext E282
        have c282_11 := c279_11.ext E282
        have c282_12 := c279_12.ext E282
        have c282_13 := c279_13.ext E282
        have c282_14 := c279_14.ext E282
        have c282_15 := c279_15.ext E282
        have c282_16 := c279_16.ext E282
        have c282_17 := c279_17.ext E282
        have c282_18 := c279_18.ext E282
        have c282_19 := xE279.ext E282
        have c282_20 := c279_23.ext E282
        have c282_21 := c279_26.ext E282
        have c282_22 := xS279.ext E282
        have c282_23 := xD279.ext E282
        have c282_24 := nf280.ext E282
        have c282_25 := xV279.ext E282
        have Z282 : n0 ≤ h282.size := Nat.le_trans Z279 E282.1
        have K282 := Keep.ext K279 E282
        have CR282 := CHr.trans c279_24 CH282
        refine own_goW (U' := T282.setTop (mkF m 201 #[.val (.int p0), .val (.int p1), .val (.long q2), .second, .val (.int (4 : Int32)), .val (.int y19), .val (.int y36), .val (.ref r234), .val (.ref r235), .val (.ref r236), .val (.ref r237), .val (.ref b238), .val (.ref b275), .unset, .unset] [(.ref a282), (.ref b275)])) (fun _ k => st282 _ k) ?_
        obtain ⟨cq283, kq283, q283a, q283b, q283c⟩ := isOf hZ e282 c282_19
        obtain ⟨_, _, ⟨T283, L283, k283, n283⟩, -, X283, ⟨Lc283, hQ283, l283, y283, z283⟩, st283⟩ := X282.interfaceBack hx (xi := (⟨"java/util/List", "add", "(Ljava/lang/Object;)Z"⟩ : MethodName)) (y := (⟨"java/util/ArrayList", "add", "(Ljava/lang/Object;)Z"⟩ : MethodName)) hown (mvT hZ (hw _ (own_mem 105 rfl))) (mvT hZ (hw _ (own_mem 106 rfl))) (mvT hZ (hw _ (own_mem 107 rfl))) (mvT hZ (hw _ (own_mem 108 rfl))) (mvT hZ (hw _ (own_mem 109 rfl))) (mvT hZ (hw _ (own_mem 110 rfl))) (mvT hZ (hw _ (own_mem 111 rfl))) (mvT hZ (hw _ (own_mem 95 rfl))) (by decide) (backOf (W := 0) (rm16s l Z aw hw [] b275 a282 r279 kr279 (1 : Int32) (1 : Int32) [(.ref a278), .null, .null, .null, .null, .null, .null, .null, .null, .null] h282 n0 Z282 (Ins.of_exa Ex282 (hw _ (own_mem 133 rfl))) c282_19 c282_22 c282_23 c282_24 c282_25 (by first | assumption | decide | rfl) (by first | assumption | decide | rfl) (by first | assumption | decide | rfl) (by first | assumption | decide | rfl) (by first | assumption | decide | rfl) (by first | assumption | decide | rfl) (by first | assumption | decide | rfl) (by first | assumption | decide | rfl)) hZ (hw _ (own_mem 112 rfl)) (hw _ (own_mem 37 rfl)) (by decide) (by decide)) q283a q283b q283c (g := (mkF m 201 #[.val (.int p0), .val (.int p1), .val (.long q2), .second, .val (.int (4 : Int32)), .val (.int y19), .val (.int y36), .val (.ref r234), .val (.ref r235), .val (.ref r236), .val (.ref r237), .val (.ref b238), .val (.ref b275), .unset, .unset] [(.ref a282), (.ref b275)])) rfl (by rw [hml]; rfl) (Steps.refl _) (argsL := [(.ref a282)]) (rest := []) (lenOf own_pd15 rfl) rfl (by show 2 * 0 + _ ≤ _; exact Nat.le_of_eq rfl) (hb hby at_201) (fun _ _ => ⟨rfl, e282, (by decide : 16 + 0 ≤ _), (by decide : 66 + 0 ≤ _)⟩)
        dsimp only [Pt.U, Pt.locs, Pt.cells, Pt.slots] at X283 l283 y283 z283 st283 hQ283
        subst l283 y283 z283
        obtain ⟨rfl, N283q, K283q, xE283, xS283, xD283, xM283, xV283⟩ := hQ283
        have N283 := Fr.app N279 N283q
        have ne_a282_b275 : a282 ≠ b275 := Exa.ne Ex282 c282_19 (by decide)
        have ne_a282_r279 : a282 ≠ r279 := Exa.neArv Ex282 c282_25 (hw _ (own_mem 19 rfl))
        have c283_0 := own_sta_keepX c282_0 K283q (allS c282_19.nostat (allS c282_25.nostat all0))
        have c283_1 := own_sta_keepX c282_1 K283q (allS c282_19.nostat (allS c282_25.nostat all0))
        have c283_2 := own_sta_keepX c282_2 K283q (allS c282_19.nostat (allS c282_25.nostat all0))
        have c283_3 := own_sta_keepX c282_3 K283q (allS c282_19.nostat (allS c282_25.nostat all0))
        have c283_4 := own_sta_keepX c282_4 K283q (allS c282_19.nostat (allS c282_25.nostat all0))
        have c283_5 := c282_5.keep K283q (ninS ne_w_b275 (ninS ne_w_r279 nin0))
        have c283_6 := c282_6.keep K283q
        have c283_7 := c282_7.keep K283q
        have c283_8 := c282_8.keep K283q
        have c283_9 := c282_9.keep K283q
        have c283_10 := c282_10.keep K283q
        have c283_11 := own_ins_keep c282_11 K283q
        have c283_12 := own_ins_keep c282_12 K283q
        have c283_13 := own_ins_keep c282_13 K283q
        have c283_14 := own_ins_keep c282_14 K283q
        have c283_15 := c282_15.keep K283q (ninS ne_b238_b275 (ninS ne_b238_r279 nin0))
        have c283_16 := c282_16.keep K283q (ninS ne_b238_b275 (ninS ne_b238_r279 nin0))
        have c283_17 := c282_17.keep K283q (ninS ne_b238_b275 (ninS ne_b238_r279 nin0))
        have c283_18 := c282_18.keep K283q (ninS ne_r241_b275 (ninS ne_r241_r279 nin0))
        have c283_19 := c282_19.keep K283q
        have c283_20 := c282_20.keep K283q
        have c283_21 := own_ins_keep c282_21 K283q
        have c283_26 := Ex282.keep K283q
        have c283_27 := CHr.trans CR282 (CHr.keep K283q (allS (Safe.exa hZ.alike c282_19 (by decide) (by decide)) (allS (own_safe_arv hZ.alike c282_25 (by decide)) all0)) CR282.1)
        have c283_28 : k282 ≤ T283.heap.size := Nat.le_trans hk282 K283q.1
        have c283_29 := own_ins_keep (Ins.of_exa Ex282 (hw _ (own_mem 133 rfl))) K283q
        have nf284 : Fld Z T283.heap b275 "java/util/ArrayList" "size" "I" (.int (2 : Int32)) := xS283
        have nf285 : Fld Z T283.heap b275 "java/util/AbstractList" "modCount" "I" (.int (2 : Int32)) := xM283
        have nl283 : Arv Z T283.heap r279 kr279 (.object "java/lang/Object") (10 : Int32) [(.ref a278), (.ref a282), .null, .null, .null, .null, .null, .null, .null, .null] .null := xV283
        have Z283 : n0 ≤ T283.heap.size := Nat.le_trans Z282 K283q.1
        have K283 := Keep.trans K282 K283q (allS (Or.inr sz_b275) (allS (Or.inr sz_r279) all0))
        refine own_goW (U' := T283.setTop (mkF m 206 #[.val (.int p0), .val (.int p1), .val (.long q2), .second, .val (.int (4 : Int32)), .val (.int y19), .val (.int y36), .val (.ref r234), .val (.ref r235), .val (.ref r236), .val (.ref r237), .val (.ref b238), .val (.ref b275), .unset, .unset] [(.int (1 : Int32))])) (fun _ k => st283.trans k) ?_
        refine own_goW (U' := T283.setTop (mkF m 210 #[.val (.int p0), .val (.int p1), .val (.long q2), .second, .val (.int (4 : Int32)), .val (.int y19), .val (.int y36), .val (.ref r234), .val (.ref r235), .val (.ref r236), .val (.ref r237), .val (.ref b238), .val (.ref b275), .unset, .unset] [(.int (2 : Int32)), (.int y19)])) (fun _ k => XS.pop X283.here hx rfl (hb hby at_206) rfl rfl (XS.iload X283.here hx rfl (hb hby at_207) rfl (XS.iconst X283.here hx rfl (hb hby at_209) k))) ?_
        by_cases hc210_286 : (2 : Int32) < y19
        ·refine own_goW (U' := T283.setTop (mkF m 215 #[.val (.int p0), .val (.int p1), .val (.long q2), .second, .val (.int (4 : Int32)), .val (.int y19), .val (.int y36), .val (.ref r234), .val (.ref r235), .val (.ref r236), .val (.ref r237), .val (.ref b238), .val (.ref b275), .unset, .unset] [(.ref b275)])) (fun _ k => XS.icmpNo X283.here hx rfl (hb hby at_210) rfl (tlt hc210_286).2.2.2 (XS.aload X283.here hx rfl (hb hby at_213) rfl rfl k)) ?_
         obtain ⟨a287, T287, h287, k287, b287, kc287, X287, e287, E287, hS287, hk287, hZ, hown, Ex287, Fc287, Fv287, Vb287, -, -, CH287, -, -, st287⟩ := ldcCH (s := s) (vm0 := T282.vm) X283 hx hZ hown (hw _ (own_mem 199 rfl)) (own_wS hw) rfl hS282 c283_28 (own_EW hw) (by decide) c283_27.1 (z := (1 : Int32)) own_text199 (by decide) rfl (g := (mkF m 215 #[.val (.int p0), .val (.int p1), .val (.long q2), .second, .val (.int (4 : Int32)), .val (.int y19), .val (.int y36), .val (.ref r234), .val (.ref r235), .val (.ref r236), .val (.ref r237), .val (.ref b238), .val (.ref b275), .unset, .unset] [(.ref b275)])) rfl (hb hby at_215) (n := 4) (by decide) (by decide) (by decide) (by decide)
         have c287_0 := c283_0.ext E287
         have c287_1 := c283_1.ext E287
         have c287_2 := c283_2.ext E287
         have c287_3 := c283_3.ext E287
         have c287_4 := c283_4.ext E287
         have c287_5 := c283_5.ext E287
         have c287_6 := c283_6.ext E287
         have c287_7 := c283_7.ext E287
         have c287_8 := c283_8.ext E287
         have c287_9 := c283_9.ext E287
         have c287_10 := c283_10.ext E287
         have c287_11 := c283_11.ext E287
         have c287_12 := c283_12.ext E287
         have c287_13 := c283_13.ext E287
         have c287_14 := c283_14.ext E287
         have c287_15 := c283_15.ext E287
         have c287_16 := c283_16.ext E287
         have c287_17 := c283_17.ext E287
         have c287_18 := c283_18.ext E287
         have c287_19 := xE283.ext E287
         have c287_20 := c283_20.ext E287
         have c287_21 := c283_21.ext E287
         have c287_22 := c283_26.ext E287
         have c287_23 := c283_29.ext E287
         have c287_24 := nf284.ext E287
         have c287_25 := xD283.ext E287
         have c287_26 := nf285.ext E287
         have c287_27 := nl283.ext E287
         have Z287 : n0 ≤ h287.size := Nat.le_trans Z283 E287.1
         have K287 := Keep.ext K283 E287
         have CR287 := CHr.trans c283_27 CH287
         refine own_goW (U' := T287.setTop (mkF m 217 #[.val (.int p0), .val (.int p1), .val (.long q2), .second, .val (.int (4 : Int32)), .val (.int y19), .val (.int y36), .val (.ref r234), .val (.ref r235), .val (.ref r236), .val (.ref r237), .val (.ref b238), .val (.ref b275), .unset, .unset] [(.ref a287), (.ref b275)])) (fun _ k => st287 _ k) ?_
         obtain ⟨cq288, kq288, q288a, q288b, q288c⟩ := isOf hZ e287 c287_19
         obtain ⟨_, _, ⟨T288, L288, k288, n288⟩, -, X288, ⟨Lc288, hQ288, l288, y288, z288⟩, st288⟩ := X287.interfaceBack hx (xi := (⟨"java/util/List", "add", "(Ljava/lang/Object;)Z"⟩ : MethodName)) (y := (⟨"java/util/ArrayList", "add", "(Ljava/lang/Object;)Z"⟩ : MethodName)) hown (mvT hZ (hw _ (own_mem 105 rfl))) (mvT hZ (hw _ (own_mem 106 rfl))) (mvT hZ (hw _ (own_mem 107 rfl))) (mvT hZ (hw _ (own_mem 108 rfl))) (mvT hZ (hw _ (own_mem 109 rfl))) (mvT hZ (hw _ (own_mem 110 rfl))) (mvT hZ (hw _ (own_mem 111 rfl))) (mvT hZ (hw _ (own_mem 95 rfl))) (by decide) (backOf (W := 0) (rm16s l Z aw hw [] b275 a287 r279 kr279 (2 : Int32) (2 : Int32) [(.ref a278), (.ref a282), .null, .null, .null, .null, .null, .null, .null, .null] h287 n0 Z287 (Ins.of_exa Ex287 (hw _ (own_mem 133 rfl))) c287_19 c287_24 c287_25 c287_26 c287_27 (by first | assumption | decide | rfl) (by first | assumption | decide | rfl) (by first | assumption | decide | rfl) (by first | assumption | decide | rfl) (by first | assumption | decide | rfl) (by first | assumption | decide | rfl) (by first | assumption | decide | rfl) (by first | assumption | decide | rfl)) hZ (hw _ (own_mem 112 rfl)) (hw _ (own_mem 37 rfl)) (by decide) (by decide)) q288a q288b q288c (g := (mkF m 217 #[.val (.int p0), .val (.int p1), .val (.long q2), .second, .val (.int (4 : Int32)), .val (.int y19), .val (.int y36), .val (.ref r234), .val (.ref r235), .val (.ref r236), .val (.ref r237), .val (.ref b238), .val (.ref b275), .unset, .unset] [(.ref a287), (.ref b275)])) rfl (by rw [hml]; rfl) (Steps.refl _) (argsL := [(.ref a287)]) (rest := []) (lenOf own_pd15 rfl) rfl (by show 2 * 0 + _ ≤ _; exact Nat.le_of_eq rfl) (hb hby at_217) (fun _ _ => ⟨rfl, e287, (by decide : 18 + 0 ≤ _), (by decide : 74 + 0 ≤ _)⟩)
         dsimp only [Pt.U, Pt.locs, Pt.cells, Pt.slots] at X288 l288 y288 z288 st288 hQ288
         subst l288 y288 z288
         obtain ⟨rfl, N288q, K288q, xE288, xS288, xD288, xM288, xV288⟩ := hQ288
         have N288 := Fr.app N283 N288q
         have ne_a287_b275 : a287 ≠ b275 := Exa.ne Ex287 c287_19 (by decide)
         have ne_a287_r279 : a287 ≠ r279 := Exa.neArv Ex287 c287_27 (hw _ (own_mem 19 rfl))
         have c288_0 := own_sta_keepX c287_0 K288q (allS c287_19.nostat (allS c287_27.nostat all0))
         have c288_1 := own_sta_keepX c287_1 K288q (allS c287_19.nostat (allS c287_27.nostat all0))
         have c288_2 := own_sta_keepX c287_2 K288q (allS c287_19.nostat (allS c287_27.nostat all0))
         have c288_3 := own_sta_keepX c287_3 K288q (allS c287_19.nostat (allS c287_27.nostat all0))
         have c288_4 := own_sta_keepX c287_4 K288q (allS c287_19.nostat (allS c287_27.nostat all0))
         have c288_5 := c287_5.keep K288q (ninS ne_w_b275 (ninS ne_w_r279 nin0))
         have c288_6 := c287_6.keep K288q
         have c288_7 := c287_7.keep K288q
         have c288_8 := c287_8.keep K288q
         have c288_9 := c287_9.keep K288q
         have c288_10 := c287_10.keep K288q
         have c288_11 := own_ins_keep c287_11 K288q
         have c288_12 := own_ins_keep c287_12 K288q
         have c288_13 := own_ins_keep c287_13 K288q
         have c288_14 := own_ins_keep c287_14 K288q
         have c288_15 := c287_15.keep K288q (ninS ne_b238_b275 (ninS ne_b238_r279 nin0))
         have c288_16 := c287_16.keep K288q (ninS ne_b238_b275 (ninS ne_b238_r279 nin0))
         have c288_17 := c287_17.keep K288q (ninS ne_b238_b275 (ninS ne_b238_r279 nin0))
         have c288_18 := c287_18.keep K288q (ninS ne_r241_b275 (ninS ne_r241_r279 nin0))
         have c288_19 := c287_19.keep K288q
         have c288_20 := c287_20.keep K288q
         have c288_21 := own_ins_keep c287_21 K288q
         have c288_22 := c287_22.keep K288q
         have c288_23 := own_ins_keep c287_23 K288q
         have c288_28 := Ex287.keep K288q
         have c288_29 := CHr.trans CR287 (CHr.keep K288q (allS (Safe.exa hZ.alike c287_19 (by decide) (by decide)) (allS (own_safe_arv hZ.alike c287_27 (by decide)) all0)) CR287.1)
         have c288_30 : k287 ≤ T288.heap.size := Nat.le_trans hk287 K288q.1
         have c288_31 := own_ins_keep (Ins.of_exa Ex287 (hw _ (own_mem 133 rfl))) K288q
         have nf289 : Fld Z T288.heap b275 "java/util/ArrayList" "size" "I" (.int (3 : Int32)) := xS288
         have nf290 : Fld Z T288.heap b275 "java/util/AbstractList" "modCount" "I" (.int (3 : Int32)) := xM288
         have nl288 : Arv Z T288.heap r279 kr279 (.object "java/lang/Object") (10 : Int32) [(.ref a278), (.ref a282), (.ref a287), .null, .null, .null, .null, .null, .null, .null] .null := xV288
         have Z288 : n0 ≤ T288.heap.size := Nat.le_trans Z287 K288q.1
         have K288 := Keep.trans K287 K288q (allS (Or.inr sz_b275) (allS (Or.inr sz_r279) all0))
         refine own_goW (U' := T288.setTop (mkF m 222 #[.val (.int p0), .val (.int p1), .val (.long q2), .second, .val (.int (4 : Int32)), .val (.int y19), .val (.int y36), .val (.ref r234), .val (.ref r235), .val (.ref r236), .val (.ref r237), .val (.ref b238), .val (.ref b275), .unset, .unset] [(.int (1 : Int32))])) (fun _ k => st288.trans k) ?_
         refine own_goW (U' := T288.setTop (mkF m 226 #[.val (.int p0), .val (.int p1), .val (.long q2), .second, .val (.int (4 : Int32)), .val (.int y19), .val (.int y36), .val (.ref r234), .val (.ref r235), .val (.ref r236), .val (.ref r237), .val (.ref b238), .val (.ref b275), .unset, .unset] [(.int (3 : Int32)), (.int y19)])) (fun _ k => XS.pop X288.here hx rfl (hb hby at_222) rfl rfl (XS.iload X288.here hx rfl (hb hby at_223) rfl (XS.iconst X288.here hx rfl (hb hby at_225) k))) ?_
         by_cases hc226_291 : (3 : Int32) < y19
         ·refine own_goW (U' := T288.setTop (mkF m 231 #[.val (.int p0), .val (.int p1), .val (.long q2), .second, .val (.int (4 : Int32)), .val (.int y19), .val (.int y36), .val (.ref r234), .val (.ref r235), .val (.ref r236), .val (.ref r237), .val (.ref b238), .val (.ref b275), .unset, .unset] [(.ref b275)])) (fun _ k => XS.icmpNo X288.here hx rfl (hb hby at_226) rfl (tlt hc226_291).2.2.2 (XS.aload X288.here hx rfl (hb hby at_229) rfl rfl k)) ?_
          obtain ⟨a292, T292, h292, k292, b292, kc292, X292, e292, E292, hS292, hk292, hZ, hown, Ex292, Fc292, Fv292, Vb292, -, -, CH292, -, -, st292⟩ := ldcCH (s := s) (vm0 := T287.vm) X288 hx hZ hown (hw _ (own_mem 200 rfl)) (own_wS hw) rfl hS287 c288_30 (own_EW hw) (by decide) c288_29.1 (z := (1 : Int32)) own_text200 (by decide) rfl (g := (mkF m 231 #[.val (.int p0), .val (.int p1), .val (.long q2), .second, .val (.int (4 : Int32)), .val (.int y19), .val (.int y36), .val (.ref r234), .val (.ref r235), .val (.ref r236), .val (.ref r237), .val (.ref b238), .val (.ref b275), .unset, .unset] [(.ref b275)])) rfl (hb hby at_231) (n := 4) (by decide) (by decide) (by decide) (by decide)
          have c292_0 := c288_0.ext E292
          have c292_1 := c288_1.ext E292
          have c292_2 := c288_2.ext E292
          have c292_3 := c288_3.ext E292
          have c292_4 := c288_4.ext E292
          have c292_5 := c288_5.ext E292
          have c292_6 := c288_6.ext E292
          have c292_7 := c288_7.ext E292
          have c292_8 := c288_8.ext E292
          have c292_9 := c288_9.ext E292
          have c292_10 := c288_10.ext E292
          have c292_11 := c288_11.ext E292
          have c292_12 := c288_12.ext E292
          have c292_13 := c288_13.ext E292
          have c292_14 := c288_14.ext E292
          have c292_15 := c288_15.ext E292
          have c292_16 := c288_16.ext E292
          have c292_17 := c288_17.ext E292
          have c292_18 := c288_18.ext E292
          have c292_19 := xE288.ext E292
          have c292_20 := c288_20.ext E292
          have c292_21 := c288_21.ext E292
          have c292_22 := c288_22.ext E292
          have c292_23 := c288_23.ext E292
          have c292_24 := c288_28.ext E292
          have c292_25 := c288_31.ext E292
          have c292_26 := nf289.ext E292
          have c292_27 := xD288.ext E292
          have c292_28 := nf290.ext E292
          have c292_29 := nl288.ext E292
          have Z292 : n0 ≤ h292.size := Nat.le_trans Z288 E292.1
          have K292 := Keep.ext K288 E292
          have CR292 := CHr.trans c288_29 CH292
          refine own_goW (U' := T292.setTop (mkF m 233 #[.val (.int p0), .val (.int p1), .val (.long q2), .second, .val (.int (4 : Int32)), .val (.int y19), .val (.int y36), .val (.ref r234), .val (.ref r235), .val (.ref r236), .val (.ref r237), .val (.ref b238), .val (.ref b275), .unset, .unset] [(.ref a292), (.ref b275)])) (fun _ k => st292 _ k) ?_
          obtain ⟨cq293, kq293, q293a, q293b, q293c⟩ := isOf hZ e292 c292_19
          obtain ⟨_, _, ⟨T293, L293, k293, n293⟩, -, X293, ⟨Lc293, hQ293, l293, y293, z293⟩, st293⟩ := X292.interfaceBack hx (xi := (⟨"java/util/List", "add", "(Ljava/lang/Object;)Z"⟩ : MethodName)) (y := (⟨"java/util/ArrayList", "add", "(Ljava/lang/Object;)Z"⟩ : MethodName)) hown (mvT hZ (hw _ (own_mem 105 rfl))) (mvT hZ (hw _ (own_mem 106 rfl))) (mvT hZ (hw _ (own_mem 107 rfl))) (mvT hZ (hw _ (own_mem 108 rfl))) (mvT hZ (hw _ (own_mem 109 rfl))) (mvT hZ (hw _ (own_mem 110 rfl))) (mvT hZ (hw _ (own_mem 111 rfl))) (mvT hZ (hw _ (own_mem 95 rfl))) (by decide) (backOf (W := 0) (rm16s l Z aw hw [] b275 a292 r279 kr279 (3 : Int32) (3 : Int32) [(.ref a278), (.ref a282), (.ref a287), .null, .null, .null, .null, .null, .null, .null] h292 n0 Z292 (Ins.of_exa Ex292 (hw _ (own_mem 133 rfl))) c292_19 c292_26 c292_27 c292_28 c292_29 (by first | assumption | decide | rfl) (by first | assumption | decide | rfl) (by first | assumption | decide | rfl) (by first | assumption | decide | rfl) (by first | assumption | decide | rfl) (by first | assumption | decide | rfl) (by first | assumption | decide | rfl) (by first | assumption | decide | rfl)) hZ (hw _ (own_mem 112 rfl)) (hw _ (own_mem 37 rfl)) (by decide) (by decide)) q293a q293b q293c (g := (mkF m 233 #[.val (.int p0), .val (.int p1), .val (.long q2), .second, .val (.int (4 : Int32)), .val (.int y19), .val (.int y36), .val (.ref r234), .val (.ref r235), .val (.ref r236), .val (.ref r237), .val (.ref b238), .val (.ref b275), .unset, .unset] [(.ref a292), (.ref b275)])) rfl (by rw [hml]; rfl) (Steps.refl _) (argsL := [(.ref a292)]) (rest := []) (lenOf own_pd15 rfl) rfl (by show 2 * 0 + _ ≤ _; exact Nat.le_of_eq rfl) (hb hby at_233) (fun _ _ => ⟨rfl, e292, (by decide : 20 + 0 ≤ _), (by decide : 82 + 0 ≤ _)⟩)
          dsimp only [Pt.U, Pt.locs, Pt.cells, Pt.slots] at X293 l293 y293 z293 st293 hQ293
          subst l293 y293 z293
          obtain ⟨rfl, N293q, K293q, xE293, xS293, xD293, xM293, xV293⟩ := hQ293
          have N293 := Fr.app N288 N293q
          have ne_a292_b275 : a292 ≠ b275 := Exa.ne Ex292 c292_19 (by decide)
          have ne_a292_r279 : a292 ≠ r279 := Exa.neArv Ex292 c292_29 (hw _ (own_mem 19 rfl))
          have c293_0 := own_sta_keepX c292_0 K293q (allS c292_19.nostat (allS c292_29.nostat all0))
          have c293_1 := own_sta_keepX c292_1 K293q (allS c292_19.nostat (allS c292_29.nostat all0))
          have c293_2 := own_sta_keepX c292_2 K293q (allS c292_19.nostat (allS c292_29.nostat all0))
          have c293_3 := own_sta_keepX c292_3 K293q (allS c292_19.nostat (allS c292_29.nostat all0))
          have c293_4 := own_sta_keepX c292_4 K293q (allS c292_19.nostat (allS c292_29.nostat all0))
          have c293_5 := c292_5.keep K293q (ninS ne_w_b275 (ninS ne_w_r279 nin0))
          have c293_6 := c292_6.keep K293q
          have c293_7 := c292_7.keep K293q
          have c293_8 := c292_8.keep K293q
          have c293_9 := c292_9.keep K293q
          have c293_10 := c292_10.keep K293q
          have c293_11 := own_ins_keep c292_11 K293q
          have c293_12 := own_ins_keep c292_12 K293q
          have c293_13 := own_ins_keep c292_13 K293q
          have c293_14 := own_ins_keep c292_14 K293q
          have c293_15 := c292_15.keep K293q (ninS ne_b238_b275 (ninS ne_b238_r279 nin0))
          have c293_16 := c292_16.keep K293q (ninS ne_b238_b275 (ninS ne_b238_r279 nin0))
          have c293_17 := c292_17.keep K293q (ninS ne_b238_b275 (ninS ne_b238_r279 nin0))
          have c293_18 := c292_18.keep K293q (ninS ne_r241_b275 (ninS ne_r241_r279 nin0))
          have c293_19 := c292_19.keep K293q
          have c293_20 := c292_20.keep K293q
          have c293_21 := own_ins_keep c292_21 K293q
          have c293_22 := c292_22.keep K293q
          have c293_23 := own_ins_keep c292_23 K293q
          have c293_24 := c292_24.keep K293q
          have c293_25 := own_ins_keep c292_25 K293q
          have c293_30 := Ex292.keep K293q
          have c293_31 := CHr.trans CR292 (CHr.keep K293q (allS (Safe.exa hZ.alike c292_19 (by decide) (by decide)) (allS (own_safe_arv hZ.alike c292_29 (by decide)) all0)) CR292.1)
          have c293_32 : k292 ≤ T293.heap.size := Nat.le_trans hk292 K293q.1
          have c293_33 := own_ins_keep (Ins.of_exa Ex292 (hw _ (own_mem 133 rfl))) K293q
          have nf294 : Fld Z T293.heap b275 "java/util/ArrayList" "size" "I" (.int (4 : Int32)) := xS293
          have nf295 : Fld Z T293.heap b275 "java/util/AbstractList" "modCount" "I" (.int (4 : Int32)) := xM293
          have nl293 : Arv Z T293.heap r279 kr279 (.object "java/lang/Object") (10 : Int32) [(.ref a278), (.ref a282), (.ref a287), (.ref a292), .null, .null, .null, .null, .null, .null] .null := xV293
          have Z293 : n0 ≤ T293.heap.size := Nat.le_trans Z292 K293q.1
          have K293 := Keep.trans K292 K293q (allS (Or.inr sz_b275) (allS (Or.inr sz_r279) all0))
          refine own_goW (U' := T293.setTop (mkF m 238 #[.val (.int p0), .val (.int p1), .val (.long q2), .second, .val (.int (4 : Int32)), .val (.int y19), .val (.int y36), .val (.ref r234), .val (.ref r235), .val (.ref r236), .val (.ref r237), .val (.ref b238), .val (.ref b275), .unset, .unset] [(.int (1 : Int32))])) (fun _ k => st293.trans k) ?_
          refine own_goW (U' := T293.setTop (mkF m 239 #[.val (.int p0), .val (.int p1), .val (.long q2), .second, .val (.int (4 : Int32)), .val (.int y19), .val (.int y36), .val (.ref r234), .val (.ref r235), .val (.ref r236), .val (.ref r237), .val (.ref b238), .val (.ref b275), .unset, .unset] [])) (fun _ k => XS.pop X293.here hx rfl (hb hby at_238) rfl rfl k) ?_
          have hrq : y19 = (4 : Int32) := own_eqk (a := (3 : Int32)) (b := (4 : Int32)) (by decide) hc226_291 hp1
          have fq : Fld Z T293.heap b275 "java/util/ArrayList" "size" "I" (.int y19) := by rw [hrq]; exact nf294
          exact tail _ _ _ _ (own_weak X293 (by decide) (by decide)) _ rfl hS292 hZ hown c293_31 c293_32 N293 Z293 K293 _ c293_10 c293_15 c293_16 c293_17 c293_18 c293_6 c293_7 c293_8 c293_9 xE293 fq
         ·refine own_goW (U' := T288.setTop (mkF m 239 #[.val (.int p0), .val (.int p1), .val (.long q2), .second, .val (.int (4 : Int32)), .val (.int y19), .val (.int y36), .val (.ref r234), .val (.ref r235), .val (.ref r236), .val (.ref r237), .val (.ref b238), .val (.ref b275), .unset, .unset] [])) (fun _ k => XS.icmpYes X288.here hx rfl (pc0 := 226) (pc' := 239) rfl (hb hby at_226) rfl (flt hc226_291).2.2.2 (by decide) (by decide) k) ?_
          have hrq : y19 = (3 : Int32) := own_eqk (a := (2 : Int32)) (b := (3 : Int32)) (by decide) hc210_286 hc226_291
          have fq : Fld Z T288.heap b275 "java/util/ArrayList" "size" "I" (.int y19) := by rw [hrq]; exact nf289
          exact tail _ _ _ _ (own_weak X288 (by decide) (by decide)) _ rfl hS287 hZ hown c288_29 c288_30 N288 Z288 K288 _ c288_10 c288_15 c288_16 c288_17 c288_18 c288_6 c288_7 c288_8 c288_9 xE288 fq
        ·refine own_goW (U' := T283.setTop (mkF m 226 #[.val (.int p0), .val (.int p1), .val (.long q2), .second, .val (.int (4 : Int32)), .val (.int y19), .val (.int y36), .val (.ref r234), .val (.ref r235), .val (.ref r236), .val (.ref r237), .val (.ref b238), .val (.ref b275), .unset, .unset] [(.int (3 : Int32)), (.int y19)])) (fun _ k => XS.icmpYes X283.here hx rfl (pc0 := 210) (pc' := 223) rfl (hb hby at_210) rfl (flt hc210_286).2.2.2 (by decide) (by decide) (XS.iload X283.here hx rfl (hb hby at_223) rfl (XS.iconst X283.here hx rfl (hb hby at_225) k))) ?_
         have hc226_296 : ¬ ((3 : Int32) < y19) := own_nlt hc210_286 (by decide)
         refine own_goW (U' := T283.setTop (mkF m 239 #[.val (.int p0), .val (.int p1), .val (.long q2), .second, .val (.int (4 : Int32)), .val (.int y19), .val (.int y36), .val (.ref r234), .val (.ref r235), .val (.ref r236), .val (.ref r237), .val (.ref b238), .val (.ref b275), .unset, .unset] [])) (fun _ k => XS.icmpYes X283.here hx rfl (pc0 := 226) (pc' := 239) rfl (hb hby at_226) rfl (flt hc226_296).2.2.2 (by decide) (by decide) k) ?_
         have hrq : y19 = (2 : Int32) := own_eqk (a := (1 : Int32)) (b := (2 : Int32)) (by decide) hc194_281 hc210_286
         have fq : Fld Z T283.heap b275 "java/util/ArrayList" "size" "I" (.int y19) := by rw [hrq]; exact nf284
         exact tail _ _ _ _ (own_weak X283 (by decide) (by decide)) _ rfl hS282 hZ hown c283_27 c283_28 N283 Z283 K283 _ c283_10 c283_15 c283_16 c283_17 c283_18 c283_6 c283_7 c283_8 c283_9 xE283 fq
       ·refine own_goW (U' := T279.setTop (mkF m 210 #[.val (.int p0), .val (.int p1), .val (.long q2), .second, .val (.int (4 : Int32)), .val (.int y19), .val (.int y36), .val (.ref r234), .val (.ref r235), .val (.ref r236), .val (.ref r237), .val (.ref b238), .val (.ref b275), .unset, .unset] [(.int (2 : Int32)), (.int y19)])) (fun _ k => XS.icmpYes X279.here hx rfl (pc0 := 194) (pc' := 207) rfl (hb hby at_194) rfl (flt hc194_281).2.2.2 (by decide) (by decide) (XS.iload X279.here hx rfl (hb hby at_207) rfl (XS.iconst X279.here hx rfl (hb hby at_209) k))) ?_
        have hc210_297 : ¬ ((2 : Int32) < y19) := own_nlt hc194_281 (by decide)
        refine own_goW (U' := T279.setTop (mkF m 226 #[.val (.int p0), .val (.int p1), .val (.long q2), .second, .val (.int (4 : Int32)), .val (.int y19), .val (.int y36), .val (.ref r234), .val (.ref r235), .val (.ref r236), .val (.ref r237), .val (.ref b238), .val (.ref b275), .unset, .unset] [(.int (3 : Int32)), (.int y19)])) (fun _ k => XS.icmpYes X279.here hx rfl (pc0 := 210) (pc' := 223) rfl (hb hby at_210) rfl (flt hc210_297).2.2.2 (by decide) (by decide) (XS.iload X279.here hx rfl (hb hby at_223) rfl (XS.iconst X279.here hx rfl (hb hby at_225) k))) ?_
        have hc226_298 : ¬ ((3 : Int32) < y19) := own_nlt hc194_281 (by decide)
        refine own_goW (U' := T279.setTop (mkF m 239 #[.val (.int p0), .val (.int p1), .val (.long q2), .second, .val (.int (4 : Int32)), .val (.int y19), .val (.int y36), .val (.ref r234), .val (.ref r235), .val (.ref r236), .val (.ref r237), .val (.ref b238), .val (.ref b275), .unset, .unset] [])) (fun _ k => XS.icmpYes X279.here hx rfl (pc0 := 226) (pc' := 239) rfl (hb hby at_226) rfl (flt hc226_298).2.2.2 (by decide) (by decide) k) ?_
        have hrq : y19 = (1 : Int32) := own_eqk (a := (0 : Int32)) (b := (1 : Int32)) (by decide) hc178_277 hc194_281
        have fq : Fld Z T279.heap b275 "java/util/ArrayList" "size" "I" (.int y19) := by rw [hrq]; exact xS279
        exact tail _ _ _ _ (own_weak X279 (by decide) (by decide)) _ rfl hS278 hZ hown c279_24 c279_25 N279 Z279 K279 _ c279_10 c279_15 c279_16 c279_17 c279_18 c279_6 c279_7 c279_8 c279_9 xE279 fq
      ·refine own_goW (U' := T276.setTop (mkF m 194 #[.val (.int p0), .val (.int p1), .val (.long q2), .second, .val (.int (4 : Int32)), .val (.int y19), .val (.int y36), .val (.ref r234), .val (.ref r235), .val (.ref r236), .val (.ref r237), .val (.ref b238), .val (.ref b275), .unset, .unset] [(.int (1 : Int32)), (.int y19)])) (fun _ k => XS.ifYes X276.here hx rfl (pc0 := 178) (pc' := 191) rfl (hb hby at_178) rfl ((if0 _ _).trans (flt hc178_277).2.2.2) (by decide) (by decide) (XS.iload X276.here hx rfl (hb hby at_191) rfl (XS.iconst X276.here hx rfl (hb hby at_193) k))) ?_
       have hc194_299 : ¬ ((1 : Int32) < y19) := own_nlt hc178_277 (by decide)
       refine own_goW (U' := T276.setTop (mkF m 210 #[.val (.int p0), .val (.int p1), .val (.long q2), .second, .val (.int (4 : Int32)), .val (.int y19), .val (.int y36), .val (.ref r234), .val (.ref r235), .val (.ref r236), .val (.ref r237), .val (.ref b238), .val (.ref b275), .unset, .unset] [(.int (2 : Int32)), (.int y19)])) (fun _ k => XS.icmpYes X276.here hx rfl (pc0 := 194) (pc' := 207) rfl (hb hby at_194) rfl (flt hc194_299).2.2.2 (by decide) (by decide) (XS.iload X276.here hx rfl (hb hby at_207) rfl (XS.iconst X276.here hx rfl (hb hby at_209) k))) ?_
       have hc210_300 : ¬ ((2 : Int32) < y19) := own_nlt hc178_277 (by decide)
       refine own_goW (U' := T276.setTop (mkF m 226 #[.val (.int p0), .val (.int p1), .val (.long q2), .second, .val (.int (4 : Int32)), .val (.int y19), .val (.int y36), .val (.ref r234), .val (.ref r235), .val (.ref r236), .val (.ref r237), .val (.ref b238), .val (.ref b275), .unset, .unset] [(.int (3 : Int32)), (.int y19)])) (fun _ k => XS.icmpYes X276.here hx rfl (pc0 := 210) (pc' := 223) rfl (hb hby at_210) rfl (flt hc210_300).2.2.2 (by decide) (by decide) (XS.iload X276.here hx rfl (hb hby at_223) rfl (XS.iconst X276.here hx rfl (hb hby at_225) k))) ?_
       have hc226_301 : ¬ ((3 : Int32) < y19) := own_nlt hc178_277 (by decide)
       refine own_goW (U' := T276.setTop (mkF m 239 #[.val (.int p0), .val (.int p1), .val (.long q2), .second, .val (.int (4 : Int32)), .val (.int y19), .val (.int y36), .val (.ref r234), .val (.ref r235), .val (.ref r236), .val (.ref r237), .val (.ref b238), .val (.ref b275), .unset, .unset] [])) (fun _ k => XS.icmpYes X276.here hx rfl (pc0 := 226) (pc' := 239) rfl (hb hby at_226) rfl (flt hc226_301).2.2.2 (by decide) (by decide) k) ?_
       have hrq : y19 = (0 : Int32) := own_eq0 hr0 hc178_277
       have fq : Fld Z T276.heap b275 "java/util/ArrayList" "size" "I" (.int y19) := by rw [hrq]; exact xS276
       exact tail _ _ _ _ (own_weak X276 (by decide) (by decide)) _ rfl hS0 hZ hown c276_6 c276_7 N276 Z276 K276 _ c276_12 c276_17 c276_18 c276_19 c276_20 c276_8 c276_9 c276_10 c276_11 xE276 fq
     ·refine own_goW (U' := T248.setTop (mkF m 167 #[.val (.int p0), .val (.int p1), .val (.long q2), .second, .val (.int y6), .val (.int y19), .val (.int y36), .val (.ref r234), .val (.ref r235), .val (.ref r236), .val (.ref r237), .val (.ref b238), .unset, .unset, .unset] [])) (fun _ k => XS.icmpYes X248.here hx rfl (pc0 := 154) (pc' := 167) rfl (hb hby at_154) rfl (flt hc154_251).2.2.2 (by decide) (by decide) k) ?_
      obtain rfl : y6 = (3 : Int32) := own_eqk (a := (2 : Int32)) (b := (3 : Int32)) (by decide) hc138_247 hc154_251
      have hmr := own_min (by decide) hy19
      have hp1 := own_p1 hmr
      have hp2 := own_p2 hmr hy36
      have hr0 := own_r0 hmr
      have tail : ∀ (vm_ : Vm) (T_ : State) (l_ : List Loc) (k_ : Nat) (X_ : Stand p l e room_1 (s.setVm vm_) m #[(.int p0), (.int p1), (.long q2)] below meth c T_ l_ 24 160) (h_ : Heap) (e_ : T_.heap = h_) (hS_ : s.Since vm_ k_) (hZ : Z.Warmed39 (s.setVm vm_).vm) (hown : (s.setVm vm_).vm.findClass "com/example/hashtory/hashtory/ArgumentsPositionalsPinLaw" = some m.cls) (CR_ : CHr Z own_EL s.vm h0 vm_ h_) (Sz_ : k_ ≤ h_.size) (N_ : Fr n0 l_) (Z_ : n0 ≤ h_.size) (KP_ : Keep T237.heap h_ []) (req : Addr) (t_0 : Exa Z h_ b238 "java/util/ArrayList") (t_1 : Fld Z h_ b238 "java/util/ArrayList" "size" "I" (.int (3 : Int32))) (t_2 : Fld Z h_ b238 "java/util/ArrayList" "elementData" "[Ljava/lang/Object;" (.ref r241)) (t_3 : Fld Z h_ b238 "java/util/AbstractList" "modCount" "I" (.int (3 : Int32))) (t_4 : Arv Z h_ r241 kr241 (.object "java/lang/Object") (10 : Int32) [(.ref r234), (.ref r235), (.ref r236), .null, .null, .null, .null, .null, .null, .null] .null) (t_5 : Exa Z h_ r234 "java/lang/String") (t_6 : Exa Z h_ r235 "java/lang/String") (t_7 : Exa Z h_ r236 "java/lang/String") (t_8 : Exa Z h_ r237 "java/lang/String") (q_0 : Exa Z h_ req "java/util/ArrayList") (q_1 : Fld Z h_ req "java/util/ArrayList" "size" "I" (.int y19)), own_DoneW p e below s Z own_EL (Q0 Z p0 p1 q2 cs w k0 h0 n0) room_1.cells room_1.slots (T_.setTop (mkF m 239 #[.val (.int p0), .val (.int p1), .val (.long q2), .second, .val (.int (3 : Int32)), .val (.int y19), .val (.int y36), .val (.ref r234), .val (.ref r235), .val (.ref r236), .val (.ref r237), .val (.ref b238), .val (.ref req), .unset, .unset] [])) := by
       intro vm_ T_ l_ k_ X_ h_ e_ hS_ hZ hown CR_ Sz_ N_ Z_ KP_ req t_0 t_1 t_2 t_3 t_4 t_5 t_6 t_7 t_8 q_0 q_1
       have sb_0 := own_sta_keep c237_0 KP_
       have sb_1 := own_sta_keep c237_1 KP_
       have sb_2 := own_sta_keep c237_2 KP_
       have sb_3 := own_sta_keep c237_3 KP_
       have sb_4 := own_sta_keep c237_4 KP_
       have vb_ := c237_5.keep KP_ nin0
       obtain ⟨T302, h302, X302, e302, E302, A302, D302, -, st302⟩ := newO X_ hx hZ hown (hw _ (own_mem 59 rfl)) (hw _ (own_mem 60 rfl)) (hw _ (own_mem 61 rfl)) e_ (g := (mkF m 239 #[.val (.int p0), .val (.int p1), .val (.long q2), .second, .val (.int (3 : Int32)), .val (.int y19), .val (.int y36), .val (.ref r234), .val (.ref r235), .val (.ref r236), .val (.ref r237), .val (.ref b238), .val (.ref req), .unset, .unset] [])) rfl (hb hby at_239) (by decide) (by decide)
       obtain ⟨b302, g302⟩ : ∃ z, z = h_.size := ⟨_, rfl⟩
       have g_b302 : n0 ≤ b302 := Nat.le_trans Z_ (Nat.le_of_eq g302.symm)
       have sz_b302 : T237.heap.size ≤ b302 := Nat.le_trans KP_.1 (Nat.le_of_eq g302.symm)
       have ne_b238_b302 : b238 ≠ b302 := Nat.ne_of_lt (Nat.lt_of_lt_of_le t_0.lt (Nat.le_of_eq g302.symm))
       have ne_r241_b302 : r241 ≠ b302 := Nat.ne_of_lt (Nat.lt_of_lt_of_le t_4.lt (Nat.le_of_eq g302.symm))
       have ne_r234_b302 : r234 ≠ b302 := Nat.ne_of_lt (Nat.lt_of_lt_of_le t_5.lt (Nat.le_of_eq g302.symm))
       have ne_r235_b302 : r235 ≠ b302 := Nat.ne_of_lt (Nat.lt_of_lt_of_le t_6.lt (Nat.le_of_eq g302.symm))
       have ne_r236_b302 : r236 ≠ b302 := Nat.ne_of_lt (Nat.lt_of_lt_of_le t_7.lt (Nat.le_of_eq g302.symm))
       have ne_r237_b302 : r237 ≠ b302 := Nat.ne_of_lt (Nat.lt_of_lt_of_le t_8.lt (Nat.le_of_eq g302.symm))
       have ne_req_b302 : req ≠ b302 := Nat.ne_of_lt (Nat.lt_of_lt_of_le q_0.lt (Nat.le_of_eq g302.symm))
       have ne_w_b302 : w ≠ b302 := Nat.ne_of_lt (Nat.lt_of_lt_of_le vb_.lt (Nat.le_of_eq g302.symm))
       rw [← g302] at A302 D302 st302
       have c302_0 := t_0.ext E302
       have c302_1 := t_1.ext E302
       have c302_2 := t_2.ext E302
       have c302_3 := t_3.ext E302
       have c302_4 := t_4.ext E302
       have c302_5 := t_5.ext E302
       have c302_6 := t_6.ext E302
       have c302_7 := t_7.ext E302
       have c302_8 := t_8.ext E302
       have c302_9 := q_0.ext E302
       have c302_10 := q_1.ext E302
       have c302_11 := CHr.trans CR_ (CHr.ext E302 CR_.1)
       have c302_12 : k_ ≤ h302.size := Nat.le_trans Sz_ E302.1
       have c302_13 := sb_0.ext E302
       have c302_14 := sb_1.ext E302
       have c302_15 := sb_2.ext E302
       have c302_16 := sb_3.ext E302
       have c302_17 := sb_4.ext E302
       have c302_18 := vb_.ext E302
       have Z302 : n0 ≤ h302.size := Nat.le_trans Z_ E302.1
       have K302 := Keep.ext KP_ E302
       have F302_69 : Fld Z h302 b302 "com/example/hashtory/hashtory/Arguments" "positionals" "Ljava/util/List;" .null := D302 (Or.inr (hw _ (own_mem 69 rfl))) (ty := (.object "java/util/List")) (by decide)
       have F302_87 : Fld Z h302 b302 "com/example/hashtory/hashtory/Arguments" "options" "Ljava/util/Map;" .null := D302 (Or.inr (hw _ (own_mem 87 rfl))) (ty := (.object "java/util/Map")) (by decide)
       refine own_goW (U' := T302.setTop (mkF m 242 #[.val (.int p0), .val (.int p1), .val (.long q2), .second, .val (.int (3 : Int32)), .val (.int y19), .val (.int y36), .val (.ref r234), .val (.ref r235), .val (.ref r236), .val (.ref r237), .val (.ref b238), .val (.ref req), .unset, .unset] [(.ref b302)])) (fun _ k => st302 _ k) ?_
       refine own_goW (U' := T302.setTop (mkF m 246 #[.val (.int p0), .val (.int p1), .val (.long q2), .second, .val (.int (3 : Int32)), .val (.int y19), .val (.int y36), .val (.ref r234), .val (.ref r235), .val (.ref r236), .val (.ref r237), .val (.ref b238), .val (.ref req), .unset, .unset] [.null, (.ref b238), (.ref b302), (.ref b302)])) (fun _ k => XS.dup X302.here hx rfl (hb hby at_242) rfl rfl (XS.aload X302.here hx rfl (hb hby at_243) rfl rfl (XS.aconstNull X302.here hx rfl (hb hby at_245) k))) ?_
       have hO303 : own_S Z h302 r234 := own_S.keep c237_9 K302
       have hO304 : own_S Z h302 r235 := own_S.keep c237_11 K302
       have hO305 : own_S Z h302 r236 := own_S.keep c237_13 K302
       obtain ⟨_, _, ⟨T306, L306, k306, n306⟩, -, X306, hS306, hg306, ⟨Lc306, hQ306, l306, y306, z306, C306⟩, st306⟩ := X302.specialBackS hx (y := (⟨"com/example/hashtory/hashtory/Arguments", "<init>", "(Ljava/util/List;Ljava/util/Set;)V"⟩ : MethodName)) rfl hown (mvT hZ (hw _ (own_mem 62 rfl))) (mvT hZ (hw _ (own_mem 63 rfl))) (mvT hZ (hw _ (own_mem 64 rfl))) (by decide) (backOfSH (s := s) (vm0 := vm_) (W := 1) (rm11_3 l Z aw hw [] b302 b238 cs w k0 r241 kr241 r234 r235 r236 h302 n0 Z302 A302 F302_69 F302_87 c302_13 c302_17 c302_18 c302_0 c302_1 c302_2 c302_4 c302_5 c302_6 c302_7 (by first | assumption | decide | rfl) (by first | assumption | decide | rfl) (by first | assumption | decide | rfl) (by first | assumption | decide | rfl) (by first | assumption | decide | rfl)) hZ (hw _ (own_mem 64 rfl)) (hw _ (own_mem 61 rfl)) (by decide) (by decide) (own_EW hw) c302_11.1) (g := (mkF m 246 #[.val (.int p0), .val (.int p1), .val (.long q2), .second, .val (.int (3 : Int32)), .val (.int y19), .val (.int y36), .val (.ref r234), .val (.ref r235), .val (.ref r236), .val (.ref r237), .val (.ref b238), .val (.ref req), .unset, .unset] [.null, (.ref b238), (.ref b302), (.ref b302)])) rfl (by rw [hml]; rfl) (Steps.refl _) (a := b302) (argsL := [(.ref b238), .null]) (rest := [(.ref b302)]) (lenOf own_pd17 rfl) rfl (by show 2 * 0 + _ ≤ _; exact Nat.le_of_eq rfl) (hb hby at_246) (fun _ _ => ⟨rfl, e302, (by decide : 25 + 9 ≤ _), (by decide : 162 + 57 ≤ _)⟩)
       dsimp only [Pt.U, Pt.locs, Pt.cells, Pt.slots] at X306 hS306 hg306 l306 y306 z306 C306 st306 hQ306
       subst l306 y306 z306
       obtain ⟨X306, hS306, hZ, hown⟩ := rebS hS_ (by rw [show T302.heap = h302 from e302]; exact c302_12) X306 hS306 hg306 hZ hown
       obtain ⟨rfl, N306q, K306q, xE306, pl306, spl306, xP306, xL306, xS306, pa306, kp306, xD306, xV306⟩ := hQ306
       have N306 := Fr.app N_ N306q
       have ne_b238_pl306 : b238 ≠ pl306 := Nat.ne_of_lt (Nat.lt_of_lt_of_le c302_0.lt spl306)
       have ne_r241_pl306 : r241 ≠ pl306 := Nat.ne_of_lt (Nat.lt_of_lt_of_le c302_4.lt spl306)
       have ne_r234_pl306 : r234 ≠ pl306 := Nat.ne_of_lt (Nat.lt_of_lt_of_le c302_5.lt spl306)
       have ne_r235_pl306 : r235 ≠ pl306 := Nat.ne_of_lt (Nat.lt_of_lt_of_le c302_6.lt spl306)
       have ne_r236_pl306 : r236 ≠ pl306 := Nat.ne_of_lt (Nat.lt_of_lt_of_le c302_7.lt spl306)
       have ne_r237_pl306 : r237 ≠ pl306 := Nat.ne_of_lt (Nat.lt_of_lt_of_le c302_8.lt spl306)
       have ne_req_pl306 : req ≠ pl306 := Nat.ne_of_lt (Nat.lt_of_lt_of_le c302_9.lt spl306)
       have ne_w_pl306 : w ≠ pl306 := Nat.ne_of_lt (Nat.lt_of_lt_of_le c302_18.lt spl306)
       have ne_b302_pl306 : b302 ≠ pl306 := Nat.ne_of_lt (Nat.lt_of_lt_of_le A302.lt spl306)
       have g_pl306 : n0 ≤ pl306 := Nat.le_trans Z302 spl306
       have sz_pl306 : T237.heap.size ≤ pl306 := Nat.le_trans K302.1 spl306
       have c306_0 := c302_0.keep K306q
       have c306_1 := c302_1.keep K306q (ninS ne_b238_b302 nin0)
       have c306_2 := c302_2.keep K306q (ninS ne_b238_b302 nin0)
       have c306_3 := c302_3.keep K306q (ninS ne_b238_b302 nin0)
       have c306_4 := c302_4.keep K306q (ninS ne_r241_b302 nin0)
       have c306_5 := c302_5.keep K306q
       have c306_6 := c302_6.keep K306q
       have c306_7 := c302_7.keep K306q
       have c306_8 := c302_8.keep K306q
       have c306_9 := c302_9.keep K306q
       have c306_10 := c302_10.keep K306q (ninS ne_req_b302 nin0)
       have c306_11 := own_sta_keepX c302_13 K306q (allS A302.nostat all0)
       have c306_12 := own_sta_keepX c302_14 K306q (allS A302.nostat all0)
       have c306_13 := own_sta_keepX c302_15 K306q (allS A302.nostat all0)
       have c306_14 := own_sta_keepX c302_16 K306q (allS A302.nostat all0)
       have c306_15 := own_sta_keepX c302_17 K306q (allS A302.nostat all0)
       have c306_16 := c302_18.keep K306q (ninS ne_w_b302 nin0)
       have c306_17 := A302.keep K306q
       have Z306 : n0 ≤ T306.heap.size := Nat.le_trans Z302 K306q.1
       have K306 := Keep.trans K302 K306q (allS (Or.inr sz_b302) all0)
       have CT306 := CHr.trans c302_11 C306
       refine own_goW (U' := T306.setTop (mkF m 249 #[.val (.int p0), .val (.int p1), .val (.long q2), .second, .val (.int (3 : Int32)), .val (.int y19), .val (.int y36), .val (.ref r234), .val (.ref r235), .val (.ref r236), .val (.ref r237), .val (.ref b238), .val (.ref req), .unset, .unset] [(.ref b302)])) (fun _ k => st306.trans k) ?_
       refine own_goW (U' := T306.setTop (mkF m 257 #[.val (.int p0), .val (.int p1), .val (.long q2), .second, .val (.int (3 : Int32)), .val (.int y19), .val (.int y36), .val (.ref r234), .val (.ref r235), .val (.ref r236), .val (.ref r237), .val (.ref b238), .val (.ref req), .val (.ref b302), .unset] [(.int y36), (.ref req), (.ref b302)])) (fun _ k => XS.astore X306.here hx rfl (hb hby at_249) rfl rfl (l' := #[.val (.int p0), .val (.int p1), .val (.long q2), .second, .val (.int (3 : Int32)), .val (.int y19), .val (.int y36), .val (.ref r234), .val (.ref r235), .val (.ref r236), .val (.ref r237), .val (.ref b238), .val (.ref req), .val (.ref b302), .unset]) rfl (XS.aload X306.here hx rfl (hb hby at_251) rfl rfl (XS.aload X306.here hx rfl (hb hby at_253) rfl rfl (XS.iload X306.here hx rfl (hb hby at_255) rfl k)))) ?_
       obtain ⟨cq307, kq307, q307a, q307b, q307c⟩ := isOf hZ rfl xE306
       obtain ⟨_, _, ⟨T307, L307, k307, n307⟩, -, X307, ⟨Lc307, hQ307, l307, y307, z307⟩, st307⟩ := X306.virtualBack hx (y := (⟨"com/example/hashtory/hashtory/Arguments", "positionals", "(Ljava/util/List;I)Ljava/util/List;"⟩ : MethodName)) (z := (⟨"com/example/hashtory/hashtory/Arguments", "positionals", "(Ljava/util/List;I)Ljava/util/List;"⟩ : MethodName)) hown (mvT hZ (hw _ (own_mem 99 rfl))) (mvT hZ (hw _ (own_mem 100 rfl))) (notFace_of_selects (args := #[]) (mvT hZ (hw _ (own_mem 102 rfl)))) (mvT hZ (hw _ (own_mem 102 rfl))) (mvT hZ (hw _ (own_mem 101 rfl))) (by decide) (backOf (W := 0) (rm15 l Z aw hw [] b302 req y36 pl306 (3 : Int32) y19 T306.heap n0 Z306 xP306 xL306 xS306 c306_9 c306_10 (by first | assumption | decide | rfl) (by first | assumption | decide | rfl)) hZ (hw _ (own_mem 103 rfl)) (hw _ (own_mem 61 rfl)) (by decide) (by decide)) q307a q307c (g := (mkF m 257 #[.val (.int p0), .val (.int p1), .val (.long q2), .second, .val (.int (3 : Int32)), .val (.int y19), .val (.int y36), .val (.ref r234), .val (.ref r235), .val (.ref r236), .val (.ref r237), .val (.ref b238), .val (.ref req), .val (.ref b302), .unset] [(.int y36), (.ref req), (.ref b302)])) rfl (by rw [hml]; rfl) (Steps.refl _) (argsL := [(.ref req), (.int y36)]) (rest := []) (lenOf own_pd18 rfl) rfl (by show 2 * 0 + _ ≤ _; exact Nat.le_of_eq rfl) (hb hby at_257) (fun _ _ => ⟨rfl, rfl, (by decide : 34 + 0 ≤ _), (by decide : 219 + 0 ≤ _)⟩)
       dsimp only [Pt.U, Pt.locs, Pt.cells, Pt.slots] at X307 l307 y307 z307 st307 hQ307
       subst l307 y307 z307
       obtain ⟨rfl, N307q, e307⟩ := hQ307
       have N307 := Fr.app N306 N307q
       refine own_goW (U' := T307.setTop (mkF m 260 #[.val (.int p0), .val (.int p1), .val (.long q2), .second, .val (.int (3 : Int32)), .val (.int y19), .val (.int y36), .val (.ref r234), .val (.ref r235), .val (.ref r236), .val (.ref r237), .val (.ref b238), .val (.ref req), .val (.ref b302), .unset] [(.ref pl306)])) (fun _ k => st307.trans k) ?_
       refine own_goW (U' := T307.setTop (mkF m 264 #[.val (.int p0), .val (.int p1), .val (.long q2), .second, .val (.int (3 : Int32)), .val (.int y19), .val (.int y36), .val (.ref r234), .val (.ref r235), .val (.ref r236), .val (.ref r237), .val (.ref b238), .val (.ref req), .val (.ref b302), .val (.ref pl306)] [(.ref pl306)])) (fun _ k => XS.astore X307.here hx rfl (hb hby at_260) rfl rfl (l' := #[.val (.int p0), .val (.int p1), .val (.long q2), .second, .val (.int (3 : Int32)), .val (.int y19), .val (.int y36), .val (.ref r234), .val (.ref r235), .val (.ref r236), .val (.ref r237), .val (.ref b238), .val (.ref req), .val (.ref b302), .val (.ref pl306)]) rfl (XS.aload X307.here hx rfl (hb hby at_262) rfl rfl k)) ?_
       obtain ⟨cq308, kq308, q308a, q308b, q308c⟩ := isOf hZ e307 xL306
       obtain ⟨_, _, ⟨T308, L308, k308, n308⟩, -, X308, ⟨Lc308, hQ308, l308, y308, z308⟩, st308⟩ := X307.interfaceBack hx (xi := (⟨"java/util/List", "size", "()I"⟩ : MethodName)) (y := (⟨"java/util/ArrayList", "size", "()I"⟩ : MethodName)) hown (mvT hZ (hw _ (own_mem 104 rfl))) (mvT hZ (hw _ (own_mem 89 rfl))) (mvT hZ (hw _ (own_mem 90 rfl))) (mvT hZ (hw _ (own_mem 91 rfl))) (mvT hZ (hw _ (own_mem 92 rfl))) (mvT hZ (hw _ (own_mem 93 rfl))) (mvT hZ (hw _ (own_mem 94 rfl))) (mvT hZ (hw _ (own_mem 95 rfl))) (by decide) (backOf (W := 0) (rm14 l Z aw hw [] pl306 (3 : Int32) T306.heap n0 Z306 xS306) hZ (hw _ (own_mem 96 rfl)) (hw _ (own_mem 37 rfl)) (by decide) (by decide)) q308a q308b q308c (g := (mkF m 264 #[.val (.int p0), .val (.int p1), .val (.long q2), .second, .val (.int (3 : Int32)), .val (.int y19), .val (.int y36), .val (.ref r234), .val (.ref r235), .val (.ref r236), .val (.ref r237), .val (.ref b238), .val (.ref req), .val (.ref b302), .val (.ref pl306)] [(.ref pl306)])) rfl (by rw [hml]; rfl) (Steps.refl _) (argsL := []) (rest := []) (lenOf own_pd5 rfl) rfl (by show 2 * 0 + _ ≤ _; exact Nat.le_of_eq rfl) (hb hby at_264) (fun _ _ => ⟨rfl, e307, (by decide : 34 + 0 ≤ _), (by decide : 219 + 0 ≤ _)⟩)
       dsimp only [Pt.U, Pt.locs, Pt.cells, Pt.slots] at X308 l308 y308 z308 st308 hQ308
       subst l308 y308 z308
       obtain ⟨rfl, N308q, e308⟩ := hQ308
       have N308 := Fr.app N307 N308q
       refine own_goW (U' := T308.setTop (mkF m 269 #[.val (.int p0), .val (.int p1), .val (.long q2), .second, .val (.int (3 : Int32)), .val (.int y19), .val (.int y36), .val (.ref r234), .val (.ref r235), .val (.ref r236), .val (.ref r237), .val (.ref b238), .val (.ref req), .val (.ref b302), .val (.ref pl306)] [(.int (3 : Int32))])) (fun _ k => st308.trans k) ?_
       refine own_goW (U' := T308.setTop (mkF m 271 #[.val (.int p0), .val (.int p1), .val (.long q2), .second, .val (.int (3 : Int32)), .val (.int y19), .val (.int y36), .val (.ref r234), .val (.ref r235), .val (.ref r236), .val (.ref r237), .val (.ref b238), .val (.ref req), .val (.ref b302), .val (.ref pl306)] [(.int (3 : Int32)), (.int (3 : Int32))])) (fun _ k => XS.iload X308.here hx rfl (hb hby at_269) rfl k) ?_
       refine own_goW (U' := T308.setTop (mkF m 278 #[.val (.int p0), .val (.int p1), .val (.long q2), .second, .val (.int (3 : Int32)), .val (.int y19), .val (.int y36), .val (.ref r234), .val (.ref r235), .val (.ref r236), .val (.ref r237), .val (.ref b238), .val (.ref req), .val (.ref b302), .val (.ref pl306)] [(.int (3 : Int32))])) (fun _ k => XS.icmpYes X308.here hx rfl (pc0 := 271) (pc' := 276) rfl (hb hby at_271) rfl (teq (by decide : ((3 : Int32) = (3 : Int32)))).1 (by decide) (by decide) (XS.iload X308.here hx rfl (hb hby at_276) rfl k)) ?_
       refine own_goW (U' := T308.setTop (mkF m 284 #[.val (.int p0), .val (.int p1), .val (.long q2), .second, .val (.int (3 : Int32)), .val (.int y19), .val (.int y36), .val (.ref r234), .val (.ref r235), .val (.ref r236), .val (.ref r237), .val (.ref b238), .val (.ref req), .val (.ref b302), .val (.ref pl306)] [(.int (0 : Int32)), (.ref pl306)])) (fun _ k => XS.ifNo X308.here hx rfl (hb hby at_278) rfl ((if0 _ _).trans (tlt (by decide : ((0 : Int32) < (3 : Int32)))).2.2.2) (XS.aload X308.here hx rfl (hb hby at_281) rfl rfl (XS.iconst X308.here hx rfl (hb hby at_283) k))) ?_
       obtain ⟨cq309, kq309, q309a, q309b, q309c⟩ := isOf hZ e308 xL306
       obtain ⟨_, _, ⟨T309, L309, k309, n309⟩, -, X309, ⟨Lc309, hQ309, l309, y309, z309⟩, st309⟩ := X308.interfaceBack hx (xi := (⟨"java/util/List", "get", "(I)Ljava/lang/Object;"⟩ : MethodName)) (y := (⟨"java/util/ArrayList", "get", "(I)Ljava/lang/Object;"⟩ : MethodName)) hown (mvT hZ (hw _ (own_mem 181 rfl))) (mvT hZ (hw _ (own_mem 138 rfl))) (mvT hZ (hw _ (own_mem 139 rfl))) (mvT hZ (hw _ (own_mem 140 rfl))) (mvT hZ (hw _ (own_mem 141 rfl))) (mvT hZ (hw _ (own_mem 142 rfl))) (mvT hZ (hw _ (own_mem 143 rfl))) (mvT hZ (hw _ (own_mem 95 rfl))) (by decide) (backOf (W := 0) (rm20 l Z aw hw [] pl306 (0 : Int32) (3 : Int32) pa306 kp306 [(.ref r234), (.ref r235), (.ref r236), .null, .null, .null, .null, .null, .null, .null] r234 T306.heap n0 Z306 xL306 xS306 xD306 xV306 (by first | assumption | decide | rfl) (by first | assumption | decide | rfl) (by first | assumption | decide | rfl) (by first | assumption | decide | rfl)) hZ (hw _ (own_mem 144 rfl)) (hw _ (own_mem 37 rfl)) (by decide) (by decide)) q309a q309b q309c (g := (mkF m 284 #[.val (.int p0), .val (.int p1), .val (.long q2), .second, .val (.int (3 : Int32)), .val (.int y19), .val (.int y36), .val (.ref r234), .val (.ref r235), .val (.ref r236), .val (.ref r237), .val (.ref b238), .val (.ref req), .val (.ref b302), .val (.ref pl306)] [(.int (0 : Int32)), (.ref pl306)])) rfl (by rw [hml]; rfl) (Steps.refl _) (argsL := [(.int (0 : Int32))]) (rest := []) (lenOf own_pd9 rfl) rfl (by show 2 * 0 + _ ≤ _; exact Nat.le_of_eq rfl) (hb hby at_284) (fun _ _ => ⟨rfl, e308, (by decide : 34 + 0 ≤ _), (by decide : 219 + 0 ≤ _)⟩)
       dsimp only [Pt.U, Pt.locs, Pt.cells, Pt.slots] at X309 l309 y309 z309 st309 hQ309
       subst l309 y309 z309
       obtain ⟨rfl, N309q, e309⟩ := hQ309
       have N309 := Fr.app N308 N309q
       refine own_goW (U' := T309.setTop (mkF m 289 #[.val (.int p0), .val (.int p1), .val (.long q2), .second, .val (.int (3 : Int32)), .val (.int y19), .val (.int y36), .val (.ref r234), .val (.ref r235), .val (.ref r236), .val (.ref r237), .val (.ref b238), .val (.ref req), .val (.ref b302), .val (.ref pl306)] [(.ref r234)])) (fun _ k => st309.trans k) ?_
       obtain ⟨T310, X310, e310, st310⟩ := castY X309 hx hZ hown (hw _ (own_mem 182 rfl)) e309 (Ins.self c306_5) (g := (mkF m 289 #[.val (.int p0), .val (.int p1), .val (.long q2), .second, .val (.int (3 : Int32)), .val (.int y19), .val (.int y36), .val (.ref r234), .val (.ref r235), .val (.ref r236), .val (.ref r237), .val (.ref b238), .val (.ref req), .val (.ref b302), .val (.ref pl306)] [(.ref r234)])) rfl rfl (hb hby at_289)
       refine own_goW (U' := T310.setTop (mkF m 292 #[.val (.int p0), .val (.int p1), .val (.long q2), .second, .val (.int (3 : Int32)), .val (.int y19), .val (.int y36), .val (.ref r234), .val (.ref r235), .val (.ref r236), .val (.ref r237), .val (.ref b238), .val (.ref req), .val (.ref b302), .val (.ref pl306)] [(.ref r234)])) (fun _ k => st310 _ k) ?_
       refine own_goW (U' := T310.setTop (mkF m 294 #[.val (.int p0), .val (.int p1), .val (.long q2), .second, .val (.int (3 : Int32)), .val (.int y19), .val (.int y36), .val (.ref r234), .val (.ref r235), .val (.ref r236), .val (.ref r237), .val (.ref b238), .val (.ref req), .val (.ref b302), .val (.ref pl306)] [(.ref r234), (.ref r234)])) (fun _ k => XS.aload X310.here hx rfl (hb hby at_292) rfl rfl k) ?_
       obtain ⟨cq311, kq311, q311a, q311b, q311c⟩ := isOf hZ e310 c306_5
       obtain ⟨_, _, ⟨T311, L311, k311, n311⟩, -, X311, ⟨Lc311, hQ311, l311, y311, z311⟩, st311⟩ := X310.virtualBack hx (y := (⟨"java/lang/String", "equals", "(Ljava/lang/Object;)Z"⟩ : MethodName)) (z := (⟨"java/lang/String", "equals", "(Ljava/lang/Object;)Z"⟩ : MethodName)) hown (mvT hZ (hw _ (own_mem 183 rfl))) (mvT hZ (hw _ (own_mem 184 rfl))) (notFace_of_selects (args := #[]) (mvT hZ (hw _ (own_mem 186 rfl)))) (mvT hZ (hw _ (own_mem 186 rfl))) (mvT hZ (hw _ (own_mem 185 rfl))) (by decide) (backOf (W := 0) (rm28 l Z aw hw [] r234 T306.heap n0 Z306 ) hZ (hw _ (own_mem 187 rfl)) (hw _ (own_mem 11 rfl)) (by decide) (by decide)) q311a q311c (g := (mkF m 294 #[.val (.int p0), .val (.int p1), .val (.long q2), .second, .val (.int (3 : Int32)), .val (.int y19), .val (.int y36), .val (.ref r234), .val (.ref r235), .val (.ref r236), .val (.ref r237), .val (.ref b238), .val (.ref req), .val (.ref b302), .val (.ref pl306)] [(.ref r234), (.ref r234)])) rfl (by rw [hml]; rfl) (Steps.refl _) (argsL := [(.ref r234)]) (rest := []) (lenOf own_pd15 rfl) rfl (by show 2 * 0 + _ ≤ _; exact Nat.le_of_eq rfl) (hb hby at_294) (fun _ _ => ⟨rfl, e310, (by decide : 34 + 0 ≤ _), (by decide : 219 + 0 ≤ _)⟩)
       dsimp only [Pt.U, Pt.locs, Pt.cells, Pt.slots] at X311 l311 y311 z311 st311 hQ311
       subst l311 y311 z311
       obtain ⟨rfl, N311q, e311⟩ := hQ311
       have N311 := Fr.app N309 N311q
       refine own_goW (U' := T311.setTop (mkF m 297 #[.val (.int p0), .val (.int p1), .val (.long q2), .second, .val (.int (3 : Int32)), .val (.int y19), .val (.int y36), .val (.ref r234), .val (.ref r235), .val (.ref r236), .val (.ref r237), .val (.ref b238), .val (.ref req), .val (.ref b302), .val (.ref pl306)] [(.int (1 : Int32))])) (fun _ k => st311.trans k) ?_
       refine own_goW (U' := T311.setTop (mkF m 305 #[.val (.int p0), .val (.int p1), .val (.long q2), .second, .val (.int (3 : Int32)), .val (.int y19), .val (.int y36), .val (.ref r234), .val (.ref r235), .val (.ref r236), .val (.ref r237), .val (.ref b238), .val (.ref req), .val (.ref b302), .val (.ref pl306)] [(.int (1 : Int32)), (.int (3 : Int32))])) (fun _ k => XS.ifYes X311.here hx rfl (pc0 := 297) (pc' := 302) rfl (hb hby at_297) rfl ((if0 _ _).trans (feq (by decide : ¬ ((1 : Int32) = (0 : Int32)))).2) (by decide) (by decide) (XS.iload X311.here hx rfl (hb hby at_302) rfl (XS.iconst X311.here hx rfl (hb hby at_304) k))) ?_
       refine own_goW (U' := T311.setTop (mkF m 311 #[.val (.int p0), .val (.int p1), .val (.long q2), .second, .val (.int (3 : Int32)), .val (.int y19), .val (.int y36), .val (.ref r234), .val (.ref r235), .val (.ref r236), .val (.ref r237), .val (.ref b238), .val (.ref req), .val (.ref b302), .val (.ref pl306)] [(.int (1 : Int32)), (.ref pl306)])) (fun _ k => XS.icmpNo X311.here hx rfl (hb hby at_305) rfl (tlt (by decide : ((1 : Int32) < (3 : Int32)))).2.2.2 (XS.aload X311.here hx rfl (hb hby at_308) rfl rfl (XS.iconst X311.here hx rfl (hb hby at_310) k))) ?_
       obtain ⟨cq312, kq312, q312a, q312b, q312c⟩ := isOf hZ e311 xL306
       obtain ⟨_, _, ⟨T312, L312, k312, n312⟩, -, X312, ⟨Lc312, hQ312, l312, y312, z312⟩, st312⟩ := X311.interfaceBack hx (xi := (⟨"java/util/List", "get", "(I)Ljava/lang/Object;"⟩ : MethodName)) (y := (⟨"java/util/ArrayList", "get", "(I)Ljava/lang/Object;"⟩ : MethodName)) hown (mvT hZ (hw _ (own_mem 181 rfl))) (mvT hZ (hw _ (own_mem 138 rfl))) (mvT hZ (hw _ (own_mem 139 rfl))) (mvT hZ (hw _ (own_mem 140 rfl))) (mvT hZ (hw _ (own_mem 141 rfl))) (mvT hZ (hw _ (own_mem 142 rfl))) (mvT hZ (hw _ (own_mem 143 rfl))) (mvT hZ (hw _ (own_mem 95 rfl))) (by decide) (backOf (W := 0) (rm20 l Z aw hw [] pl306 (1 : Int32) (3 : Int32) pa306 kp306 [(.ref r234), (.ref r235), (.ref r236), .null, .null, .null, .null, .null, .null, .null] r235 T306.heap n0 Z306 xL306 xS306 xD306 xV306 (by first | assumption | decide | rfl) (by first | assumption | decide | rfl) (by first | assumption | decide | rfl) (by first | assumption | decide | rfl)) hZ (hw _ (own_mem 144 rfl)) (hw _ (own_mem 37 rfl)) (by decide) (by decide)) q312a q312b q312c (g := (mkF m 311 #[.val (.int p0), .val (.int p1), .val (.long q2), .second, .val (.int (3 : Int32)), .val (.int y19), .val (.int y36), .val (.ref r234), .val (.ref r235), .val (.ref r236), .val (.ref r237), .val (.ref b238), .val (.ref req), .val (.ref b302), .val (.ref pl306)] [(.int (1 : Int32)), (.ref pl306)])) rfl (by rw [hml]; rfl) (Steps.refl _) (argsL := [(.int (1 : Int32))]) (rest := []) (lenOf own_pd9 rfl) rfl (by show 2 * 0 + _ ≤ _; exact Nat.le_of_eq rfl) (hb hby at_311) (fun _ _ => ⟨rfl, e311, (by decide : 34 + 0 ≤ _), (by decide : 219 + 0 ≤ _)⟩)
       dsimp only [Pt.U, Pt.locs, Pt.cells, Pt.slots] at X312 l312 y312 z312 st312 hQ312
       subst l312 y312 z312
       obtain ⟨rfl, N312q, e312⟩ := hQ312
       have N312 := Fr.app N311 N312q
       refine own_goW (U' := T312.setTop (mkF m 316 #[.val (.int p0), .val (.int p1), .val (.long q2), .second, .val (.int (3 : Int32)), .val (.int y19), .val (.int y36), .val (.ref r234), .val (.ref r235), .val (.ref r236), .val (.ref r237), .val (.ref b238), .val (.ref req), .val (.ref b302), .val (.ref pl306)] [(.ref r235)])) (fun _ k => st312.trans k) ?_
       obtain ⟨T313, X313, e313, st313⟩ := castY X312 hx hZ hown (hw _ (own_mem 182 rfl)) e312 (Ins.self c306_6) (g := (mkF m 316 #[.val (.int p0), .val (.int p1), .val (.long q2), .second, .val (.int (3 : Int32)), .val (.int y19), .val (.int y36), .val (.ref r234), .val (.ref r235), .val (.ref r236), .val (.ref r237), .val (.ref b238), .val (.ref req), .val (.ref b302), .val (.ref pl306)] [(.ref r235)])) rfl rfl (hb hby at_316)
       refine own_goW (U' := T313.setTop (mkF m 319 #[.val (.int p0), .val (.int p1), .val (.long q2), .second, .val (.int (3 : Int32)), .val (.int y19), .val (.int y36), .val (.ref r234), .val (.ref r235), .val (.ref r236), .val (.ref r237), .val (.ref b238), .val (.ref req), .val (.ref b302), .val (.ref pl306)] [(.ref r235)])) (fun _ k => st313 _ k) ?_
       refine own_goW (U' := T313.setTop (mkF m 321 #[.val (.int p0), .val (.int p1), .val (.long q2), .second, .val (.int (3 : Int32)), .val (.int y19), .val (.int y36), .val (.ref r234), .val (.ref r235), .val (.ref r236), .val (.ref r237), .val (.ref b238), .val (.ref req), .val (.ref b302), .val (.ref pl306)] [(.ref r235), (.ref r235)])) (fun _ k => XS.aload X313.here hx rfl (hb hby at_319) rfl rfl k) ?_
       obtain ⟨cq314, kq314, q314a, q314b, q314c⟩ := isOf hZ e313 c306_6
       obtain ⟨_, _, ⟨T314, L314, k314, n314⟩, -, X314, ⟨Lc314, hQ314, l314, y314, z314⟩, st314⟩ := X313.virtualBack hx (y := (⟨"java/lang/String", "equals", "(Ljava/lang/Object;)Z"⟩ : MethodName)) (z := (⟨"java/lang/String", "equals", "(Ljava/lang/Object;)Z"⟩ : MethodName)) hown (mvT hZ (hw _ (own_mem 183 rfl))) (mvT hZ (hw _ (own_mem 184 rfl))) (notFace_of_selects (args := #[]) (mvT hZ (hw _ (own_mem 186 rfl)))) (mvT hZ (hw _ (own_mem 186 rfl))) (mvT hZ (hw _ (own_mem 185 rfl))) (by decide) (backOf (W := 0) (rm28 l Z aw hw [] r235 T306.heap n0 Z306 ) hZ (hw _ (own_mem 187 rfl)) (hw _ (own_mem 11 rfl)) (by decide) (by decide)) q314a q314c (g := (mkF m 321 #[.val (.int p0), .val (.int p1), .val (.long q2), .second, .val (.int (3 : Int32)), .val (.int y19), .val (.int y36), .val (.ref r234), .val (.ref r235), .val (.ref r236), .val (.ref r237), .val (.ref b238), .val (.ref req), .val (.ref b302), .val (.ref pl306)] [(.ref r235), (.ref r235)])) rfl (by rw [hml]; rfl) (Steps.refl _) (argsL := [(.ref r235)]) (rest := []) (lenOf own_pd15 rfl) rfl (by show 2 * 0 + _ ≤ _; exact Nat.le_of_eq rfl) (hb hby at_321) (fun _ _ => ⟨rfl, e313, (by decide : 34 + 0 ≤ _), (by decide : 219 + 0 ≤ _)⟩)
       dsimp only [Pt.U, Pt.locs, Pt.cells, Pt.slots] at X314 l314 y314 z314 st314 hQ314
       subst l314 y314 z314
       obtain ⟨rfl, N314q, e314⟩ := hQ314
       have N314 := Fr.app N312 N314q
       refine own_goW (U' := T314.setTop (mkF m 324 #[.val (.int p0), .val (.int p1), .val (.long q2), .second, .val (.int (3 : Int32)), .val (.int y19), .val (.int y36), .val (.ref r234), .val (.ref r235), .val (.ref r236), .val (.ref r237), .val (.ref b238), .val (.ref req), .val (.ref b302), .val (.ref pl306)] [(.int (1 : Int32))])) (fun _ k => st314.trans k) ?_
       refine own_goW (U' := T314.setTop (mkF m 332 #[.val (.int p0), .val (.int p1), .val (.long q2), .second, .val (.int (3 : Int32)), .val (.int y19), .val (.int y36), .val (.ref r234), .val (.ref r235), .val (.ref r236), .val (.ref r237), .val (.ref b238), .val (.ref req), .val (.ref b302), .val (.ref pl306)] [(.int (2 : Int32)), (.int (3 : Int32))])) (fun _ k => XS.ifYes X314.here hx rfl (pc0 := 324) (pc' := 329) rfl (hb hby at_324) rfl ((if0 _ _).trans (feq (by decide : ¬ ((1 : Int32) = (0 : Int32)))).2) (by decide) (by decide) (XS.iload X314.here hx rfl (hb hby at_329) rfl (XS.iconst X314.here hx rfl (hb hby at_331) k))) ?_
       refine own_goW (U' := T314.setTop (mkF m 338 #[.val (.int p0), .val (.int p1), .val (.long q2), .second, .val (.int (3 : Int32)), .val (.int y19), .val (.int y36), .val (.ref r234), .val (.ref r235), .val (.ref r236), .val (.ref r237), .val (.ref b238), .val (.ref req), .val (.ref b302), .val (.ref pl306)] [(.int (2 : Int32)), (.ref pl306)])) (fun _ k => XS.icmpNo X314.here hx rfl (hb hby at_332) rfl (tlt (by decide : ((2 : Int32) < (3 : Int32)))).2.2.2 (XS.aload X314.here hx rfl (hb hby at_335) rfl rfl (XS.iconst X314.here hx rfl (hb hby at_337) k))) ?_
       obtain ⟨cq315, kq315, q315a, q315b, q315c⟩ := isOf hZ e314 xL306
       obtain ⟨_, _, ⟨T315, L315, k315, n315⟩, -, X315, ⟨Lc315, hQ315, l315, y315, z315⟩, st315⟩ := X314.interfaceBack hx (xi := (⟨"java/util/List", "get", "(I)Ljava/lang/Object;"⟩ : MethodName)) (y := (⟨"java/util/ArrayList", "get", "(I)Ljava/lang/Object;"⟩ : MethodName)) hown (mvT hZ (hw _ (own_mem 181 rfl))) (mvT hZ (hw _ (own_mem 138 rfl))) (mvT hZ (hw _ (own_mem 139 rfl))) (mvT hZ (hw _ (own_mem 140 rfl))) (mvT hZ (hw _ (own_mem 141 rfl))) (mvT hZ (hw _ (own_mem 142 rfl))) (mvT hZ (hw _ (own_mem 143 rfl))) (mvT hZ (hw _ (own_mem 95 rfl))) (by decide) (backOf (W := 0) (rm20 l Z aw hw [] pl306 (2 : Int32) (3 : Int32) pa306 kp306 [(.ref r234), (.ref r235), (.ref r236), .null, .null, .null, .null, .null, .null, .null] r236 T306.heap n0 Z306 xL306 xS306 xD306 xV306 (by first | assumption | decide | rfl) (by first | assumption | decide | rfl) (by first | assumption | decide | rfl) (by first | assumption | decide | rfl)) hZ (hw _ (own_mem 144 rfl)) (hw _ (own_mem 37 rfl)) (by decide) (by decide)) q315a q315b q315c (g := (mkF m 338 #[.val (.int p0), .val (.int p1), .val (.long q2), .second, .val (.int (3 : Int32)), .val (.int y19), .val (.int y36), .val (.ref r234), .val (.ref r235), .val (.ref r236), .val (.ref r237), .val (.ref b238), .val (.ref req), .val (.ref b302), .val (.ref pl306)] [(.int (2 : Int32)), (.ref pl306)])) rfl (by rw [hml]; rfl) (Steps.refl _) (argsL := [(.int (2 : Int32))]) (rest := []) (lenOf own_pd9 rfl) rfl (by show 2 * 0 + _ ≤ _; exact Nat.le_of_eq rfl) (hb hby at_338) (fun _ _ => ⟨rfl, e314, (by decide : 34 + 0 ≤ _), (by decide : 219 + 0 ≤ _)⟩)
       dsimp only [Pt.U, Pt.locs, Pt.cells, Pt.slots] at X315 l315 y315 z315 st315 hQ315
       subst l315 y315 z315
       obtain ⟨rfl, N315q, e315⟩ := hQ315
       have N315 := Fr.app N314 N315q
       refine own_goW (U' := T315.setTop (mkF m 343 #[.val (.int p0), .val (.int p1), .val (.long q2), .second, .val (.int (3 : Int32)), .val (.int y19), .val (.int y36), .val (.ref r234), .val (.ref r235), .val (.ref r236), .val (.ref r237), .val (.ref b238), .val (.ref req), .val (.ref b302), .val (.ref pl306)] [(.ref r236)])) (fun _ k => st315.trans k) ?_
       obtain ⟨T316, X316, e316, st316⟩ := castY X315 hx hZ hown (hw _ (own_mem 182 rfl)) e315 (Ins.self c306_7) (g := (mkF m 343 #[.val (.int p0), .val (.int p1), .val (.long q2), .second, .val (.int (3 : Int32)), .val (.int y19), .val (.int y36), .val (.ref r234), .val (.ref r235), .val (.ref r236), .val (.ref r237), .val (.ref b238), .val (.ref req), .val (.ref b302), .val (.ref pl306)] [(.ref r236)])) rfl rfl (hb hby at_343)
       refine own_goW (U' := T316.setTop (mkF m 346 #[.val (.int p0), .val (.int p1), .val (.long q2), .second, .val (.int (3 : Int32)), .val (.int y19), .val (.int y36), .val (.ref r234), .val (.ref r235), .val (.ref r236), .val (.ref r237), .val (.ref b238), .val (.ref req), .val (.ref b302), .val (.ref pl306)] [(.ref r236)])) (fun _ k => st316 _ k) ?_
       refine own_goW (U' := T316.setTop (mkF m 348 #[.val (.int p0), .val (.int p1), .val (.long q2), .second, .val (.int (3 : Int32)), .val (.int y19), .val (.int y36), .val (.ref r234), .val (.ref r235), .val (.ref r236), .val (.ref r237), .val (.ref b238), .val (.ref req), .val (.ref b302), .val (.ref pl306)] [(.ref r236), (.ref r236)])) (fun _ k => XS.aload X316.here hx rfl (hb hby at_346) rfl rfl k) ?_
       obtain ⟨cq317, kq317, q317a, q317b, q317c⟩ := isOf hZ e316 c306_7
       obtain ⟨_, _, ⟨T317, L317, k317, n317⟩, -, X317, ⟨Lc317, hQ317, l317, y317, z317⟩, st317⟩ := X316.virtualBack hx (y := (⟨"java/lang/String", "equals", "(Ljava/lang/Object;)Z"⟩ : MethodName)) (z := (⟨"java/lang/String", "equals", "(Ljava/lang/Object;)Z"⟩ : MethodName)) hown (mvT hZ (hw _ (own_mem 183 rfl))) (mvT hZ (hw _ (own_mem 184 rfl))) (notFace_of_selects (args := #[]) (mvT hZ (hw _ (own_mem 186 rfl)))) (mvT hZ (hw _ (own_mem 186 rfl))) (mvT hZ (hw _ (own_mem 185 rfl))) (by decide) (backOf (W := 0) (rm28 l Z aw hw [] r236 T306.heap n0 Z306 ) hZ (hw _ (own_mem 187 rfl)) (hw _ (own_mem 11 rfl)) (by decide) (by decide)) q317a q317c (g := (mkF m 348 #[.val (.int p0), .val (.int p1), .val (.long q2), .second, .val (.int (3 : Int32)), .val (.int y19), .val (.int y36), .val (.ref r234), .val (.ref r235), .val (.ref r236), .val (.ref r237), .val (.ref b238), .val (.ref req), .val (.ref b302), .val (.ref pl306)] [(.ref r236), (.ref r236)])) rfl (by rw [hml]; rfl) (Steps.refl _) (argsL := [(.ref r236)]) (rest := []) (lenOf own_pd15 rfl) rfl (by show 2 * 0 + _ ≤ _; exact Nat.le_of_eq rfl) (hb hby at_348) (fun _ _ => ⟨rfl, e316, (by decide : 34 + 0 ≤ _), (by decide : 219 + 0 ≤ _)⟩)
       dsimp only [Pt.U, Pt.locs, Pt.cells, Pt.slots] at X317 l317 y317 z317 st317 hQ317
       subst l317 y317 z317
       obtain ⟨rfl, N317q, e317⟩ := hQ317
       have N317 := Fr.app N315 N317q
       refine own_goW (U' := T317.setTop (mkF m 351 #[.val (.int p0), .val (.int p1), .val (.long q2), .second, .val (.int (3 : Int32)), .val (.int y19), .val (.int y36), .val (.ref r234), .val (.ref r235), .val (.ref r236), .val (.ref r237), .val (.ref b238), .val (.ref req), .val (.ref b302), .val (.ref pl306)] [(.int (1 : Int32))])) (fun _ k => st317.trans k) ?_
       refine own_goW (U' := T317.setTop (mkF m 359 #[.val (.int p0), .val (.int p1), .val (.long q2), .second, .val (.int (3 : Int32)), .val (.int y19), .val (.int y36), .val (.ref r234), .val (.ref r235), .val (.ref r236), .val (.ref r237), .val (.ref b238), .val (.ref req), .val (.ref b302), .val (.ref pl306)] [(.int (3 : Int32)), (.int (3 : Int32))])) (fun _ k => XS.ifYes X317.here hx rfl (pc0 := 351) (pc' := 356) rfl (hb hby at_351) rfl ((if0 _ _).trans (feq (by decide : ¬ ((1 : Int32) = (0 : Int32)))).2) (by decide) (by decide) (XS.iload X317.here hx rfl (hb hby at_356) rfl (XS.iconst X317.here hx rfl (hb hby at_358) k))) ?_
       refine own_goW (U' := T317.setTop (mkF m 384 #[.val (.int p0), .val (.int p1), .val (.long q2), .second, .val (.int (3 : Int32)), .val (.int y19), .val (.int y36), .val (.ref r234), .val (.ref r235), .val (.ref r236), .val (.ref r237), .val (.ref b238), .val (.ref req), .val (.ref b302), .val (.ref pl306)] [(.int (1 : Int32))])) (fun _ k => XS.icmpYes X317.here hx rfl (pc0 := 359) (pc' := 383) rfl (hb hby at_359) rfl (flt (by decide : ¬ ((3 : Int32) < (3 : Int32)))).2.2.2 (by decide) (by decide) (XS.iconst X317.here hx rfl (hb hby at_383) k)) ?_
       refine own_retW (vm₁ := T306.vm) X317 hS306 (by rw [show T317.heap = T306.heap from e317]; exact (Nat.le_refl _)) (by rw [hh, show T317.heap = T306.heap from e317]; exact CHr.trans CT306 (CHv.at (s := s) (vm0 := T306.vm) X317 hZ (own_EW hw) CT306.1)) (v := (some (.int (1 : Int32)))) hlk (fun h => by rw [Bd.returns] at h; cases h) (by decide) (by decide) (fun fs hr => retN X317 hx (t := .boolean) Bd.returns (by simp) (hb hby at_384) hr) ?_
       show (Q0 Z p0 p1 q2 cs w k0 h0 n0) _ T317.heap _
       rw [e317]
       exact ⟨rfl, N317⟩
      obtain ⟨T318, h318, X318, e318, E318, A318, D318, -, st318⟩ := newO X248 hx hZ hown (hw _ (own_mem 35 rfl)) (hw _ (own_mem 36 rfl)) (hw _ (own_mem 37 rfl)) rfl (g := (mkF m 167 #[.val (.int p0), .val (.int p1), .val (.long q2), .second, .val (.int (3 : Int32)), .val (.int y19), .val (.int y36), .val (.ref r234), .val (.ref r235), .val (.ref r236), .val (.ref r237), .val (.ref b238), .unset, .unset, .unset] [])) rfl (hb hby at_167) (by decide) (by decide)
      obtain ⟨b318, g318⟩ : ∃ z, z = T248.heap.size := ⟨_, rfl⟩
      have g_b318 : n0 ≤ b318 := Nat.le_trans Z248 (Nat.le_of_eq g318.symm)
      have sz_b318 : T237.heap.size ≤ b318 := Nat.le_trans K248.1 (Nat.le_of_eq g318.symm)
      have ne_w_b318 : w ≠ b318 := Nat.ne_of_lt (Nat.lt_of_lt_of_le c248_5.lt (Nat.le_of_eq g318.symm))
      have ne_r234_b318 : r234 ≠ b318 := Nat.ne_of_lt (Nat.lt_of_lt_of_le c248_8.lt (Nat.le_of_eq g318.symm))
      have ne_r235_b318 : r235 ≠ b318 := Nat.ne_of_lt (Nat.lt_of_lt_of_le c248_9.lt (Nat.le_of_eq g318.symm))
      have ne_r236_b318 : r236 ≠ b318 := Nat.ne_of_lt (Nat.lt_of_lt_of_le c248_10.lt (Nat.le_of_eq g318.symm))
      have ne_r237_b318 : r237 ≠ b318 := Nat.ne_of_lt (Nat.lt_of_lt_of_le c248_11.lt (Nat.le_of_eq g318.symm))
      have ne_b238_b318 : b238 ≠ b318 := Nat.ne_of_lt (Nat.lt_of_lt_of_le xE248.lt (Nat.le_of_eq g318.symm))
      have ne_r241_b318 : r241 ≠ b318 := Nat.ne_of_lt (Nat.lt_of_lt_of_le nl248.lt (Nat.le_of_eq g318.symm))
      rw [← g318] at A318 D318 st318
      have c318_0 := c248_0.ext E318
      have c318_1 := c248_1.ext E318
      have c318_2 := c248_2.ext E318
      have c318_3 := c248_3.ext E318
      have c318_4 := c248_4.ext E318
      have c318_5 := c248_5.ext E318
      have c318_6 := CHr.trans c248_6 (CHr.ext E318 c248_6.1)
      have c318_7 : 0 ≤ h318.size := Nat.le_trans c248_7 E318.1
      have c318_8 := c248_8.ext E318
      have c318_9 := c248_9.ext E318
      have c318_10 := c248_10.ext E318
      have c318_11 := c248_11.ext E318
      have c318_12 := xE248.ext E318
      have c318_13 := c248_13.ext E318
      have c318_14 := c248_14.ext E318
      have c318_15 := c248_19.ext E318
      have c318_16 := nf249.ext E318
      have c318_17 := xD248.ext E318
      have c318_18 := nf250.ext E318
      have c318_19 := nl248.ext E318
      have Z318 : n0 ≤ h318.size := Nat.le_trans Z248 E318.1
      have K318 := Keep.ext K248 E318
      have F318_55 : Fld Z h318 b318 "java/util/AbstractList" "modCount" "I" (.int (0 : Int32)) := D318 (Or.inl (hw _ (own_mem 55 rfl))) (ty := .int) (by decide)
      have F318_58 : Fld Z h318 b318 "java/util/ArrayList" "elementData" "[Ljava/lang/Object;" .null := D318 (Or.inl (hw _ (own_mem 58 rfl))) (ty := (.array (.object "java/lang/Object"))) (by decide)
      have F318_98 : Fld Z h318 b318 "java/util/ArrayList" "size" "I" (.int (0 : Int32)) := D318 (Or.inl (hw _ (own_mem 98 rfl))) (ty := .int) (by decide)
      refine own_goW (U' := T318.setTop (mkF m 170 #[.val (.int p0), .val (.int p1), .val (.long q2), .second, .val (.int (3 : Int32)), .val (.int y19), .val (.int y36), .val (.ref r234), .val (.ref r235), .val (.ref r236), .val (.ref r237), .val (.ref b238), .unset, .unset, .unset] [(.ref b318)])) (fun _ k => st318 _ k) ?_
      refine own_goW (U' := T318.setTop (mkF m 171 #[.val (.int p0), .val (.int p1), .val (.long q2), .second, .val (.int (3 : Int32)), .val (.int y19), .val (.int y36), .val (.ref r234), .val (.ref r235), .val (.ref r236), .val (.ref r237), .val (.ref b238), .unset, .unset, .unset] [(.ref b318), (.ref b318)])) (fun _ k => XS.dup X318.here hx rfl (hb hby at_170) rfl rfl k) ?_
      obtain ⟨_, _, ⟨T319, L319, k319, n319⟩, -, X319, ⟨Lc319, hQ319, l319, y319, z319⟩, st319⟩ := X318.specialBack hx (y := (⟨"java/util/ArrayList", "<init>", "()V"⟩ : MethodName)) rfl hown (mvT hZ (hw _ (own_mem 38 rfl))) (mvT hZ (hw _ (own_mem 39 rfl))) (mvT hZ (hw _ (own_mem 40 rfl))) (by decide) (backOf (W := 1) (rm8 l Z aw hw [] b318 w h318 n0 Z318 c318_4 A318 F318_98 F318_58 F318_55 (by first | assumption | decide | rfl)) hZ (hw _ (own_mem 40 rfl)) (hw _ (own_mem 37 rfl)) (by decide) (by decide)) (g := (mkF m 171 #[.val (.int p0), .val (.int p1), .val (.long q2), .second, .val (.int (3 : Int32)), .val (.int y19), .val (.int y36), .val (.ref r234), .val (.ref r235), .val (.ref r236), .val (.ref r237), .val (.ref b238), .unset, .unset, .unset] [(.ref b318), (.ref b318)])) rfl (by rw [hml]; rfl) (Steps.refl _) (a := b318) (argsL := []) (rest := [(.ref b318)]) (lenOf own_pd10 rfl) rfl (by show 2 * 0 + _ ≤ _; exact Nat.le_of_eq rfl) (hb hby at_171) (fun _ _ => ⟨rfl, e318, (by decide : 11 + 0 ≤ _), (by decide : 40 + 0 ≤ _)⟩)
      dsimp only [Pt.U, Pt.locs, Pt.cells, Pt.slots] at X319 l319 y319 z319 st319 hQ319
      subst l319 y319 z319
      obtain ⟨rfl, N319q, K319q, xE319, xS319, xD319, xM319⟩ := hQ319
      have N319 := Fr.app N248 N319q
      have c319_0 := own_sta_keepX c318_0 K319q (allS A318.nostat all0)
      have c319_1 := own_sta_keepX c318_1 K319q (allS A318.nostat all0)
      have c319_2 := own_sta_keepX c318_2 K319q (allS A318.nostat all0)
      have c319_3 := own_sta_keepX c318_3 K319q (allS A318.nostat all0)
      have c319_4 := own_sta_keepX c318_4 K319q (allS A318.nostat all0)
      have c319_5 := c318_5.keep K319q (ninS ne_w_b318 nin0)
      have c319_6 := CHr.trans c318_6 (CHr.keep K319q (allS (Safe.exa hZ.alike A318 (by decide) (by decide)) all0) c318_6.1)
      have c319_7 : 0 ≤ T319.heap.size := Nat.le_trans c318_7 K319q.1
      have c319_8 := c318_8.keep K319q
      have c319_9 := c318_9.keep K319q
      have c319_10 := c318_10.keep K319q
      have c319_11 := c318_11.keep K319q
      have c319_12 := c318_12.keep K319q
      have c319_13 := own_ins_keep c318_13 K319q
      have c319_14 := own_ins_keep c318_14 K319q
      have c319_15 := own_ins_keep c318_15 K319q
      have c319_16 := c318_16.keep K319q (ninS ne_b238_b318 nin0)
      have c319_17 := c318_17.keep K319q (ninS ne_b238_b318 nin0)
      have c319_18 := c318_18.keep K319q (ninS ne_b238_b318 nin0)
      have c319_19 := c318_19.keep K319q (ninS ne_r241_b318 nin0)
      have c319_20 := A318.keep K319q
      have Z319 : n0 ≤ T319.heap.size := Nat.le_trans Z318 K319q.1
      have K319 := Keep.trans K318 K319q (allS (Or.inr sz_b318) all0)
      refine own_goW (U' := T319.setTop (mkF m 174 #[.val (.int p0), .val (.int p1), .val (.long q2), .second, .val (.int (3 : Int32)), .val (.int y19), .val (.int y36), .val (.ref r234), .val (.ref r235), .val (.ref r236), .val (.ref r237), .val (.ref b238), .unset, .unset, .unset] [(.ref b318)])) (fun _ k => st319.trans k) ?_
      refine own_goW (U' := T319.setTop (mkF m 178 #[.val (.int p0), .val (.int p1), .val (.long q2), .second, .val (.int (3 : Int32)), .val (.int y19), .val (.int y36), .val (.ref r234), .val (.ref r235), .val (.ref r236), .val (.ref r237), .val (.ref b238), .val (.ref b318), .unset, .unset] [(.int y19)])) (fun _ k => XS.astore X319.here hx rfl (hb hby at_174) rfl rfl (l' := #[.val (.int p0), .val (.int p1), .val (.long q2), .second, .val (.int (3 : Int32)), .val (.int y19), .val (.int y36), .val (.ref r234), .val (.ref r235), .val (.ref r236), .val (.ref r237), .val (.ref b238), .val (.ref b318), .unset, .unset]) rfl (XS.iload X319.here hx rfl (hb hby at_176) rfl k)) ?_
      by_cases hc178_320 : (0 : Int32) < y19
      ·refine own_goW (U' := T319.setTop (mkF m 183 #[.val (.int p0), .val (.int p1), .val (.long q2), .second, .val (.int (3 : Int32)), .val (.int y19), .val (.int y36), .val (.ref r234), .val (.ref r235), .val (.ref r236), .val (.ref r237), .val (.ref b238), .val (.ref b318), .unset, .unset] [(.ref b318)])) (fun _ k => XS.ifNo X319.here hx rfl (hb hby at_178) rfl ((if0 _ _).trans (tlt hc178_320).2.2.2) (XS.aload X319.here hx rfl (hb hby at_181) rfl rfl k)) ?_
       obtain ⟨a321, T321, h321, k321, b321, kc321, X321, e321, E321, hS321, hk321, hZ, hown, Ex321, Fc321, Fv321, Vb321, -, -, CH321, -, -, st321⟩ := ldcCH (s := s) (vm0 := s.vm) X319 hx hZ hown (hw _ (own_mem 134 rfl)) (own_wS hw) rfl hS0 c319_7 (own_EW hw) (by decide) c319_6.1 (z := (1 : Int32)) own_text134 (by decide) rfl (g := (mkF m 183 #[.val (.int p0), .val (.int p1), .val (.long q2), .second, .val (.int (3 : Int32)), .val (.int y19), .val (.int y36), .val (.ref r234), .val (.ref r235), .val (.ref r236), .val (.ref r237), .val (.ref b238), .val (.ref b318), .unset, .unset] [(.ref b318)])) rfl (hb hby at_183) (n := 4) (by decide) (by decide) (by decide) (by decide)
       have c321_0 := c319_0.ext E321
       have c321_1 := c319_1.ext E321
       have c321_2 := c319_2.ext E321
       have c321_3 := c319_3.ext E321
       have c321_4 := c319_4.ext E321
       have c321_5 := c319_5.ext E321
       have c321_6 := c319_8.ext E321
       have c321_7 := c319_9.ext E321
       have c321_8 := c319_10.ext E321
       have c321_9 := c319_11.ext E321
       have c321_10 := c319_12.ext E321
       have c321_11 := c319_13.ext E321
       have c321_12 := c319_14.ext E321
       have c321_13 := c319_15.ext E321
       have c321_14 := c319_16.ext E321
       have c321_15 := c319_17.ext E321
       have c321_16 := c319_18.ext E321
       have c321_17 := c319_19.ext E321
       have c321_18 := xE319.ext E321
       have c321_19 := xS319.ext E321
       have c321_20 := xD319.ext E321
       have c321_21 := xM319.ext E321
       have Z321 : n0 ≤ h321.size := Nat.le_trans Z319 E321.1
       have K321 := Keep.ext K319 E321
       have CR321 := CHr.trans c319_6 CH321
       refine own_goW (U' := T321.setTop (mkF m 185 #[.val (.int p0), .val (.int p1), .val (.long q2), .second, .val (.int (3 : Int32)), .val (.int y19), .val (.int y36), .val (.ref r234), .val (.ref r235), .val (.ref r236), .val (.ref r237), .val (.ref b238), .val (.ref b318), .unset, .unset] [(.ref a321), (.ref b318)])) (fun _ k => st321 _ k) ?_
       obtain ⟨cq322, kq322, q322a, q322b, q322c⟩ := isOf hZ e321 c321_18
       obtain ⟨_, _, ⟨T322, L322, k322, n322⟩, -, X322, ⟨Lc322, hQ322, l322, y322, z322⟩, st322⟩ := X321.interfaceBack hx (xi := (⟨"java/util/List", "add", "(Ljava/lang/Object;)Z"⟩ : MethodName)) (y := (⟨"java/util/ArrayList", "add", "(Ljava/lang/Object;)Z"⟩ : MethodName)) hown (mvT hZ (hw _ (own_mem 105 rfl))) (mvT hZ (hw _ (own_mem 106 rfl))) (mvT hZ (hw _ (own_mem 107 rfl))) (mvT hZ (hw _ (own_mem 108 rfl))) (mvT hZ (hw _ (own_mem 109 rfl))) (mvT hZ (hw _ (own_mem 110 rfl))) (mvT hZ (hw _ (own_mem 111 rfl))) (mvT hZ (hw _ (own_mem 95 rfl))) (by decide) (backOf (W := 0) (rm16g l Z aw hw [] b318 a321 w k0 (0 : Int32) h321 n0 Z321 c321_4 c321_5 (Ins.of_exa Ex321 (hw _ (own_mem 133 rfl))) c321_18 c321_19 c321_20 c321_21 (by first | assumption | decide | rfl)) hZ (hw _ (own_mem 112 rfl)) (hw _ (own_mem 37 rfl)) (by decide) (by decide)) q322a q322b q322c (g := (mkF m 185 #[.val (.int p0), .val (.int p1), .val (.long q2), .second, .val (.int (3 : Int32)), .val (.int y19), .val (.int y36), .val (.ref r234), .val (.ref r235), .val (.ref r236), .val (.ref r237), .val (.ref b238), .val (.ref b318), .unset, .unset] [(.ref a321), (.ref b318)])) rfl (by rw [hml]; rfl) (Steps.refl _) (argsL := [(.ref a321)]) (rest := []) (lenOf own_pd15 rfl) rfl (by show 2 * 0 + _ ≤ _; exact Nat.le_of_eq rfl) (hb hby at_185) (fun _ _ => ⟨rfl, e321, (by decide : 13 + 1 ≤ _), (by decide : 48 + 10 ≤ _)⟩)
       dsimp only [Pt.U, Pt.locs, Pt.cells, Pt.slots] at X322 l322 y322 z322 st322 hQ322
       subst l322 y322 z322
       obtain ⟨r322, kr322, rfl, N322q, K322q, sr322, xE322, xS322, xD322, xM322, xV322, xO322⟩ := hQ322
       have N322 := Fr.app N319 N322q
       have ne_w_r322 : w ≠ r322 := Nat.ne_of_lt (Nat.lt_of_lt_of_le c321_5.lt sr322)
       have ne_r234_r322 : r234 ≠ r322 := Nat.ne_of_lt (Nat.lt_of_lt_of_le c321_6.lt sr322)
       have ne_r235_r322 : r235 ≠ r322 := Nat.ne_of_lt (Nat.lt_of_lt_of_le c321_7.lt sr322)
       have ne_r236_r322 : r236 ≠ r322 := Nat.ne_of_lt (Nat.lt_of_lt_of_le c321_8.lt sr322)
       have ne_r237_r322 : r237 ≠ r322 := Nat.ne_of_lt (Nat.lt_of_lt_of_le c321_9.lt sr322)
       have ne_b238_r322 : b238 ≠ r322 := Nat.ne_of_lt (Nat.lt_of_lt_of_le c321_10.lt sr322)
       have ne_r241_r322 : r241 ≠ r322 := Nat.ne_of_lt (Nat.lt_of_lt_of_le c321_17.lt sr322)
       have ne_b318_r322 : b318 ≠ r322 := Nat.ne_of_lt (Nat.lt_of_lt_of_le c321_18.lt sr322)
       have ne_a321_r322 : a321 ≠ r322 := Nat.ne_of_lt (Nat.lt_of_lt_of_le Ex321.lt sr322)
       have g_r322 : n0 ≤ r322 := Nat.le_trans Z321 sr322
       have sz_r322 : T237.heap.size ≤ r322 := Nat.le_trans K321.1 sr322
       have ne_a321_b318 : a321 ≠ b318 := Exa.ne Ex321 c321_18 (by decide)
       have c322_0 := own_sta_keepX c321_0 K322q (allS c321_18.nostat all0)
       have c322_1 := own_sta_keepX c321_1 K322q (allS c321_18.nostat all0)
       have c322_2 := own_sta_keepX c321_2 K322q (allS c321_18.nostat all0)
       have c322_3 := own_sta_keepX c321_3 K322q (allS c321_18.nostat all0)
       have c322_4 := own_sta_keepX c321_4 K322q (allS c321_18.nostat all0)
       have c322_5 := c321_5.keep K322q (ninS ne_w_b318 nin0)
       have c322_6 := c321_6.keep K322q
       have c322_7 := c321_7.keep K322q
       have c322_8 := c321_8.keep K322q
       have c322_9 := c321_9.keep K322q
       have c322_10 := c321_10.keep K322q
       have c322_11 := own_ins_keep c321_11 K322q
       have c322_12 := own_ins_keep c321_12 K322q
       have c322_13 := own_ins_keep c321_13 K322q
       have c322_14 := c321_14.keep K322q (ninS ne_b238_b318 nin0)
       have c322_15 := c321_15.keep K322q (ninS ne_b238_b318 nin0)
       have c322_16 := c321_16.keep K322q (ninS ne_b238_b318 nin0)
       have c322_17 := c321_17.keep K322q (ninS ne_r241_b318 nin0)
       have c322_18 := c321_18.keep K322q
       have c322_22 := Ex321.keep K322q
       have c322_23 := CHr.trans CR321 (CHr.keep K322q (allS (Safe.exa hZ.alike c321_18 (by decide) (by decide)) all0) CR321.1)
       have c322_24 : k321 ≤ T322.heap.size := Nat.le_trans hk321 K322q.1
       have c322_25 := own_ins_keep (Ins.of_exa Ex321 (hw _ (own_mem 133 rfl))) K322q
       have nf323 : Fld Z T322.heap b318 "java/util/AbstractList" "modCount" "I" (.int (1 : Int32)) := xM322
       have Z322 : n0 ≤ T322.heap.size := Nat.le_trans Z321 K322q.1
       have K322 := Keep.trans K321 K322q (allS (Or.inr sz_b318) all0)
       refine own_goW (U' := T322.setTop (mkF m 190 #[.val (.int p0), .val (.int p1), .val (.long q2), .second, .val (.int (3 : Int32)), .val (.int y19), .val (.int y36), .val (.ref r234), .val (.ref r235), .val (.ref r236), .val (.ref r237), .val (.ref b238), .val (.ref b318), .unset, .unset] [(.int (1 : Int32))])) (fun _ k => st322.trans k) ?_
       refine own_goW (U' := T322.setTop (mkF m 194 #[.val (.int p0), .val (.int p1), .val (.long q2), .second, .val (.int (3 : Int32)), .val (.int y19), .val (.int y36), .val (.ref r234), .val (.ref r235), .val (.ref r236), .val (.ref r237), .val (.ref b238), .val (.ref b318), .unset, .unset] [(.int (1 : Int32)), (.int y19)])) (fun _ k => XS.pop X322.here hx rfl (hb hby at_190) rfl rfl (XS.iload X322.here hx rfl (hb hby at_191) rfl (XS.iconst X322.here hx rfl (hb hby at_193) k))) ?_
       by_cases hc194_324 : (1 : Int32) < y19
       ·refine own_goW (U' := T322.setTop (mkF m 199 #[.val (.int p0), .val (.int p1), .val (.long q2), .second, .val (.int (3 : Int32)), .val (.int y19), .val (.int y36), .val (.ref r234), .val (.ref r235), .val (.ref r236), .val (.ref r237), .val (.ref b238), .val (.ref b318), .unset, .unset] [(.ref b318)])) (fun _ k => XS.icmpNo X322.here hx rfl (hb hby at_194) rfl (tlt hc194_324).2.2.2 (XS.aload X322.here hx rfl (hb hby at_197) rfl rfl k)) ?_
        obtain ⟨a325, T325, h325, k325, b325, kc325, X325, e325, E325, hS325, hk325, hZ, hown, Ex325, Fc325, Fv325, Vb325, -, -, CH325, -, -, st325⟩ := ldcCH (s := s) (vm0 := T321.vm) X322 hx hZ hown (hw _ (own_mem 198 rfl)) (own_wS hw) rfl hS321 c322_24 (own_EW hw) (by decide) c322_23.1 (z := (1 : Int32)) own_text198 (by decide) rfl (g := (mkF m 199 #[.val (.int p0), .val (.int p1), .val (.long q2), .second, .val (.int (3 : Int32)), .val (.int y19), .val (.int y36), .val (.ref r234), .val (.ref r235), .val (.ref r236), .val (.ref r237), .val (.ref b238), .val (.ref b318), .unset, .unset] [(.ref b318)])) rfl (hb hby at_199) (n := 4) (by decide) (by decide) (by decide) (by decide)
        have c325_0 := c322_0.ext E325
        have c325_1 := c322_1.ext E325
        have c325_2 := c322_2.ext E325
        have c325_3 := c322_3.ext E325
        have c325_4 := c322_4.ext E325
        have c325_5 := c322_5.ext E325
        have c325_6 := c322_6.ext E325
        have c325_7 := c322_7.ext E325
        have c325_8 := c322_8.ext E325
        have c325_9 := c322_9.ext E325
        have c325_10 := c322_10.ext E325
        have c325_11 := c322_11.ext E325
        have c325_12 := c322_12.ext E325
        have c325_13 := c322_13.ext E325
        have c325_14 := c322_14.ext E325
        have c325_15 := c322_15.ext E325
        have c325_16 := c322_16.ext E325
        have c325_17 := c322_17.ext E325
        have c325_18 := xE322.ext E325
        have c325_19 := c322_22.ext E325
        have c325_20 := c322_25.ext E325
        have c325_21 := xS322.ext E325
        have c325_22 := xD322.ext E325
        have c325_23 := nf323.ext E325
        have c325_24 := xV322.ext E325
        have Z325 : n0 ≤ h325.size := Nat.le_trans Z322 E325.1
        have K325 := Keep.ext K322 E325
        have CR325 := CHr.trans c322_23 CH325
        refine own_goW (U' := T325.setTop (mkF m 201 #[.val (.int p0), .val (.int p1), .val (.long q2), .second, .val (.int (3 : Int32)), .val (.int y19), .val (.int y36), .val (.ref r234), .val (.ref r235), .val (.ref r236), .val (.ref r237), .val (.ref b238), .val (.ref b318), .unset, .unset] [(.ref a325), (.ref b318)])) (fun _ k => st325 _ k) ?_
        obtain ⟨cq326, kq326, q326a, q326b, q326c⟩ := isOf hZ e325 c325_18
        obtain ⟨_, _, ⟨T326, L326, k326, n326⟩, -, X326, ⟨Lc326, hQ326, l326, y326, z326⟩, st326⟩ := X325.interfaceBack hx (xi := (⟨"java/util/List", "add", "(Ljava/lang/Object;)Z"⟩ : MethodName)) (y := (⟨"java/util/ArrayList", "add", "(Ljava/lang/Object;)Z"⟩ : MethodName)) hown (mvT hZ (hw _ (own_mem 105 rfl))) (mvT hZ (hw _ (own_mem 106 rfl))) (mvT hZ (hw _ (own_mem 107 rfl))) (mvT hZ (hw _ (own_mem 108 rfl))) (mvT hZ (hw _ (own_mem 109 rfl))) (mvT hZ (hw _ (own_mem 110 rfl))) (mvT hZ (hw _ (own_mem 111 rfl))) (mvT hZ (hw _ (own_mem 95 rfl))) (by decide) (backOf (W := 0) (rm16s l Z aw hw [] b318 a325 r322 kr322 (1 : Int32) (1 : Int32) [(.ref a321), .null, .null, .null, .null, .null, .null, .null, .null, .null] h325 n0 Z325 (Ins.of_exa Ex325 (hw _ (own_mem 133 rfl))) c325_18 c325_21 c325_22 c325_23 c325_24 (by first | assumption | decide | rfl) (by first | assumption | decide | rfl) (by first | assumption | decide | rfl) (by first | assumption | decide | rfl) (by first | assumption | decide | rfl) (by first | assumption | decide | rfl) (by first | assumption | decide | rfl) (by first | assumption | decide | rfl)) hZ (hw _ (own_mem 112 rfl)) (hw _ (own_mem 37 rfl)) (by decide) (by decide)) q326a q326b q326c (g := (mkF m 201 #[.val (.int p0), .val (.int p1), .val (.long q2), .second, .val (.int (3 : Int32)), .val (.int y19), .val (.int y36), .val (.ref r234), .val (.ref r235), .val (.ref r236), .val (.ref r237), .val (.ref b238), .val (.ref b318), .unset, .unset] [(.ref a325), (.ref b318)])) rfl (by rw [hml]; rfl) (Steps.refl _) (argsL := [(.ref a325)]) (rest := []) (lenOf own_pd15 rfl) rfl (by show 2 * 0 + _ ≤ _; exact Nat.le_of_eq rfl) (hb hby at_201) (fun _ _ => ⟨rfl, e325, (by decide : 16 + 0 ≤ _), (by decide : 66 + 0 ≤ _)⟩)
        dsimp only [Pt.U, Pt.locs, Pt.cells, Pt.slots] at X326 l326 y326 z326 st326 hQ326
        subst l326 y326 z326
        obtain ⟨rfl, N326q, K326q, xE326, xS326, xD326, xM326, xV326⟩ := hQ326
        have N326 := Fr.app N322 N326q
        have ne_a325_b318 : a325 ≠ b318 := Exa.ne Ex325 c325_18 (by decide)
        have ne_a325_r322 : a325 ≠ r322 := Exa.neArv Ex325 c325_24 (hw _ (own_mem 19 rfl))
        have c326_0 := own_sta_keepX c325_0 K326q (allS c325_18.nostat (allS c325_24.nostat all0))
        have c326_1 := own_sta_keepX c325_1 K326q (allS c325_18.nostat (allS c325_24.nostat all0))
        have c326_2 := own_sta_keepX c325_2 K326q (allS c325_18.nostat (allS c325_24.nostat all0))
        have c326_3 := own_sta_keepX c325_3 K326q (allS c325_18.nostat (allS c325_24.nostat all0))
        have c326_4 := own_sta_keepX c325_4 K326q (allS c325_18.nostat (allS c325_24.nostat all0))
        have c326_5 := c325_5.keep K326q (ninS ne_w_b318 (ninS ne_w_r322 nin0))
        have c326_6 := c325_6.keep K326q
        have c326_7 := c325_7.keep K326q
        have c326_8 := c325_8.keep K326q
        have c326_9 := c325_9.keep K326q
        have c326_10 := c325_10.keep K326q
        have c326_11 := own_ins_keep c325_11 K326q
        have c326_12 := own_ins_keep c325_12 K326q
        have c326_13 := own_ins_keep c325_13 K326q
        have c326_14 := c325_14.keep K326q (ninS ne_b238_b318 (ninS ne_b238_r322 nin0))
        have c326_15 := c325_15.keep K326q (ninS ne_b238_b318 (ninS ne_b238_r322 nin0))
        have c326_16 := c325_16.keep K326q (ninS ne_b238_b318 (ninS ne_b238_r322 nin0))
        have c326_17 := c325_17.keep K326q (ninS ne_r241_b318 (ninS ne_r241_r322 nin0))
        have c326_18 := c325_18.keep K326q
        have c326_19 := c325_19.keep K326q
        have c326_20 := own_ins_keep c325_20 K326q
        have c326_25 := Ex325.keep K326q
        have c326_26 := CHr.trans CR325 (CHr.keep K326q (allS (Safe.exa hZ.alike c325_18 (by decide) (by decide)) (allS (own_safe_arv hZ.alike c325_24 (by decide)) all0)) CR325.1)
        have c326_27 : k325 ≤ T326.heap.size := Nat.le_trans hk325 K326q.1
        have c326_28 := own_ins_keep (Ins.of_exa Ex325 (hw _ (own_mem 133 rfl))) K326q
        have nf327 : Fld Z T326.heap b318 "java/util/ArrayList" "size" "I" (.int (2 : Int32)) := xS326
        have nf328 : Fld Z T326.heap b318 "java/util/AbstractList" "modCount" "I" (.int (2 : Int32)) := xM326
        have nl326 : Arv Z T326.heap r322 kr322 (.object "java/lang/Object") (10 : Int32) [(.ref a321), (.ref a325), .null, .null, .null, .null, .null, .null, .null, .null] .null := xV326
        have Z326 : n0 ≤ T326.heap.size := Nat.le_trans Z325 K326q.1
        have K326 := Keep.trans K325 K326q (allS (Or.inr sz_b318) (allS (Or.inr sz_r322) all0))
        refine own_goW (U' := T326.setTop (mkF m 206 #[.val (.int p0), .val (.int p1), .val (.long q2), .second, .val (.int (3 : Int32)), .val (.int y19), .val (.int y36), .val (.ref r234), .val (.ref r235), .val (.ref r236), .val (.ref r237), .val (.ref b238), .val (.ref b318), .unset, .unset] [(.int (1 : Int32))])) (fun _ k => st326.trans k) ?_
        refine own_goW (U' := T326.setTop (mkF m 210 #[.val (.int p0), .val (.int p1), .val (.long q2), .second, .val (.int (3 : Int32)), .val (.int y19), .val (.int y36), .val (.ref r234), .val (.ref r235), .val (.ref r236), .val (.ref r237), .val (.ref b238), .val (.ref b318), .unset, .unset] [(.int (2 : Int32)), (.int y19)])) (fun _ k => XS.pop X326.here hx rfl (hb hby at_206) rfl rfl (XS.iload X326.here hx rfl (hb hby at_207) rfl (XS.iconst X326.here hx rfl (hb hby at_209) k))) ?_
        by_cases hc210_329 : (2 : Int32) < y19
        ·refine own_goW (U' := T326.setTop (mkF m 215 #[.val (.int p0), .val (.int p1), .val (.long q2), .second, .val (.int (3 : Int32)), .val (.int y19), .val (.int y36), .val (.ref r234), .val (.ref r235), .val (.ref r236), .val (.ref r237), .val (.ref b238), .val (.ref b318), .unset, .unset] [(.ref b318)])) (fun _ k => XS.icmpNo X326.here hx rfl (hb hby at_210) rfl (tlt hc210_329).2.2.2 (XS.aload X326.here hx rfl (hb hby at_213) rfl rfl k)) ?_
         obtain ⟨a330, T330, h330, k330, b330, kc330, X330, e330, E330, hS330, hk330, hZ, hown, Ex330, Fc330, Fv330, Vb330, -, -, CH330, -, -, st330⟩ := ldcCH (s := s) (vm0 := T325.vm) X326 hx hZ hown (hw _ (own_mem 199 rfl)) (own_wS hw) rfl hS325 c326_27 (own_EW hw) (by decide) c326_26.1 (z := (1 : Int32)) own_text199 (by decide) rfl (g := (mkF m 215 #[.val (.int p0), .val (.int p1), .val (.long q2), .second, .val (.int (3 : Int32)), .val (.int y19), .val (.int y36), .val (.ref r234), .val (.ref r235), .val (.ref r236), .val (.ref r237), .val (.ref b238), .val (.ref b318), .unset, .unset] [(.ref b318)])) rfl (hb hby at_215) (n := 4) (by decide) (by decide) (by decide) (by decide)
         have c330_0 := c326_0.ext E330
         have c330_1 := c326_1.ext E330
         have c330_2 := c326_2.ext E330
         have c330_3 := c326_3.ext E330
         have c330_4 := c326_4.ext E330
         have c330_5 := c326_5.ext E330
         have c330_6 := c326_6.ext E330
         have c330_7 := c326_7.ext E330
         have c330_8 := c326_8.ext E330
         have c330_9 := c326_9.ext E330
         have c330_10 := c326_10.ext E330
         have c330_11 := c326_11.ext E330
         have c330_12 := c326_12.ext E330
         have c330_13 := c326_13.ext E330
         have c330_14 := c326_14.ext E330
         have c330_15 := c326_15.ext E330
         have c330_16 := c326_16.ext E330
         have c330_17 := c326_17.ext E330
         have c330_18 := xE326.ext E330
         have c330_19 := c326_19.ext E330
         have c330_20 := c326_20.ext E330
         have c330_21 := c326_25.ext E330
         have c330_22 := c326_28.ext E330
         have c330_23 := nf327.ext E330
         have c330_24 := xD326.ext E330
         have c330_25 := nf328.ext E330
         have c330_26 := nl326.ext E330
         have Z330 : n0 ≤ h330.size := Nat.le_trans Z326 E330.1
         have K330 := Keep.ext K326 E330
         have CR330 := CHr.trans c326_26 CH330
         refine own_goW (U' := T330.setTop (mkF m 217 #[.val (.int p0), .val (.int p1), .val (.long q2), .second, .val (.int (3 : Int32)), .val (.int y19), .val (.int y36), .val (.ref r234), .val (.ref r235), .val (.ref r236), .val (.ref r237), .val (.ref b238), .val (.ref b318), .unset, .unset] [(.ref a330), (.ref b318)])) (fun _ k => st330 _ k) ?_
         obtain ⟨cq331, kq331, q331a, q331b, q331c⟩ := isOf hZ e330 c330_18
         obtain ⟨_, _, ⟨T331, L331, k331, n331⟩, -, X331, ⟨Lc331, hQ331, l331, y331, z331⟩, st331⟩ := X330.interfaceBack hx (xi := (⟨"java/util/List", "add", "(Ljava/lang/Object;)Z"⟩ : MethodName)) (y := (⟨"java/util/ArrayList", "add", "(Ljava/lang/Object;)Z"⟩ : MethodName)) hown (mvT hZ (hw _ (own_mem 105 rfl))) (mvT hZ (hw _ (own_mem 106 rfl))) (mvT hZ (hw _ (own_mem 107 rfl))) (mvT hZ (hw _ (own_mem 108 rfl))) (mvT hZ (hw _ (own_mem 109 rfl))) (mvT hZ (hw _ (own_mem 110 rfl))) (mvT hZ (hw _ (own_mem 111 rfl))) (mvT hZ (hw _ (own_mem 95 rfl))) (by decide) (backOf (W := 0) (rm16s l Z aw hw [] b318 a330 r322 kr322 (2 : Int32) (2 : Int32) [(.ref a321), (.ref a325), .null, .null, .null, .null, .null, .null, .null, .null] h330 n0 Z330 (Ins.of_exa Ex330 (hw _ (own_mem 133 rfl))) c330_18 c330_23 c330_24 c330_25 c330_26 (by first | assumption | decide | rfl) (by first | assumption | decide | rfl) (by first | assumption | decide | rfl) (by first | assumption | decide | rfl) (by first | assumption | decide | rfl) (by first | assumption | decide | rfl) (by first | assumption | decide | rfl) (by first | assumption | decide | rfl)) hZ (hw _ (own_mem 112 rfl)) (hw _ (own_mem 37 rfl)) (by decide) (by decide)) q331a q331b q331c (g := (mkF m 217 #[.val (.int p0), .val (.int p1), .val (.long q2), .second, .val (.int (3 : Int32)), .val (.int y19), .val (.int y36), .val (.ref r234), .val (.ref r235), .val (.ref r236), .val (.ref r237), .val (.ref b238), .val (.ref b318), .unset, .unset] [(.ref a330), (.ref b318)])) rfl (by rw [hml]; rfl) (Steps.refl _) (argsL := [(.ref a330)]) (rest := []) (lenOf own_pd15 rfl) rfl (by show 2 * 0 + _ ≤ _; exact Nat.le_of_eq rfl) (hb hby at_217) (fun _ _ => ⟨rfl, e330, (by decide : 18 + 0 ≤ _), (by decide : 74 + 0 ≤ _)⟩)
         dsimp only [Pt.U, Pt.locs, Pt.cells, Pt.slots] at X331 l331 y331 z331 st331 hQ331
         subst l331 y331 z331
         obtain ⟨rfl, N331q, K331q, xE331, xS331, xD331, xM331, xV331⟩ := hQ331
         have N331 := Fr.app N326 N331q
         have ne_a330_b318 : a330 ≠ b318 := Exa.ne Ex330 c330_18 (by decide)
         have ne_a330_r322 : a330 ≠ r322 := Exa.neArv Ex330 c330_26 (hw _ (own_mem 19 rfl))
         have c331_0 := own_sta_keepX c330_0 K331q (allS c330_18.nostat (allS c330_26.nostat all0))
         have c331_1 := own_sta_keepX c330_1 K331q (allS c330_18.nostat (allS c330_26.nostat all0))
         have c331_2 := own_sta_keepX c330_2 K331q (allS c330_18.nostat (allS c330_26.nostat all0))
         have c331_3 := own_sta_keepX c330_3 K331q (allS c330_18.nostat (allS c330_26.nostat all0))
         have c331_4 := own_sta_keepX c330_4 K331q (allS c330_18.nostat (allS c330_26.nostat all0))
         have c331_5 := c330_5.keep K331q (ninS ne_w_b318 (ninS ne_w_r322 nin0))
         have c331_6 := c330_6.keep K331q
         have c331_7 := c330_7.keep K331q
         have c331_8 := c330_8.keep K331q
         have c331_9 := c330_9.keep K331q
         have c331_10 := c330_10.keep K331q
         have c331_11 := own_ins_keep c330_11 K331q
         have c331_12 := own_ins_keep c330_12 K331q
         have c331_13 := own_ins_keep c330_13 K331q
         have c331_14 := c330_14.keep K331q (ninS ne_b238_b318 (ninS ne_b238_r322 nin0))
         have c331_15 := c330_15.keep K331q (ninS ne_b238_b318 (ninS ne_b238_r322 nin0))
         have c331_16 := c330_16.keep K331q (ninS ne_b238_b318 (ninS ne_b238_r322 nin0))
         have c331_17 := c330_17.keep K331q (ninS ne_r241_b318 (ninS ne_r241_r322 nin0))
         have c331_18 := c330_18.keep K331q
         have c331_19 := c330_19.keep K331q
         have c331_20 := own_ins_keep c330_20 K331q
         have c331_21 := c330_21.keep K331q
         have c331_22 := own_ins_keep c330_22 K331q
         have c331_27 := Ex330.keep K331q
         have c331_28 := CHr.trans CR330 (CHr.keep K331q (allS (Safe.exa hZ.alike c330_18 (by decide) (by decide)) (allS (own_safe_arv hZ.alike c330_26 (by decide)) all0)) CR330.1)
         have c331_29 : k330 ≤ T331.heap.size := Nat.le_trans hk330 K331q.1
         have c331_30 := own_ins_keep (Ins.of_exa Ex330 (hw _ (own_mem 133 rfl))) K331q
         have nf332 : Fld Z T331.heap b318 "java/util/ArrayList" "size" "I" (.int (3 : Int32)) := xS331
         have nf333 : Fld Z T331.heap b318 "java/util/AbstractList" "modCount" "I" (.int (3 : Int32)) := xM331
         have nl331 : Arv Z T331.heap r322 kr322 (.object "java/lang/Object") (10 : Int32) [(.ref a321), (.ref a325), (.ref a330), .null, .null, .null, .null, .null, .null, .null] .null := xV331
         have Z331 : n0 ≤ T331.heap.size := Nat.le_trans Z330 K331q.1
         have K331 := Keep.trans K330 K331q (allS (Or.inr sz_b318) (allS (Or.inr sz_r322) all0))
         refine own_goW (U' := T331.setTop (mkF m 222 #[.val (.int p0), .val (.int p1), .val (.long q2), .second, .val (.int (3 : Int32)), .val (.int y19), .val (.int y36), .val (.ref r234), .val (.ref r235), .val (.ref r236), .val (.ref r237), .val (.ref b238), .val (.ref b318), .unset, .unset] [(.int (1 : Int32))])) (fun _ k => st331.trans k) ?_
         refine own_goW (U' := T331.setTop (mkF m 226 #[.val (.int p0), .val (.int p1), .val (.long q2), .second, .val (.int (3 : Int32)), .val (.int y19), .val (.int y36), .val (.ref r234), .val (.ref r235), .val (.ref r236), .val (.ref r237), .val (.ref b238), .val (.ref b318), .unset, .unset] [(.int (3 : Int32)), (.int y19)])) (fun _ k => XS.pop X331.here hx rfl (hb hby at_222) rfl rfl (XS.iload X331.here hx rfl (hb hby at_223) rfl (XS.iconst X331.here hx rfl (hb hby at_225) k))) ?_
         have hc226_334 : ¬ ((3 : Int32) < y19) := own_nlt hp1 (by decide)
         refine own_goW (U' := T331.setTop (mkF m 239 #[.val (.int p0), .val (.int p1), .val (.long q2), .second, .val (.int (3 : Int32)), .val (.int y19), .val (.int y36), .val (.ref r234), .val (.ref r235), .val (.ref r236), .val (.ref r237), .val (.ref b238), .val (.ref b318), .unset, .unset] [])) (fun _ k => XS.icmpYes X331.here hx rfl (pc0 := 226) (pc' := 239) rfl (hb hby at_226) rfl (flt hc226_334).2.2.2 (by decide) (by decide) k) ?_
         have hrq : y19 = (3 : Int32) := own_eqk (a := (2 : Int32)) (b := (3 : Int32)) (by decide) hc210_329 hp1
         have fq : Fld Z T331.heap b318 "java/util/ArrayList" "size" "I" (.int y19) := by rw [hrq]; exact nf332
         exact tail _ _ _ _ (own_weak X331 (by decide) (by decide)) _ rfl hS330 hZ hown c331_28 c331_29 N331 Z331 K331 _ c331_10 c331_14 c331_15 c331_16 c331_17 c331_6 c331_7 c331_8 c331_9 xE331 fq
        ·refine own_goW (U' := T326.setTop (mkF m 226 #[.val (.int p0), .val (.int p1), .val (.long q2), .second, .val (.int (3 : Int32)), .val (.int y19), .val (.int y36), .val (.ref r234), .val (.ref r235), .val (.ref r236), .val (.ref r237), .val (.ref b238), .val (.ref b318), .unset, .unset] [(.int (3 : Int32)), (.int y19)])) (fun _ k => XS.icmpYes X326.here hx rfl (pc0 := 210) (pc' := 223) rfl (hb hby at_210) rfl (flt hc210_329).2.2.2 (by decide) (by decide) (XS.iload X326.here hx rfl (hb hby at_223) rfl (XS.iconst X326.here hx rfl (hb hby at_225) k))) ?_
         have hc226_335 : ¬ ((3 : Int32) < y19) := own_nlt hc210_329 (by decide)
         refine own_goW (U' := T326.setTop (mkF m 239 #[.val (.int p0), .val (.int p1), .val (.long q2), .second, .val (.int (3 : Int32)), .val (.int y19), .val (.int y36), .val (.ref r234), .val (.ref r235), .val (.ref r236), .val (.ref r237), .val (.ref b238), .val (.ref b318), .unset, .unset] [])) (fun _ k => XS.icmpYes X326.here hx rfl (pc0 := 226) (pc' := 239) rfl (hb hby at_226) rfl (flt hc226_335).2.2.2 (by decide) (by decide) k) ?_
         have hrq : y19 = (2 : Int32) := own_eqk (a := (1 : Int32)) (b := (2 : Int32)) (by decide) hc194_324 hc210_329
         have fq : Fld Z T326.heap b318 "java/util/ArrayList" "size" "I" (.int y19) := by rw [hrq]; exact nf327
         exact tail _ _ _ _ (own_weak X326 (by decide) (by decide)) _ rfl hS325 hZ hown c326_26 c326_27 N326 Z326 K326 _ c326_10 c326_14 c326_15 c326_16 c326_17 c326_6 c326_7 c326_8 c326_9 xE326 fq
       ·refine own_goW (U' := T322.setTop (mkF m 210 #[.val (.int p0), .val (.int p1), .val (.long q2), .second, .val (.int (3 : Int32)), .val (.int y19), .val (.int y36), .val (.ref r234), .val (.ref r235), .val (.ref r236), .val (.ref r237), .val (.ref b238), .val (.ref b318), .unset, .unset] [(.int (2 : Int32)), (.int y19)])) (fun _ k => XS.icmpYes X322.here hx rfl (pc0 := 194) (pc' := 207) rfl (hb hby at_194) rfl (flt hc194_324).2.2.2 (by decide) (by decide) (XS.iload X322.here hx rfl (hb hby at_207) rfl (XS.iconst X322.here hx rfl (hb hby at_209) k))) ?_
        have hc210_336 : ¬ ((2 : Int32) < y19) := own_nlt hc194_324 (by decide)
        refine own_goW (U' := T322.setTop (mkF m 226 #[.val (.int p0), .val (.int p1), .val (.long q2), .second, .val (.int (3 : Int32)), .val (.int y19), .val (.int y36), .val (.ref r234), .val (.ref r235), .val (.ref r236), .val (.ref r237), .val (.ref b238), .val (.ref b318), .unset, .unset] [(.int (3 : Int32)), (.int y19)])) (fun _ k => XS.icmpYes X322.here hx rfl (pc0 := 210) (pc' := 223) rfl (hb hby at_210) rfl (flt hc210_336).2.2.2 (by decide) (by decide) (XS.iload X322.here hx rfl (hb hby at_223) rfl (XS.iconst X322.here hx rfl (hb hby at_225) k))) ?_
        have hc226_337 : ¬ ((3 : Int32) < y19) := own_nlt hc194_324 (by decide)
        refine own_goW (U' := T322.setTop (mkF m 239 #[.val (.int p0), .val (.int p1), .val (.long q2), .second, .val (.int (3 : Int32)), .val (.int y19), .val (.int y36), .val (.ref r234), .val (.ref r235), .val (.ref r236), .val (.ref r237), .val (.ref b238), .val (.ref b318), .unset, .unset] [])) (fun _ k => XS.icmpYes X322.here hx rfl (pc0 := 226) (pc' := 239) rfl (hb hby at_226) rfl (flt hc226_337).2.2.2 (by decide) (by decide) k) ?_
        have hrq : y19 = (1 : Int32) := own_eqk (a := (0 : Int32)) (b := (1 : Int32)) (by decide) hc178_320 hc194_324
        have fq : Fld Z T322.heap b318 "java/util/ArrayList" "size" "I" (.int y19) := by rw [hrq]; exact xS322
        exact tail _ _ _ _ (own_weak X322 (by decide) (by decide)) _ rfl hS321 hZ hown c322_23 c322_24 N322 Z322 K322 _ c322_10 c322_14 c322_15 c322_16 c322_17 c322_6 c322_7 c322_8 c322_9 xE322 fq
      ·refine own_goW (U' := T319.setTop (mkF m 194 #[.val (.int p0), .val (.int p1), .val (.long q2), .second, .val (.int (3 : Int32)), .val (.int y19), .val (.int y36), .val (.ref r234), .val (.ref r235), .val (.ref r236), .val (.ref r237), .val (.ref b238), .val (.ref b318), .unset, .unset] [(.int (1 : Int32)), (.int y19)])) (fun _ k => XS.ifYes X319.here hx rfl (pc0 := 178) (pc' := 191) rfl (hb hby at_178) rfl ((if0 _ _).trans (flt hc178_320).2.2.2) (by decide) (by decide) (XS.iload X319.here hx rfl (hb hby at_191) rfl (XS.iconst X319.here hx rfl (hb hby at_193) k))) ?_
       have hc194_338 : ¬ ((1 : Int32) < y19) := own_nlt hc178_320 (by decide)
       refine own_goW (U' := T319.setTop (mkF m 210 #[.val (.int p0), .val (.int p1), .val (.long q2), .second, .val (.int (3 : Int32)), .val (.int y19), .val (.int y36), .val (.ref r234), .val (.ref r235), .val (.ref r236), .val (.ref r237), .val (.ref b238), .val (.ref b318), .unset, .unset] [(.int (2 : Int32)), (.int y19)])) (fun _ k => XS.icmpYes X319.here hx rfl (pc0 := 194) (pc' := 207) rfl (hb hby at_194) rfl (flt hc194_338).2.2.2 (by decide) (by decide) (XS.iload X319.here hx rfl (hb hby at_207) rfl (XS.iconst X319.here hx rfl (hb hby at_209) k))) ?_
       have hc210_339 : ¬ ((2 : Int32) < y19) := own_nlt hc178_320 (by decide)
       refine own_goW (U' := T319.setTop (mkF m 226 #[.val (.int p0), .val (.int p1), .val (.long q2), .second, .val (.int (3 : Int32)), .val (.int y19), .val (.int y36), .val (.ref r234), .val (.ref r235), .val (.ref r236), .val (.ref r237), .val (.ref b238), .val (.ref b318), .unset, .unset] [(.int (3 : Int32)), (.int y19)])) (fun _ k => XS.icmpYes X319.here hx rfl (pc0 := 210) (pc' := 223) rfl (hb hby at_210) rfl (flt hc210_339).2.2.2 (by decide) (by decide) (XS.iload X319.here hx rfl (hb hby at_223) rfl (XS.iconst X319.here hx rfl (hb hby at_225) k))) ?_
       have hc226_340 : ¬ ((3 : Int32) < y19) := own_nlt hc178_320 (by decide)
       refine own_goW (U' := T319.setTop (mkF m 239 #[.val (.int p0), .val (.int p1), .val (.long q2), .second, .val (.int (3 : Int32)), .val (.int y19), .val (.int y36), .val (.ref r234), .val (.ref r235), .val (.ref r236), .val (.ref r237), .val (.ref b238), .val (.ref b318), .unset, .unset] [])) (fun _ k => XS.icmpYes X319.here hx rfl (pc0 := 226) (pc' := 239) rfl (hb hby at_226) rfl (flt hc226_340).2.2.2 (by decide) (by decide) k) ?_
       have hrq : y19 = (0 : Int32) := own_eq0 hr0 hc178_320
       have fq : Fld Z T319.heap b318 "java/util/ArrayList" "size" "I" (.int y19) := by rw [hrq]; exact xS319
       exact tail _ _ _ _ (own_weak X319 (by decide) (by decide)) _ rfl hS0 hZ hown c319_6 c319_7 N319 Z319 K319 _ c319_12 c319_16 c319_17 c319_18 c319_19 c319_8 c319_9 c319_10 c319_11 xE319 fq
    ·refine own_goW (U' := T244.setTop (mkF m 154 #[.val (.int p0), .val (.int p1), .val (.long q2), .second, .val (.int y6), .val (.int y19), .val (.int y36), .val (.ref r234), .val (.ref r235), .val (.ref r236), .val (.ref r237), .val (.ref b238), .unset, .unset, .unset] [(.int (3 : Int32)), (.int y6)])) (fun _ k => XS.icmpYes X244.here hx rfl (pc0 := 138) (pc' := 151) rfl (hb hby at_138) rfl (flt hc138_247).2.2.2 (by decide) (by decide) (XS.iload X244.here hx rfl (hb hby at_151) rfl (XS.iconst X244.here hx rfl (hb hby at_153) k))) ?_
     have hc154_341 : ¬ ((3 : Int32) < y6) := own_nlt hc138_247 (by decide)
     refine own_goW (U' := T244.setTop (mkF m 167 #[.val (.int p0), .val (.int p1), .val (.long q2), .second, .val (.int y6), .val (.int y19), .val (.int y36), .val (.ref r234), .val (.ref r235), .val (.ref r236), .val (.ref r237), .val (.ref b238), .unset, .unset, .unset] [])) (fun _ k => XS.icmpYes X244.here hx rfl (pc0 := 154) (pc' := 167) rfl (hb hby at_154) rfl (flt hc154_341).2.2.2 (by decide) (by decide) k) ?_
     obtain rfl : y6 = (2 : Int32) := own_eqk (a := (1 : Int32)) (b := (2 : Int32)) (by decide) hc122_243 hc138_247
     have hmr := own_min (by decide) hy19
     have hp1 := own_p1 hmr
     have hp2 := own_p2 hmr hy36
     have hr0 := own_r0 hmr
     have tail : ∀ (vm_ : Vm) (T_ : State) (l_ : List Loc) (k_ : Nat) (X_ : Stand p l e room_1 (s.setVm vm_) m #[(.int p0), (.int p1), (.long q2)] below meth c T_ l_ 24 160) (h_ : Heap) (e_ : T_.heap = h_) (hS_ : s.Since vm_ k_) (hZ : Z.Warmed39 (s.setVm vm_).vm) (hown : (s.setVm vm_).vm.findClass "com/example/hashtory/hashtory/ArgumentsPositionalsPinLaw" = some m.cls) (CR_ : CHr Z own_EL s.vm h0 vm_ h_) (Sz_ : k_ ≤ h_.size) (N_ : Fr n0 l_) (Z_ : n0 ≤ h_.size) (KP_ : Keep T237.heap h_ []) (req : Addr) (t_0 : Exa Z h_ b238 "java/util/ArrayList") (t_1 : Fld Z h_ b238 "java/util/ArrayList" "size" "I" (.int (2 : Int32))) (t_2 : Fld Z h_ b238 "java/util/ArrayList" "elementData" "[Ljava/lang/Object;" (.ref r241)) (t_3 : Fld Z h_ b238 "java/util/AbstractList" "modCount" "I" (.int (2 : Int32))) (t_4 : Arv Z h_ r241 kr241 (.object "java/lang/Object") (10 : Int32) [(.ref r234), (.ref r235), .null, .null, .null, .null, .null, .null, .null, .null] .null) (t_5 : Exa Z h_ r234 "java/lang/String") (t_6 : Exa Z h_ r235 "java/lang/String") (t_7 : Exa Z h_ r236 "java/lang/String") (t_8 : Exa Z h_ r237 "java/lang/String") (q_0 : Exa Z h_ req "java/util/ArrayList") (q_1 : Fld Z h_ req "java/util/ArrayList" "size" "I" (.int y19)), own_DoneW p e below s Z own_EL (Q0 Z p0 p1 q2 cs w k0 h0 n0) room_1.cells room_1.slots (T_.setTop (mkF m 239 #[.val (.int p0), .val (.int p1), .val (.long q2), .second, .val (.int (2 : Int32)), .val (.int y19), .val (.int y36), .val (.ref r234), .val (.ref r235), .val (.ref r236), .val (.ref r237), .val (.ref b238), .val (.ref req), .unset, .unset] [])) := by
      intro vm_ T_ l_ k_ X_ h_ e_ hS_ hZ hown CR_ Sz_ N_ Z_ KP_ req t_0 t_1 t_2 t_3 t_4 t_5 t_6 t_7 t_8 q_0 q_1
      have sb_0 := own_sta_keep c237_0 KP_
      have sb_1 := own_sta_keep c237_1 KP_
      have sb_2 := own_sta_keep c237_2 KP_
      have sb_3 := own_sta_keep c237_3 KP_
      have sb_4 := own_sta_keep c237_4 KP_
      have vb_ := c237_5.keep KP_ nin0
      obtain ⟨T342, h342, X342, e342, E342, A342, D342, -, st342⟩ := newO X_ hx hZ hown (hw _ (own_mem 59 rfl)) (hw _ (own_mem 60 rfl)) (hw _ (own_mem 61 rfl)) e_ (g := (mkF m 239 #[.val (.int p0), .val (.int p1), .val (.long q2), .second, .val (.int (2 : Int32)), .val (.int y19), .val (.int y36), .val (.ref r234), .val (.ref r235), .val (.ref r236), .val (.ref r237), .val (.ref b238), .val (.ref req), .unset, .unset] [])) rfl (hb hby at_239) (by decide) (by decide)
      obtain ⟨b342, g342⟩ : ∃ z, z = h_.size := ⟨_, rfl⟩
      have g_b342 : n0 ≤ b342 := Nat.le_trans Z_ (Nat.le_of_eq g342.symm)
      have sz_b342 : T237.heap.size ≤ b342 := Nat.le_trans KP_.1 (Nat.le_of_eq g342.symm)
      have ne_b238_b342 : b238 ≠ b342 := Nat.ne_of_lt (Nat.lt_of_lt_of_le t_0.lt (Nat.le_of_eq g342.symm))
      have ne_r241_b342 : r241 ≠ b342 := Nat.ne_of_lt (Nat.lt_of_lt_of_le t_4.lt (Nat.le_of_eq g342.symm))
      have ne_r234_b342 : r234 ≠ b342 := Nat.ne_of_lt (Nat.lt_of_lt_of_le t_5.lt (Nat.le_of_eq g342.symm))
      have ne_r235_b342 : r235 ≠ b342 := Nat.ne_of_lt (Nat.lt_of_lt_of_le t_6.lt (Nat.le_of_eq g342.symm))
      have ne_r236_b342 : r236 ≠ b342 := Nat.ne_of_lt (Nat.lt_of_lt_of_le t_7.lt (Nat.le_of_eq g342.symm))
      have ne_r237_b342 : r237 ≠ b342 := Nat.ne_of_lt (Nat.lt_of_lt_of_le t_8.lt (Nat.le_of_eq g342.symm))
      have ne_req_b342 : req ≠ b342 := Nat.ne_of_lt (Nat.lt_of_lt_of_le q_0.lt (Nat.le_of_eq g342.symm))
      have ne_w_b342 : w ≠ b342 := Nat.ne_of_lt (Nat.lt_of_lt_of_le vb_.lt (Nat.le_of_eq g342.symm))
      rw [← g342] at A342 D342 st342
      have c342_0 := t_0.ext E342
      have c342_1 := t_1.ext E342
      have c342_2 := t_2.ext E342
      have c342_3 := t_3.ext E342
      have c342_4 := t_4.ext E342
      have c342_5 := t_5.ext E342
      have c342_6 := t_6.ext E342
      have c342_7 := t_7.ext E342
      have c342_8 := t_8.ext E342
      have c342_9 := q_0.ext E342
      have c342_10 := q_1.ext E342
      have c342_11 := CHr.trans CR_ (CHr.ext E342 CR_.1)
      have c342_12 : k_ ≤ h342.size := Nat.le_trans Sz_ E342.1
      have c342_13 := sb_0.ext E342
      have c342_14 := sb_1.ext E342
      have c342_15 := sb_2.ext E342
      have c342_16 := sb_3.ext E342
      have c342_17 := sb_4.ext E342
      have c342_18 := vb_.ext E342
      have Z342 : n0 ≤ h342.size := Nat.le_trans Z_ E342.1
      have K342 := Keep.ext KP_ E342
      have F342_69 : Fld Z h342 b342 "com/example/hashtory/hashtory/Arguments" "positionals" "Ljava/util/List;" .null := D342 (Or.inr (hw _ (own_mem 69 rfl))) (ty := (.object "java/util/List")) (by decide)
      have F342_87 : Fld Z h342 b342 "com/example/hashtory/hashtory/Arguments" "options" "Ljava/util/Map;" .null := D342 (Or.inr (hw _ (own_mem 87 rfl))) (ty := (.object "java/util/Map")) (by decide)
      refine own_goW (U' := T342.setTop (mkF m 242 #[.val (.int p0), .val (.int p1), .val (.long q2), .second, .val (.int (2 : Int32)), .val (.int y19), .val (.int y36), .val (.ref r234), .val (.ref r235), .val (.ref r236), .val (.ref r237), .val (.ref b238), .val (.ref req), .unset, .unset] [(.ref b342)])) (fun _ k => st342 _ k) ?_
      refine own_goW (U' := T342.setTop (mkF m 246 #[.val (.int p0), .val (.int p1), .val (.long q2), .second, .val (.int (2 : Int32)), .val (.int y19), .val (.int y36), .val (.ref r234), .val (.ref r235), .val (.ref r236), .val (.ref r237), .val (.ref b238), .val (.ref req), .unset, .unset] [.null, (.ref b238), (.ref b342), (.ref b342)])) (fun _ k => XS.dup X342.here hx rfl (hb hby at_242) rfl rfl (XS.aload X342.here hx rfl (hb hby at_243) rfl rfl (XS.aconstNull X342.here hx rfl (hb hby at_245) k))) ?_
      have hO343 : own_S Z h342 r234 := own_S.keep c237_9 K342
      have hO344 : own_S Z h342 r235 := own_S.keep c237_11 K342
      obtain ⟨_, _, ⟨T345, L345, k345, n345⟩, -, X345, hS345, hg345, ⟨Lc345, hQ345, l345, y345, z345, C345⟩, st345⟩ := X342.specialBackS hx (y := (⟨"com/example/hashtory/hashtory/Arguments", "<init>", "(Ljava/util/List;Ljava/util/Set;)V"⟩ : MethodName)) rfl hown (mvT hZ (hw _ (own_mem 62 rfl))) (mvT hZ (hw _ (own_mem 63 rfl))) (mvT hZ (hw _ (own_mem 64 rfl))) (by decide) (backOfSH (s := s) (vm0 := vm_) (W := 1) (rm11_2 l Z aw hw [] b342 b238 cs w k0 r241 kr241 r234 r235 h342 n0 Z342 A342 F342_69 F342_87 c342_13 c342_17 c342_18 c342_0 c342_1 c342_2 c342_4 c342_5 c342_6 (by first | assumption | decide | rfl) (by first | assumption | decide | rfl) (by first | assumption | decide | rfl) (by first | assumption | decide | rfl)) hZ (hw _ (own_mem 64 rfl)) (hw _ (own_mem 61 rfl)) (by decide) (by decide) (own_EW hw) c342_11.1) (g := (mkF m 246 #[.val (.int p0), .val (.int p1), .val (.long q2), .second, .val (.int (2 : Int32)), .val (.int y19), .val (.int y36), .val (.ref r234), .val (.ref r235), .val (.ref r236), .val (.ref r237), .val (.ref b238), .val (.ref req), .unset, .unset] [.null, (.ref b238), (.ref b342), (.ref b342)])) rfl (by rw [hml]; rfl) (Steps.refl _) (a := b342) (argsL := [(.ref b238), .null]) (rest := [(.ref b342)]) (lenOf own_pd17 rfl) rfl (by show 2 * 0 + _ ≤ _; exact Nat.le_of_eq rfl) (hb hby at_246) (fun _ _ => ⟨rfl, e342, (by decide : 25 + 7 ≤ _), (by decide : 162 + 45 ≤ _)⟩)
      dsimp only [Pt.U, Pt.locs, Pt.cells, Pt.slots] at X345 hS345 hg345 l345 y345 z345 C345 st345 hQ345
      subst l345 y345 z345
      obtain ⟨X345, hS345, hZ, hown⟩ := rebS hS_ (by rw [show T342.heap = h342 from e342]; exact c342_12) X345 hS345 hg345 hZ hown
      obtain ⟨rfl, N345q, K345q, xE345, pl345, spl345, xP345, xL345, xS345, pa345, kp345, xD345, xV345⟩ := hQ345
      have N345 := Fr.app N_ N345q
      have ne_b238_pl345 : b238 ≠ pl345 := Nat.ne_of_lt (Nat.lt_of_lt_of_le c342_0.lt spl345)
      have ne_r241_pl345 : r241 ≠ pl345 := Nat.ne_of_lt (Nat.lt_of_lt_of_le c342_4.lt spl345)
      have ne_r234_pl345 : r234 ≠ pl345 := Nat.ne_of_lt (Nat.lt_of_lt_of_le c342_5.lt spl345)
      have ne_r235_pl345 : r235 ≠ pl345 := Nat.ne_of_lt (Nat.lt_of_lt_of_le c342_6.lt spl345)
      have ne_r236_pl345 : r236 ≠ pl345 := Nat.ne_of_lt (Nat.lt_of_lt_of_le c342_7.lt spl345)
      have ne_r237_pl345 : r237 ≠ pl345 := Nat.ne_of_lt (Nat.lt_of_lt_of_le c342_8.lt spl345)
      have ne_req_pl345 : req ≠ pl345 := Nat.ne_of_lt (Nat.lt_of_lt_of_le c342_9.lt spl345)
      have ne_w_pl345 : w ≠ pl345 := Nat.ne_of_lt (Nat.lt_of_lt_of_le c342_18.lt spl345)
      have ne_b342_pl345 : b342 ≠ pl345 := Nat.ne_of_lt (Nat.lt_of_lt_of_le A342.lt spl345)
      have g_pl345 : n0 ≤ pl345 := Nat.le_trans Z342 spl345
      have sz_pl345 : T237.heap.size ≤ pl345 := Nat.le_trans K342.1 spl345
      have c345_0 := c342_0.keep K345q
      have c345_1 := c342_1.keep K345q (ninS ne_b238_b342 nin0)
      have c345_2 := c342_2.keep K345q (ninS ne_b238_b342 nin0)
      have c345_3 := c342_3.keep K345q (ninS ne_b238_b342 nin0)
      have c345_4 := c342_4.keep K345q (ninS ne_r241_b342 nin0)
      have c345_5 := c342_5.keep K345q
      have c345_6 := c342_6.keep K345q
      have c345_7 := c342_7.keep K345q
      have c345_8 := c342_8.keep K345q
      have c345_9 := c342_9.keep K345q
      have c345_10 := c342_10.keep K345q (ninS ne_req_b342 nin0)
      have c345_11 := own_sta_keepX c342_13 K345q (allS A342.nostat all0)
      have c345_12 := own_sta_keepX c342_14 K345q (allS A342.nostat all0)
      have c345_13 := own_sta_keepX c342_15 K345q (allS A342.nostat all0)
      have c345_14 := own_sta_keepX c342_16 K345q (allS A342.nostat all0)
      have c345_15 := own_sta_keepX c342_17 K345q (allS A342.nostat all0)
      have c345_16 := c342_18.keep K345q (ninS ne_w_b342 nin0)
      have c345_17 := A342.keep K345q
      have Z345 : n0 ≤ T345.heap.size := Nat.le_trans Z342 K345q.1
      have K345 := Keep.trans K342 K345q (allS (Or.inr sz_b342) all0)
      have CT345 := CHr.trans c342_11 C345
      refine own_goW (U' := T345.setTop (mkF m 249 #[.val (.int p0), .val (.int p1), .val (.long q2), .second, .val (.int (2 : Int32)), .val (.int y19), .val (.int y36), .val (.ref r234), .val (.ref r235), .val (.ref r236), .val (.ref r237), .val (.ref b238), .val (.ref req), .unset, .unset] [(.ref b342)])) (fun _ k => st345.trans k) ?_
      refine own_goW (U' := T345.setTop (mkF m 257 #[.val (.int p0), .val (.int p1), .val (.long q2), .second, .val (.int (2 : Int32)), .val (.int y19), .val (.int y36), .val (.ref r234), .val (.ref r235), .val (.ref r236), .val (.ref r237), .val (.ref b238), .val (.ref req), .val (.ref b342), .unset] [(.int y36), (.ref req), (.ref b342)])) (fun _ k => XS.astore X345.here hx rfl (hb hby at_249) rfl rfl (l' := #[.val (.int p0), .val (.int p1), .val (.long q2), .second, .val (.int (2 : Int32)), .val (.int y19), .val (.int y36), .val (.ref r234), .val (.ref r235), .val (.ref r236), .val (.ref r237), .val (.ref b238), .val (.ref req), .val (.ref b342), .unset]) rfl (XS.aload X345.here hx rfl (hb hby at_251) rfl rfl (XS.aload X345.here hx rfl (hb hby at_253) rfl rfl (XS.iload X345.here hx rfl (hb hby at_255) rfl k)))) ?_
      obtain ⟨cq346, kq346, q346a, q346b, q346c⟩ := isOf hZ rfl xE345
      obtain ⟨_, _, ⟨T346, L346, k346, n346⟩, -, X346, ⟨Lc346, hQ346, l346, y346, z346⟩, st346⟩ := X345.virtualBack hx (y := (⟨"com/example/hashtory/hashtory/Arguments", "positionals", "(Ljava/util/List;I)Ljava/util/List;"⟩ : MethodName)) (z := (⟨"com/example/hashtory/hashtory/Arguments", "positionals", "(Ljava/util/List;I)Ljava/util/List;"⟩ : MethodName)) hown (mvT hZ (hw _ (own_mem 99 rfl))) (mvT hZ (hw _ (own_mem 100 rfl))) (notFace_of_selects (args := #[]) (mvT hZ (hw _ (own_mem 102 rfl)))) (mvT hZ (hw _ (own_mem 102 rfl))) (mvT hZ (hw _ (own_mem 101 rfl))) (by decide) (backOf (W := 0) (rm15 l Z aw hw [] b342 req y36 pl345 (2 : Int32) y19 T345.heap n0 Z345 xP345 xL345 xS345 c345_9 c345_10 (by first | assumption | decide | rfl) (by first | assumption | decide | rfl)) hZ (hw _ (own_mem 103 rfl)) (hw _ (own_mem 61 rfl)) (by decide) (by decide)) q346a q346c (g := (mkF m 257 #[.val (.int p0), .val (.int p1), .val (.long q2), .second, .val (.int (2 : Int32)), .val (.int y19), .val (.int y36), .val (.ref r234), .val (.ref r235), .val (.ref r236), .val (.ref r237), .val (.ref b238), .val (.ref req), .val (.ref b342), .unset] [(.int y36), (.ref req), (.ref b342)])) rfl (by rw [hml]; rfl) (Steps.refl _) (argsL := [(.ref req), (.int y36)]) (rest := []) (lenOf own_pd18 rfl) rfl (by show 2 * 0 + _ ≤ _; exact Nat.le_of_eq rfl) (hb hby at_257) (fun _ _ => ⟨rfl, rfl, (by decide : 32 + 0 ≤ _), (by decide : 207 + 0 ≤ _)⟩)
      dsimp only [Pt.U, Pt.locs, Pt.cells, Pt.slots] at X346 l346 y346 z346 st346 hQ346
      subst l346 y346 z346
      obtain ⟨rfl, N346q, e346⟩ := hQ346
      have N346 := Fr.app N345 N346q
      refine own_goW (U' := T346.setTop (mkF m 260 #[.val (.int p0), .val (.int p1), .val (.long q2), .second, .val (.int (2 : Int32)), .val (.int y19), .val (.int y36), .val (.ref r234), .val (.ref r235), .val (.ref r236), .val (.ref r237), .val (.ref b238), .val (.ref req), .val (.ref b342), .unset] [(.ref pl345)])) (fun _ k => st346.trans k) ?_
      refine own_goW (U' := T346.setTop (mkF m 264 #[.val (.int p0), .val (.int p1), .val (.long q2), .second, .val (.int (2 : Int32)), .val (.int y19), .val (.int y36), .val (.ref r234), .val (.ref r235), .val (.ref r236), .val (.ref r237), .val (.ref b238), .val (.ref req), .val (.ref b342), .val (.ref pl345)] [(.ref pl345)])) (fun _ k => XS.astore X346.here hx rfl (hb hby at_260) rfl rfl (l' := #[.val (.int p0), .val (.int p1), .val (.long q2), .second, .val (.int (2 : Int32)), .val (.int y19), .val (.int y36), .val (.ref r234), .val (.ref r235), .val (.ref r236), .val (.ref r237), .val (.ref b238), .val (.ref req), .val (.ref b342), .val (.ref pl345)]) rfl (XS.aload X346.here hx rfl (hb hby at_262) rfl rfl k)) ?_
      obtain ⟨cq347, kq347, q347a, q347b, q347c⟩ := isOf hZ e346 xL345
      obtain ⟨_, _, ⟨T347, L347, k347, n347⟩, -, X347, ⟨Lc347, hQ347, l347, y347, z347⟩, st347⟩ := X346.interfaceBack hx (xi := (⟨"java/util/List", "size", "()I"⟩ : MethodName)) (y := (⟨"java/util/ArrayList", "size", "()I"⟩ : MethodName)) hown (mvT hZ (hw _ (own_mem 104 rfl))) (mvT hZ (hw _ (own_mem 89 rfl))) (mvT hZ (hw _ (own_mem 90 rfl))) (mvT hZ (hw _ (own_mem 91 rfl))) (mvT hZ (hw _ (own_mem 92 rfl))) (mvT hZ (hw _ (own_mem 93 rfl))) (mvT hZ (hw _ (own_mem 94 rfl))) (mvT hZ (hw _ (own_mem 95 rfl))) (by decide) (backOf (W := 0) (rm14 l Z aw hw [] pl345 (2 : Int32) T345.heap n0 Z345 xS345) hZ (hw _ (own_mem 96 rfl)) (hw _ (own_mem 37 rfl)) (by decide) (by decide)) q347a q347b q347c (g := (mkF m 264 #[.val (.int p0), .val (.int p1), .val (.long q2), .second, .val (.int (2 : Int32)), .val (.int y19), .val (.int y36), .val (.ref r234), .val (.ref r235), .val (.ref r236), .val (.ref r237), .val (.ref b238), .val (.ref req), .val (.ref b342), .val (.ref pl345)] [(.ref pl345)])) rfl (by rw [hml]; rfl) (Steps.refl _) (argsL := []) (rest := []) (lenOf own_pd5 rfl) rfl (by show 2 * 0 + _ ≤ _; exact Nat.le_of_eq rfl) (hb hby at_264) (fun _ _ => ⟨rfl, e346, (by decide : 32 + 0 ≤ _), (by decide : 207 + 0 ≤ _)⟩)
      dsimp only [Pt.U, Pt.locs, Pt.cells, Pt.slots] at X347 l347 y347 z347 st347 hQ347
      subst l347 y347 z347
      obtain ⟨rfl, N347q, e347⟩ := hQ347
      have N347 := Fr.app N346 N347q
      refine own_goW (U' := T347.setTop (mkF m 269 #[.val (.int p0), .val (.int p1), .val (.long q2), .second, .val (.int (2 : Int32)), .val (.int y19), .val (.int y36), .val (.ref r234), .val (.ref r235), .val (.ref r236), .val (.ref r237), .val (.ref b238), .val (.ref req), .val (.ref b342), .val (.ref pl345)] [(.int (2 : Int32))])) (fun _ k => st347.trans k) ?_
      refine own_goW (U' := T347.setTop (mkF m 271 #[.val (.int p0), .val (.int p1), .val (.long q2), .second, .val (.int (2 : Int32)), .val (.int y19), .val (.int y36), .val (.ref r234), .val (.ref r235), .val (.ref r236), .val (.ref r237), .val (.ref b238), .val (.ref req), .val (.ref b342), .val (.ref pl345)] [(.int (2 : Int32)), (.int (2 : Int32))])) (fun _ k => XS.iload X347.here hx rfl (hb hby at_269) rfl k) ?_
      refine own_goW (U' := T347.setTop (mkF m 278 #[.val (.int p0), .val (.int p1), .val (.long q2), .second, .val (.int (2 : Int32)), .val (.int y19), .val (.int y36), .val (.ref r234), .val (.ref r235), .val (.ref r236), .val (.ref r237), .val (.ref b238), .val (.ref req), .val (.ref b342), .val (.ref pl345)] [(.int (2 : Int32))])) (fun _ k => XS.icmpYes X347.here hx rfl (pc0 := 271) (pc' := 276) rfl (hb hby at_271) rfl (teq (by decide : ((2 : Int32) = (2 : Int32)))).1 (by decide) (by decide) (XS.iload X347.here hx rfl (hb hby at_276) rfl k)) ?_
      refine own_goW (U' := T347.setTop (mkF m 284 #[.val (.int p0), .val (.int p1), .val (.long q2), .second, .val (.int (2 : Int32)), .val (.int y19), .val (.int y36), .val (.ref r234), .val (.ref r235), .val (.ref r236), .val (.ref r237), .val (.ref b238), .val (.ref req), .val (.ref b342), .val (.ref pl345)] [(.int (0 : Int32)), (.ref pl345)])) (fun _ k => XS.ifNo X347.here hx rfl (hb hby at_278) rfl ((if0 _ _).trans (tlt (by decide : ((0 : Int32) < (2 : Int32)))).2.2.2) (XS.aload X347.here hx rfl (hb hby at_281) rfl rfl (XS.iconst X347.here hx rfl (hb hby at_283) k))) ?_
      obtain ⟨cq348, kq348, q348a, q348b, q348c⟩ := isOf hZ e347 xL345
      obtain ⟨_, _, ⟨T348, L348, k348, n348⟩, -, X348, ⟨Lc348, hQ348, l348, y348, z348⟩, st348⟩ := X347.interfaceBack hx (xi := (⟨"java/util/List", "get", "(I)Ljava/lang/Object;"⟩ : MethodName)) (y := (⟨"java/util/ArrayList", "get", "(I)Ljava/lang/Object;"⟩ : MethodName)) hown (mvT hZ (hw _ (own_mem 181 rfl))) (mvT hZ (hw _ (own_mem 138 rfl))) (mvT hZ (hw _ (own_mem 139 rfl))) (mvT hZ (hw _ (own_mem 140 rfl))) (mvT hZ (hw _ (own_mem 141 rfl))) (mvT hZ (hw _ (own_mem 142 rfl))) (mvT hZ (hw _ (own_mem 143 rfl))) (mvT hZ (hw _ (own_mem 95 rfl))) (by decide) (backOf (W := 0) (rm20 l Z aw hw [] pl345 (0 : Int32) (2 : Int32) pa345 kp345 [(.ref r234), (.ref r235), .null, .null, .null, .null, .null, .null, .null, .null] r234 T345.heap n0 Z345 xL345 xS345 xD345 xV345 (by first | assumption | decide | rfl) (by first | assumption | decide | rfl) (by first | assumption | decide | rfl) (by first | assumption | decide | rfl)) hZ (hw _ (own_mem 144 rfl)) (hw _ (own_mem 37 rfl)) (by decide) (by decide)) q348a q348b q348c (g := (mkF m 284 #[.val (.int p0), .val (.int p1), .val (.long q2), .second, .val (.int (2 : Int32)), .val (.int y19), .val (.int y36), .val (.ref r234), .val (.ref r235), .val (.ref r236), .val (.ref r237), .val (.ref b238), .val (.ref req), .val (.ref b342), .val (.ref pl345)] [(.int (0 : Int32)), (.ref pl345)])) rfl (by rw [hml]; rfl) (Steps.refl _) (argsL := [(.int (0 : Int32))]) (rest := []) (lenOf own_pd9 rfl) rfl (by show 2 * 0 + _ ≤ _; exact Nat.le_of_eq rfl) (hb hby at_284) (fun _ _ => ⟨rfl, e347, (by decide : 32 + 0 ≤ _), (by decide : 207 + 0 ≤ _)⟩)
      dsimp only [Pt.U, Pt.locs, Pt.cells, Pt.slots] at X348 l348 y348 z348 st348 hQ348
      subst l348 y348 z348
      obtain ⟨rfl, N348q, e348⟩ := hQ348
      have N348 := Fr.app N347 N348q
      refine own_goW (U' := T348.setTop (mkF m 289 #[.val (.int p0), .val (.int p1), .val (.long q2), .second, .val (.int (2 : Int32)), .val (.int y19), .val (.int y36), .val (.ref r234), .val (.ref r235), .val (.ref r236), .val (.ref r237), .val (.ref b238), .val (.ref req), .val (.ref b342), .val (.ref pl345)] [(.ref r234)])) (fun _ k => st348.trans k) ?_
      obtain ⟨T349, X349, e349, st349⟩ := castY X348 hx hZ hown (hw _ (own_mem 182 rfl)) e348 (Ins.self c345_5) (g := (mkF m 289 #[.val (.int p0), .val (.int p1), .val (.long q2), .second, .val (.int (2 : Int32)), .val (.int y19), .val (.int y36), .val (.ref r234), .val (.ref r235), .val (.ref r236), .val (.ref r237), .val (.ref b238), .val (.ref req), .val (.ref b342), .val (.ref pl345)] [(.ref r234)])) rfl rfl (hb hby at_289)
      refine own_goW (U' := T349.setTop (mkF m 292 #[.val (.int p0), .val (.int p1), .val (.long q2), .second, .val (.int (2 : Int32)), .val (.int y19), .val (.int y36), .val (.ref r234), .val (.ref r235), .val (.ref r236), .val (.ref r237), .val (.ref b238), .val (.ref req), .val (.ref b342), .val (.ref pl345)] [(.ref r234)])) (fun _ k => st349 _ k) ?_
      refine own_goW (U' := T349.setTop (mkF m 294 #[.val (.int p0), .val (.int p1), .val (.long q2), .second, .val (.int (2 : Int32)), .val (.int y19), .val (.int y36), .val (.ref r234), .val (.ref r235), .val (.ref r236), .val (.ref r237), .val (.ref b238), .val (.ref req), .val (.ref b342), .val (.ref pl345)] [(.ref r234), (.ref r234)])) (fun _ k => XS.aload X349.here hx rfl (hb hby at_292) rfl rfl k) ?_
      obtain ⟨cq350, kq350, q350a, q350b, q350c⟩ := isOf hZ e349 c345_5
      obtain ⟨_, _, ⟨T350, L350, k350, n350⟩, -, X350, ⟨Lc350, hQ350, l350, y350, z350⟩, st350⟩ := X349.virtualBack hx (y := (⟨"java/lang/String", "equals", "(Ljava/lang/Object;)Z"⟩ : MethodName)) (z := (⟨"java/lang/String", "equals", "(Ljava/lang/Object;)Z"⟩ : MethodName)) hown (mvT hZ (hw _ (own_mem 183 rfl))) (mvT hZ (hw _ (own_mem 184 rfl))) (notFace_of_selects (args := #[]) (mvT hZ (hw _ (own_mem 186 rfl)))) (mvT hZ (hw _ (own_mem 186 rfl))) (mvT hZ (hw _ (own_mem 185 rfl))) (by decide) (backOf (W := 0) (rm28 l Z aw hw [] r234 T345.heap n0 Z345 ) hZ (hw _ (own_mem 187 rfl)) (hw _ (own_mem 11 rfl)) (by decide) (by decide)) q350a q350c (g := (mkF m 294 #[.val (.int p0), .val (.int p1), .val (.long q2), .second, .val (.int (2 : Int32)), .val (.int y19), .val (.int y36), .val (.ref r234), .val (.ref r235), .val (.ref r236), .val (.ref r237), .val (.ref b238), .val (.ref req), .val (.ref b342), .val (.ref pl345)] [(.ref r234), (.ref r234)])) rfl (by rw [hml]; rfl) (Steps.refl _) (argsL := [(.ref r234)]) (rest := []) (lenOf own_pd15 rfl) rfl (by show 2 * 0 + _ ≤ _; exact Nat.le_of_eq rfl) (hb hby at_294) (fun _ _ => ⟨rfl, e349, (by decide : 32 + 0 ≤ _), (by decide : 207 + 0 ≤ _)⟩)
      dsimp only [Pt.U, Pt.locs, Pt.cells, Pt.slots] at X350 l350 y350 z350 st350 hQ350
      subst l350 y350 z350
      obtain ⟨rfl, N350q, e350⟩ := hQ350
      have N350 := Fr.app N348 N350q
      refine own_goW (U' := T350.setTop (mkF m 297 #[.val (.int p0), .val (.int p1), .val (.long q2), .second, .val (.int (2 : Int32)), .val (.int y19), .val (.int y36), .val (.ref r234), .val (.ref r235), .val (.ref r236), .val (.ref r237), .val (.ref b238), .val (.ref req), .val (.ref b342), .val (.ref pl345)] [(.int (1 : Int32))])) (fun _ k => st350.trans k) ?_
      refine own_goW (U' := T350.setTop (mkF m 305 #[.val (.int p0), .val (.int p1), .val (.long q2), .second, .val (.int (2 : Int32)), .val (.int y19), .val (.int y36), .val (.ref r234), .val (.ref r235), .val (.ref r236), .val (.ref r237), .val (.ref b238), .val (.ref req), .val (.ref b342), .val (.ref pl345)] [(.int (1 : Int32)), (.int (2 : Int32))])) (fun _ k => XS.ifYes X350.here hx rfl (pc0 := 297) (pc' := 302) rfl (hb hby at_297) rfl ((if0 _ _).trans (feq (by decide : ¬ ((1 : Int32) = (0 : Int32)))).2) (by decide) (by decide) (XS.iload X350.here hx rfl (hb hby at_302) rfl (XS.iconst X350.here hx rfl (hb hby at_304) k))) ?_
      refine own_goW (U' := T350.setTop (mkF m 311 #[.val (.int p0), .val (.int p1), .val (.long q2), .second, .val (.int (2 : Int32)), .val (.int y19), .val (.int y36), .val (.ref r234), .val (.ref r235), .val (.ref r236), .val (.ref r237), .val (.ref b238), .val (.ref req), .val (.ref b342), .val (.ref pl345)] [(.int (1 : Int32)), (.ref pl345)])) (fun _ k => XS.icmpNo X350.here hx rfl (hb hby at_305) rfl (tlt (by decide : ((1 : Int32) < (2 : Int32)))).2.2.2 (XS.aload X350.here hx rfl (hb hby at_308) rfl rfl (XS.iconst X350.here hx rfl (hb hby at_310) k))) ?_
      obtain ⟨cq351, kq351, q351a, q351b, q351c⟩ := isOf hZ e350 xL345
      obtain ⟨_, _, ⟨T351, L351, k351, n351⟩, -, X351, ⟨Lc351, hQ351, l351, y351, z351⟩, st351⟩ := X350.interfaceBack hx (xi := (⟨"java/util/List", "get", "(I)Ljava/lang/Object;"⟩ : MethodName)) (y := (⟨"java/util/ArrayList", "get", "(I)Ljava/lang/Object;"⟩ : MethodName)) hown (mvT hZ (hw _ (own_mem 181 rfl))) (mvT hZ (hw _ (own_mem 138 rfl))) (mvT hZ (hw _ (own_mem 139 rfl))) (mvT hZ (hw _ (own_mem 140 rfl))) (mvT hZ (hw _ (own_mem 141 rfl))) (mvT hZ (hw _ (own_mem 142 rfl))) (mvT hZ (hw _ (own_mem 143 rfl))) (mvT hZ (hw _ (own_mem 95 rfl))) (by decide) (backOf (W := 0) (rm20 l Z aw hw [] pl345 (1 : Int32) (2 : Int32) pa345 kp345 [(.ref r234), (.ref r235), .null, .null, .null, .null, .null, .null, .null, .null] r235 T345.heap n0 Z345 xL345 xS345 xD345 xV345 (by first | assumption | decide | rfl) (by first | assumption | decide | rfl) (by first | assumption | decide | rfl) (by first | assumption | decide | rfl)) hZ (hw _ (own_mem 144 rfl)) (hw _ (own_mem 37 rfl)) (by decide) (by decide)) q351a q351b q351c (g := (mkF m 311 #[.val (.int p0), .val (.int p1), .val (.long q2), .second, .val (.int (2 : Int32)), .val (.int y19), .val (.int y36), .val (.ref r234), .val (.ref r235), .val (.ref r236), .val (.ref r237), .val (.ref b238), .val (.ref req), .val (.ref b342), .val (.ref pl345)] [(.int (1 : Int32)), (.ref pl345)])) rfl (by rw [hml]; rfl) (Steps.refl _) (argsL := [(.int (1 : Int32))]) (rest := []) (lenOf own_pd9 rfl) rfl (by show 2 * 0 + _ ≤ _; exact Nat.le_of_eq rfl) (hb hby at_311) (fun _ _ => ⟨rfl, e350, (by decide : 32 + 0 ≤ _), (by decide : 207 + 0 ≤ _)⟩)
      dsimp only [Pt.U, Pt.locs, Pt.cells, Pt.slots] at X351 l351 y351 z351 st351 hQ351
      subst l351 y351 z351
      obtain ⟨rfl, N351q, e351⟩ := hQ351
      have N351 := Fr.app N350 N351q
      refine own_goW (U' := T351.setTop (mkF m 316 #[.val (.int p0), .val (.int p1), .val (.long q2), .second, .val (.int (2 : Int32)), .val (.int y19), .val (.int y36), .val (.ref r234), .val (.ref r235), .val (.ref r236), .val (.ref r237), .val (.ref b238), .val (.ref req), .val (.ref b342), .val (.ref pl345)] [(.ref r235)])) (fun _ k => st351.trans k) ?_
      obtain ⟨T352, X352, e352, st352⟩ := castY X351 hx hZ hown (hw _ (own_mem 182 rfl)) e351 (Ins.self c345_6) (g := (mkF m 316 #[.val (.int p0), .val (.int p1), .val (.long q2), .second, .val (.int (2 : Int32)), .val (.int y19), .val (.int y36), .val (.ref r234), .val (.ref r235), .val (.ref r236), .val (.ref r237), .val (.ref b238), .val (.ref req), .val (.ref b342), .val (.ref pl345)] [(.ref r235)])) rfl rfl (hb hby at_316)
      refine own_goW (U' := T352.setTop (mkF m 319 #[.val (.int p0), .val (.int p1), .val (.long q2), .second, .val (.int (2 : Int32)), .val (.int y19), .val (.int y36), .val (.ref r234), .val (.ref r235), .val (.ref r236), .val (.ref r237), .val (.ref b238), .val (.ref req), .val (.ref b342), .val (.ref pl345)] [(.ref r235)])) (fun _ k => st352 _ k) ?_
      refine own_goW (U' := T352.setTop (mkF m 321 #[.val (.int p0), .val (.int p1), .val (.long q2), .second, .val (.int (2 : Int32)), .val (.int y19), .val (.int y36), .val (.ref r234), .val (.ref r235), .val (.ref r236), .val (.ref r237), .val (.ref b238), .val (.ref req), .val (.ref b342), .val (.ref pl345)] [(.ref r235), (.ref r235)])) (fun _ k => XS.aload X352.here hx rfl (hb hby at_319) rfl rfl k) ?_
      obtain ⟨cq353, kq353, q353a, q353b, q353c⟩ := isOf hZ e352 c345_6
      obtain ⟨_, _, ⟨T353, L353, k353, n353⟩, -, X353, ⟨Lc353, hQ353, l353, y353, z353⟩, st353⟩ := X352.virtualBack hx (y := (⟨"java/lang/String", "equals", "(Ljava/lang/Object;)Z"⟩ : MethodName)) (z := (⟨"java/lang/String", "equals", "(Ljava/lang/Object;)Z"⟩ : MethodName)) hown (mvT hZ (hw _ (own_mem 183 rfl))) (mvT hZ (hw _ (own_mem 184 rfl))) (notFace_of_selects (args := #[]) (mvT hZ (hw _ (own_mem 186 rfl)))) (mvT hZ (hw _ (own_mem 186 rfl))) (mvT hZ (hw _ (own_mem 185 rfl))) (by decide) (backOf (W := 0) (rm28 l Z aw hw [] r235 T345.heap n0 Z345 ) hZ (hw _ (own_mem 187 rfl)) (hw _ (own_mem 11 rfl)) (by decide) (by decide)) q353a q353c (g := (mkF m 321 #[.val (.int p0), .val (.int p1), .val (.long q2), .second, .val (.int (2 : Int32)), .val (.int y19), .val (.int y36), .val (.ref r234), .val (.ref r235), .val (.ref r236), .val (.ref r237), .val (.ref b238), .val (.ref req), .val (.ref b342), .val (.ref pl345)] [(.ref r235), (.ref r235)])) rfl (by rw [hml]; rfl) (Steps.refl _) (argsL := [(.ref r235)]) (rest := []) (lenOf own_pd15 rfl) rfl (by show 2 * 0 + _ ≤ _; exact Nat.le_of_eq rfl) (hb hby at_321) (fun _ _ => ⟨rfl, e352, (by decide : 32 + 0 ≤ _), (by decide : 207 + 0 ≤ _)⟩)
      dsimp only [Pt.U, Pt.locs, Pt.cells, Pt.slots] at X353 l353 y353 z353 st353 hQ353
      subst l353 y353 z353
      obtain ⟨rfl, N353q, e353⟩ := hQ353
      have N353 := Fr.app N351 N353q
      refine own_goW (U' := T353.setTop (mkF m 324 #[.val (.int p0), .val (.int p1), .val (.long q2), .second, .val (.int (2 : Int32)), .val (.int y19), .val (.int y36), .val (.ref r234), .val (.ref r235), .val (.ref r236), .val (.ref r237), .val (.ref b238), .val (.ref req), .val (.ref b342), .val (.ref pl345)] [(.int (1 : Int32))])) (fun _ k => st353.trans k) ?_
      refine own_goW (U' := T353.setTop (mkF m 332 #[.val (.int p0), .val (.int p1), .val (.long q2), .second, .val (.int (2 : Int32)), .val (.int y19), .val (.int y36), .val (.ref r234), .val (.ref r235), .val (.ref r236), .val (.ref r237), .val (.ref b238), .val (.ref req), .val (.ref b342), .val (.ref pl345)] [(.int (2 : Int32)), (.int (2 : Int32))])) (fun _ k => XS.ifYes X353.here hx rfl (pc0 := 324) (pc' := 329) rfl (hb hby at_324) rfl ((if0 _ _).trans (feq (by decide : ¬ ((1 : Int32) = (0 : Int32)))).2) (by decide) (by decide) (XS.iload X353.here hx rfl (hb hby at_329) rfl (XS.iconst X353.here hx rfl (hb hby at_331) k))) ?_
      refine own_goW (U' := T353.setTop (mkF m 359 #[.val (.int p0), .val (.int p1), .val (.long q2), .second, .val (.int (2 : Int32)), .val (.int y19), .val (.int y36), .val (.ref r234), .val (.ref r235), .val (.ref r236), .val (.ref r237), .val (.ref b238), .val (.ref req), .val (.ref b342), .val (.ref pl345)] [(.int (3 : Int32)), (.int (2 : Int32))])) (fun _ k => XS.icmpYes X353.here hx rfl (pc0 := 332) (pc' := 356) rfl (hb hby at_332) rfl (flt (by decide : ¬ ((2 : Int32) < (2 : Int32)))).2.2.2 (by decide) (by decide) (XS.iload X353.here hx rfl (hb hby at_356) rfl (XS.iconst X353.here hx rfl (hb hby at_358) k))) ?_
      refine own_goW (U' := T353.setTop (mkF m 384 #[.val (.int p0), .val (.int p1), .val (.long q2), .second, .val (.int (2 : Int32)), .val (.int y19), .val (.int y36), .val (.ref r234), .val (.ref r235), .val (.ref r236), .val (.ref r237), .val (.ref b238), .val (.ref req), .val (.ref b342), .val (.ref pl345)] [(.int (1 : Int32))])) (fun _ k => XS.icmpYes X353.here hx rfl (pc0 := 359) (pc' := 383) rfl (hb hby at_359) rfl (flt (by decide : ¬ ((3 : Int32) < (2 : Int32)))).2.2.2 (by decide) (by decide) (XS.iconst X353.here hx rfl (hb hby at_383) k)) ?_
      refine own_retW (vm₁ := T345.vm) X353 hS345 (by rw [show T353.heap = T345.heap from e353]; exact (Nat.le_refl _)) (by rw [hh, show T353.heap = T345.heap from e353]; exact CHr.trans CT345 (CHv.at (s := s) (vm0 := T345.vm) X353 hZ (own_EW hw) CT345.1)) (v := (some (.int (1 : Int32)))) hlk (fun h => by rw [Bd.returns] at h; cases h) (by decide) (by decide) (fun fs hr => retN X353 hx (t := .boolean) Bd.returns (by simp) (hb hby at_384) hr) ?_
      show (Q0 Z p0 p1 q2 cs w k0 h0 n0) _ T353.heap _
      rw [e353]
      exact ⟨rfl, N353⟩
     obtain ⟨T354, h354, X354, e354, E354, A354, D354, -, st354⟩ := newO X244 hx hZ hown (hw _ (own_mem 35 rfl)) (hw _ (own_mem 36 rfl)) (hw _ (own_mem 37 rfl)) rfl (g := (mkF m 167 #[.val (.int p0), .val (.int p1), .val (.long q2), .second, .val (.int (2 : Int32)), .val (.int y19), .val (.int y36), .val (.ref r234), .val (.ref r235), .val (.ref r236), .val (.ref r237), .val (.ref b238), .unset, .unset, .unset] [])) rfl (hb hby at_167) (by decide) (by decide)
     obtain ⟨b354, g354⟩ : ∃ z, z = T244.heap.size := ⟨_, rfl⟩
     have g_b354 : n0 ≤ b354 := Nat.le_trans Z244 (Nat.le_of_eq g354.symm)
     have sz_b354 : T237.heap.size ≤ b354 := Nat.le_trans K244.1 (Nat.le_of_eq g354.symm)
     have ne_w_b354 : w ≠ b354 := Nat.ne_of_lt (Nat.lt_of_lt_of_le c244_5.lt (Nat.le_of_eq g354.symm))
     have ne_r234_b354 : r234 ≠ b354 := Nat.ne_of_lt (Nat.lt_of_lt_of_le c244_8.lt (Nat.le_of_eq g354.symm))
     have ne_r235_b354 : r235 ≠ b354 := Nat.ne_of_lt (Nat.lt_of_lt_of_le c244_9.lt (Nat.le_of_eq g354.symm))
     have ne_r236_b354 : r236 ≠ b354 := Nat.ne_of_lt (Nat.lt_of_lt_of_le c244_10.lt (Nat.le_of_eq g354.symm))
     have ne_r237_b354 : r237 ≠ b354 := Nat.ne_of_lt (Nat.lt_of_lt_of_le c244_11.lt (Nat.le_of_eq g354.symm))
     have ne_b238_b354 : b238 ≠ b354 := Nat.ne_of_lt (Nat.lt_of_lt_of_le xE244.lt (Nat.le_of_eq g354.symm))
     have ne_r241_b354 : r241 ≠ b354 := Nat.ne_of_lt (Nat.lt_of_lt_of_le nl244.lt (Nat.le_of_eq g354.symm))
     rw [← g354] at A354 D354 st354
     have c354_0 := c244_0.ext E354
     have c354_1 := c244_1.ext E354
     have c354_2 := c244_2.ext E354
     have c354_3 := c244_3.ext E354
     have c354_4 := c244_4.ext E354
     have c354_5 := c244_5.ext E354
     have c354_6 := CHr.trans c244_6 (CHr.ext E354 c244_6.1)
     have c354_7 : 0 ≤ h354.size := Nat.le_trans c244_7 E354.1
     have c354_8 := c244_8.ext E354
     have c354_9 := c244_9.ext E354
     have c354_10 := c244_10.ext E354
     have c354_11 := c244_11.ext E354
     have c354_12 := xE244.ext E354
     have c354_13 := c244_13.ext E354
     have c354_14 := c244_18.ext E354
     have c354_15 := nf245.ext E354
     have c354_16 := xD244.ext E354
     have c354_17 := nf246.ext E354
     have c354_18 := nl244.ext E354
     have Z354 : n0 ≤ h354.size := Nat.le_trans Z244 E354.1
     have K354 := Keep.ext K244 E354
     have F354_55 : Fld Z h354 b354 "java/util/AbstractList" "modCount" "I" (.int (0 : Int32)) := D354 (Or.inl (hw _ (own_mem 55 rfl))) (ty := .int) (by decide)
     have F354_58 : Fld Z h354 b354 "java/util/ArrayList" "elementData" "[Ljava/lang/Object;" .null := D354 (Or.inl (hw _ (own_mem 58 rfl))) (ty := (.array (.object "java/lang/Object"))) (by decide)
     have F354_98 : Fld Z h354 b354 "java/util/ArrayList" "size" "I" (.int (0 : Int32)) := D354 (Or.inl (hw _ (own_mem 98 rfl))) (ty := .int) (by decide)
     refine own_goW (U' := T354.setTop (mkF m 170 #[.val (.int p0), .val (.int p1), .val (.long q2), .second, .val (.int (2 : Int32)), .val (.int y19), .val (.int y36), .val (.ref r234), .val (.ref r235), .val (.ref r236), .val (.ref r237), .val (.ref b238), .unset, .unset, .unset] [(.ref b354)])) (fun _ k => st354 _ k) ?_
     refine own_goW (U' := T354.setTop (mkF m 171 #[.val (.int p0), .val (.int p1), .val (.long q2), .second, .val (.int (2 : Int32)), .val (.int y19), .val (.int y36), .val (.ref r234), .val (.ref r235), .val (.ref r236), .val (.ref r237), .val (.ref b238), .unset, .unset, .unset] [(.ref b354), (.ref b354)])) (fun _ k => XS.dup X354.here hx rfl (hb hby at_170) rfl rfl k) ?_
     obtain ⟨_, _, ⟨T355, L355, k355, n355⟩, -, X355, ⟨Lc355, hQ355, l355, y355, z355⟩, st355⟩ := X354.specialBack hx (y := (⟨"java/util/ArrayList", "<init>", "()V"⟩ : MethodName)) rfl hown (mvT hZ (hw _ (own_mem 38 rfl))) (mvT hZ (hw _ (own_mem 39 rfl))) (mvT hZ (hw _ (own_mem 40 rfl))) (by decide) (backOf (W := 1) (rm8 l Z aw hw [] b354 w h354 n0 Z354 c354_4 A354 F354_98 F354_58 F354_55 (by first | assumption | decide | rfl)) hZ (hw _ (own_mem 40 rfl)) (hw _ (own_mem 37 rfl)) (by decide) (by decide)) (g := (mkF m 171 #[.val (.int p0), .val (.int p1), .val (.long q2), .second, .val (.int (2 : Int32)), .val (.int y19), .val (.int y36), .val (.ref r234), .val (.ref r235), .val (.ref r236), .val (.ref r237), .val (.ref b238), .unset, .unset, .unset] [(.ref b354), (.ref b354)])) rfl (by rw [hml]; rfl) (Steps.refl _) (a := b354) (argsL := []) (rest := [(.ref b354)]) (lenOf own_pd10 rfl) rfl (by show 2 * 0 + _ ≤ _; exact Nat.le_of_eq rfl) (hb hby at_171) (fun _ _ => ⟨rfl, e354, (by decide : 11 + 0 ≤ _), (by decide : 40 + 0 ≤ _)⟩)
     dsimp only [Pt.U, Pt.locs, Pt.cells, Pt.slots] at X355 l355 y355 z355 st355 hQ355
     subst l355 y355 z355
     obtain ⟨rfl, N355q, K355q, xE355, xS355, xD355, xM355⟩ := hQ355
     have N355 := Fr.app N244 N355q
     have c355_0 := own_sta_keepX c354_0 K355q (allS A354.nostat all0)
     have c355_1 := own_sta_keepX c354_1 K355q (allS A354.nostat all0)
     have c355_2 := own_sta_keepX c354_2 K355q (allS A354.nostat all0)
     have c355_3 := own_sta_keepX c354_3 K355q (allS A354.nostat all0)
     have c355_4 := own_sta_keepX c354_4 K355q (allS A354.nostat all0)
     have c355_5 := c354_5.keep K355q (ninS ne_w_b354 nin0)
     have c355_6 := CHr.trans c354_6 (CHr.keep K355q (allS (Safe.exa hZ.alike A354 (by decide) (by decide)) all0) c354_6.1)
     have c355_7 : 0 ≤ T355.heap.size := Nat.le_trans c354_7 K355q.1
     have c355_8 := c354_8.keep K355q
     have c355_9 := c354_9.keep K355q
     have c355_10 := c354_10.keep K355q
     have c355_11 := c354_11.keep K355q
     have c355_12 := c354_12.keep K355q
     have c355_13 := own_ins_keep c354_13 K355q
     have c355_14 := own_ins_keep c354_14 K355q
     have c355_15 := c354_15.keep K355q (ninS ne_b238_b354 nin0)
     have c355_16 := c354_16.keep K355q (ninS ne_b238_b354 nin0)
     have c355_17 := c354_17.keep K355q (ninS ne_b238_b354 nin0)
     have c355_18 := c354_18.keep K355q (ninS ne_r241_b354 nin0)
     have c355_19 := A354.keep K355q
     have Z355 : n0 ≤ T355.heap.size := Nat.le_trans Z354 K355q.1
     have K355 := Keep.trans K354 K355q (allS (Or.inr sz_b354) all0)
     refine own_goW (U' := T355.setTop (mkF m 174 #[.val (.int p0), .val (.int p1), .val (.long q2), .second, .val (.int (2 : Int32)), .val (.int y19), .val (.int y36), .val (.ref r234), .val (.ref r235), .val (.ref r236), .val (.ref r237), .val (.ref b238), .unset, .unset, .unset] [(.ref b354)])) (fun _ k => st355.trans k) ?_
     refine own_goW (U' := T355.setTop (mkF m 178 #[.val (.int p0), .val (.int p1), .val (.long q2), .second, .val (.int (2 : Int32)), .val (.int y19), .val (.int y36), .val (.ref r234), .val (.ref r235), .val (.ref r236), .val (.ref r237), .val (.ref b238), .val (.ref b354), .unset, .unset] [(.int y19)])) (fun _ k => XS.astore X355.here hx rfl (hb hby at_174) rfl rfl (l' := #[.val (.int p0), .val (.int p1), .val (.long q2), .second, .val (.int (2 : Int32)), .val (.int y19), .val (.int y36), .val (.ref r234), .val (.ref r235), .val (.ref r236), .val (.ref r237), .val (.ref b238), .val (.ref b354), .unset, .unset]) rfl (XS.iload X355.here hx rfl (hb hby at_176) rfl k)) ?_
     by_cases hc178_356 : (0 : Int32) < y19
     ·refine own_goW (U' := T355.setTop (mkF m 183 #[.val (.int p0), .val (.int p1), .val (.long q2), .second, .val (.int (2 : Int32)), .val (.int y19), .val (.int y36), .val (.ref r234), .val (.ref r235), .val (.ref r236), .val (.ref r237), .val (.ref b238), .val (.ref b354), .unset, .unset] [(.ref b354)])) (fun _ k => XS.ifNo X355.here hx rfl (hb hby at_178) rfl ((if0 _ _).trans (tlt hc178_356).2.2.2) (XS.aload X355.here hx rfl (hb hby at_181) rfl rfl k)) ?_
      obtain ⟨a357, T357, h357, k357, b357, kc357, X357, e357, E357, hS357, hk357, hZ, hown, Ex357, Fc357, Fv357, Vb357, -, -, CH357, -, -, st357⟩ := ldcCH (s := s) (vm0 := s.vm) X355 hx hZ hown (hw _ (own_mem 134 rfl)) (own_wS hw) rfl hS0 c355_7 (own_EW hw) (by decide) c355_6.1 (z := (1 : Int32)) own_text134 (by decide) rfl (g := (mkF m 183 #[.val (.int p0), .val (.int p1), .val (.long q2), .second, .val (.int (2 : Int32)), .val (.int y19), .val (.int y36), .val (.ref r234), .val (.ref r235), .val (.ref r236), .val (.ref r237), .val (.ref b238), .val (.ref b354), .unset, .unset] [(.ref b354)])) rfl (hb hby at_183) (n := 4) (by decide) (by decide) (by decide) (by decide)
      have c357_0 := c355_0.ext E357
      have c357_1 := c355_1.ext E357
      have c357_2 := c355_2.ext E357
      have c357_3 := c355_3.ext E357
      have c357_4 := c355_4.ext E357
      have c357_5 := c355_5.ext E357
      have c357_6 := c355_8.ext E357
      have c357_7 := c355_9.ext E357
      have c357_8 := c355_10.ext E357
      have c357_9 := c355_11.ext E357
      have c357_10 := c355_12.ext E357
      have c357_11 := c355_13.ext E357
      have c357_12 := c355_14.ext E357
      have c357_13 := c355_15.ext E357
      have c357_14 := c355_16.ext E357
      have c357_15 := c355_17.ext E357
      have c357_16 := c355_18.ext E357
      have c357_17 := xE355.ext E357
      have c357_18 := xS355.ext E357
      have c357_19 := xD355.ext E357
      have c357_20 := xM355.ext E357
      have Z357 : n0 ≤ h357.size := Nat.le_trans Z355 E357.1
      have K357 := Keep.ext K355 E357
      have CR357 := CHr.trans c355_6 CH357
      refine own_goW (U' := T357.setTop (mkF m 185 #[.val (.int p0), .val (.int p1), .val (.long q2), .second, .val (.int (2 : Int32)), .val (.int y19), .val (.int y36), .val (.ref r234), .val (.ref r235), .val (.ref r236), .val (.ref r237), .val (.ref b238), .val (.ref b354), .unset, .unset] [(.ref a357), (.ref b354)])) (fun _ k => st357 _ k) ?_
      obtain ⟨cq358, kq358, q358a, q358b, q358c⟩ := isOf hZ e357 c357_17
      obtain ⟨_, _, ⟨T358, L358, k358, n358⟩, -, X358, ⟨Lc358, hQ358, l358, y358, z358⟩, st358⟩ := X357.interfaceBack hx (xi := (⟨"java/util/List", "add", "(Ljava/lang/Object;)Z"⟩ : MethodName)) (y := (⟨"java/util/ArrayList", "add", "(Ljava/lang/Object;)Z"⟩ : MethodName)) hown (mvT hZ (hw _ (own_mem 105 rfl))) (mvT hZ (hw _ (own_mem 106 rfl))) (mvT hZ (hw _ (own_mem 107 rfl))) (mvT hZ (hw _ (own_mem 108 rfl))) (mvT hZ (hw _ (own_mem 109 rfl))) (mvT hZ (hw _ (own_mem 110 rfl))) (mvT hZ (hw _ (own_mem 111 rfl))) (mvT hZ (hw _ (own_mem 95 rfl))) (by decide) (backOf (W := 0) (rm16g l Z aw hw [] b354 a357 w k0 (0 : Int32) h357 n0 Z357 c357_4 c357_5 (Ins.of_exa Ex357 (hw _ (own_mem 133 rfl))) c357_17 c357_18 c357_19 c357_20 (by first | assumption | decide | rfl)) hZ (hw _ (own_mem 112 rfl)) (hw _ (own_mem 37 rfl)) (by decide) (by decide)) q358a q358b q358c (g := (mkF m 185 #[.val (.int p0), .val (.int p1), .val (.long q2), .second, .val (.int (2 : Int32)), .val (.int y19), .val (.int y36), .val (.ref r234), .val (.ref r235), .val (.ref r236), .val (.ref r237), .val (.ref b238), .val (.ref b354), .unset, .unset] [(.ref a357), (.ref b354)])) rfl (by rw [hml]; rfl) (Steps.refl _) (argsL := [(.ref a357)]) (rest := []) (lenOf own_pd15 rfl) rfl (by show 2 * 0 + _ ≤ _; exact Nat.le_of_eq rfl) (hb hby at_185) (fun _ _ => ⟨rfl, e357, (by decide : 13 + 1 ≤ _), (by decide : 48 + 10 ≤ _)⟩)
      dsimp only [Pt.U, Pt.locs, Pt.cells, Pt.slots] at X358 l358 y358 z358 st358 hQ358
      subst l358 y358 z358
      obtain ⟨r358, kr358, rfl, N358q, K358q, sr358, xE358, xS358, xD358, xM358, xV358, xO358⟩ := hQ358
      have N358 := Fr.app N355 N358q
      have ne_w_r358 : w ≠ r358 := Nat.ne_of_lt (Nat.lt_of_lt_of_le c357_5.lt sr358)
      have ne_r234_r358 : r234 ≠ r358 := Nat.ne_of_lt (Nat.lt_of_lt_of_le c357_6.lt sr358)
      have ne_r235_r358 : r235 ≠ r358 := Nat.ne_of_lt (Nat.lt_of_lt_of_le c357_7.lt sr358)
      have ne_r236_r358 : r236 ≠ r358 := Nat.ne_of_lt (Nat.lt_of_lt_of_le c357_8.lt sr358)
      have ne_r237_r358 : r237 ≠ r358 := Nat.ne_of_lt (Nat.lt_of_lt_of_le c357_9.lt sr358)
      have ne_b238_r358 : b238 ≠ r358 := Nat.ne_of_lt (Nat.lt_of_lt_of_le c357_10.lt sr358)
      have ne_r241_r358 : r241 ≠ r358 := Nat.ne_of_lt (Nat.lt_of_lt_of_le c357_16.lt sr358)
      have ne_b354_r358 : b354 ≠ r358 := Nat.ne_of_lt (Nat.lt_of_lt_of_le c357_17.lt sr358)
      have ne_a357_r358 : a357 ≠ r358 := Nat.ne_of_lt (Nat.lt_of_lt_of_le Ex357.lt sr358)
      have g_r358 : n0 ≤ r358 := Nat.le_trans Z357 sr358
      have sz_r358 : T237.heap.size ≤ r358 := Nat.le_trans K357.1 sr358
      have ne_a357_b354 : a357 ≠ b354 := Exa.ne Ex357 c357_17 (by decide)
      have c358_0 := own_sta_keepX c357_0 K358q (allS c357_17.nostat all0)
      have c358_1 := own_sta_keepX c357_1 K358q (allS c357_17.nostat all0)
      have c358_2 := own_sta_keepX c357_2 K358q (allS c357_17.nostat all0)
      have c358_3 := own_sta_keepX c357_3 K358q (allS c357_17.nostat all0)
      have c358_4 := own_sta_keepX c357_4 K358q (allS c357_17.nostat all0)
      have c358_5 := c357_5.keep K358q (ninS ne_w_b354 nin0)
      have c358_6 := c357_6.keep K358q
      have c358_7 := c357_7.keep K358q
      have c358_8 := c357_8.keep K358q
      have c358_9 := c357_9.keep K358q
      have c358_10 := c357_10.keep K358q
      have c358_11 := own_ins_keep c357_11 K358q
      have c358_12 := own_ins_keep c357_12 K358q
      have c358_13 := c357_13.keep K358q (ninS ne_b238_b354 nin0)
      have c358_14 := c357_14.keep K358q (ninS ne_b238_b354 nin0)
      have c358_15 := c357_15.keep K358q (ninS ne_b238_b354 nin0)
      have c358_16 := c357_16.keep K358q (ninS ne_r241_b354 nin0)
      have c358_17 := c357_17.keep K358q
      have c358_21 := Ex357.keep K358q
      have c358_22 := CHr.trans CR357 (CHr.keep K358q (allS (Safe.exa hZ.alike c357_17 (by decide) (by decide)) all0) CR357.1)
      have c358_23 : k357 ≤ T358.heap.size := Nat.le_trans hk357 K358q.1
      have c358_24 := own_ins_keep (Ins.of_exa Ex357 (hw _ (own_mem 133 rfl))) K358q
      have nf359 : Fld Z T358.heap b354 "java/util/AbstractList" "modCount" "I" (.int (1 : Int32)) := xM358
      have Z358 : n0 ≤ T358.heap.size := Nat.le_trans Z357 K358q.1
      have K358 := Keep.trans K357 K358q (allS (Or.inr sz_b354) all0)
      refine own_goW (U' := T358.setTop (mkF m 190 #[.val (.int p0), .val (.int p1), .val (.long q2), .second, .val (.int (2 : Int32)), .val (.int y19), .val (.int y36), .val (.ref r234), .val (.ref r235), .val (.ref r236), .val (.ref r237), .val (.ref b238), .val (.ref b354), .unset, .unset] [(.int (1 : Int32))])) (fun _ k => st358.trans k) ?_
      refine own_goW (U' := T358.setTop (mkF m 194 #[.val (.int p0), .val (.int p1), .val (.long q2), .second, .val (.int (2 : Int32)), .val (.int y19), .val (.int y36), .val (.ref r234), .val (.ref r235), .val (.ref r236), .val (.ref r237), .val (.ref b238), .val (.ref b354), .unset, .unset] [(.int (1 : Int32)), (.int y19)])) (fun _ k => XS.pop X358.here hx rfl (hb hby at_190) rfl rfl (XS.iload X358.here hx rfl (hb hby at_191) rfl (XS.iconst X358.here hx rfl (hb hby at_193) k))) ?_
      by_cases hc194_360 : (1 : Int32) < y19
      ·refine own_goW (U' := T358.setTop (mkF m 199 #[.val (.int p0), .val (.int p1), .val (.long q2), .second, .val (.int (2 : Int32)), .val (.int y19), .val (.int y36), .val (.ref r234), .val (.ref r235), .val (.ref r236), .val (.ref r237), .val (.ref b238), .val (.ref b354), .unset, .unset] [(.ref b354)])) (fun _ k => XS.icmpNo X358.here hx rfl (hb hby at_194) rfl (tlt hc194_360).2.2.2 (XS.aload X358.here hx rfl (hb hby at_197) rfl rfl k)) ?_
       obtain ⟨a361, T361, h361, k361, b361, kc361, X361, e361, E361, hS361, hk361, hZ, hown, Ex361, Fc361, Fv361, Vb361, -, -, CH361, -, -, st361⟩ := ldcCH (s := s) (vm0 := T357.vm) X358 hx hZ hown (hw _ (own_mem 198 rfl)) (own_wS hw) rfl hS357 c358_23 (own_EW hw) (by decide) c358_22.1 (z := (1 : Int32)) own_text198 (by decide) rfl (g := (mkF m 199 #[.val (.int p0), .val (.int p1), .val (.long q2), .second, .val (.int (2 : Int32)), .val (.int y19), .val (.int y36), .val (.ref r234), .val (.ref r235), .val (.ref r236), .val (.ref r237), .val (.ref b238), .val (.ref b354), .unset, .unset] [(.ref b354)])) rfl (hb hby at_199) (n := 4) (by decide) (by decide) (by decide) (by decide)
       have c361_0 := c358_0.ext E361
       have c361_1 := c358_1.ext E361
       have c361_2 := c358_2.ext E361
       have c361_3 := c358_3.ext E361
       have c361_4 := c358_4.ext E361
       have c361_5 := c358_5.ext E361
       have c361_6 := c358_6.ext E361
       have c361_7 := c358_7.ext E361
       have c361_8 := c358_8.ext E361
       have c361_9 := c358_9.ext E361
       have c361_10 := c358_10.ext E361
       have c361_11 := c358_11.ext E361
       have c361_12 := c358_12.ext E361
       have c361_13 := c358_13.ext E361
       have c361_14 := c358_14.ext E361
       have c361_15 := c358_15.ext E361
       have c361_16 := c358_16.ext E361
       have c361_17 := xE358.ext E361
       have c361_18 := c358_21.ext E361
       have c361_19 := c358_24.ext E361
       have c361_20 := xS358.ext E361
       have c361_21 := xD358.ext E361
       have c361_22 := nf359.ext E361
       have c361_23 := xV358.ext E361
       have Z361 : n0 ≤ h361.size := Nat.le_trans Z358 E361.1
       have K361 := Keep.ext K358 E361
       have CR361 := CHr.trans c358_22 CH361
       refine own_goW (U' := T361.setTop (mkF m 201 #[.val (.int p0), .val (.int p1), .val (.long q2), .second, .val (.int (2 : Int32)), .val (.int y19), .val (.int y36), .val (.ref r234), .val (.ref r235), .val (.ref r236), .val (.ref r237), .val (.ref b238), .val (.ref b354), .unset, .unset] [(.ref a361), (.ref b354)])) (fun _ k => st361 _ k) ?_
       obtain ⟨cq362, kq362, q362a, q362b, q362c⟩ := isOf hZ e361 c361_17
       obtain ⟨_, _, ⟨T362, L362, k362, n362⟩, -, X362, ⟨Lc362, hQ362, l362, y362, z362⟩, st362⟩ := X361.interfaceBack hx (xi := (⟨"java/util/List", "add", "(Ljava/lang/Object;)Z"⟩ : MethodName)) (y := (⟨"java/util/ArrayList", "add", "(Ljava/lang/Object;)Z"⟩ : MethodName)) hown (mvT hZ (hw _ (own_mem 105 rfl))) (mvT hZ (hw _ (own_mem 106 rfl))) (mvT hZ (hw _ (own_mem 107 rfl))) (mvT hZ (hw _ (own_mem 108 rfl))) (mvT hZ (hw _ (own_mem 109 rfl))) (mvT hZ (hw _ (own_mem 110 rfl))) (mvT hZ (hw _ (own_mem 111 rfl))) (mvT hZ (hw _ (own_mem 95 rfl))) (by decide) (backOf (W := 0) (rm16s l Z aw hw [] b354 a361 r358 kr358 (1 : Int32) (1 : Int32) [(.ref a357), .null, .null, .null, .null, .null, .null, .null, .null, .null] h361 n0 Z361 (Ins.of_exa Ex361 (hw _ (own_mem 133 rfl))) c361_17 c361_20 c361_21 c361_22 c361_23 (by first | assumption | decide | rfl) (by first | assumption | decide | rfl) (by first | assumption | decide | rfl) (by first | assumption | decide | rfl) (by first | assumption | decide | rfl) (by first | assumption | decide | rfl) (by first | assumption | decide | rfl) (by first | assumption | decide | rfl)) hZ (hw _ (own_mem 112 rfl)) (hw _ (own_mem 37 rfl)) (by decide) (by decide)) q362a q362b q362c (g := (mkF m 201 #[.val (.int p0), .val (.int p1), .val (.long q2), .second, .val (.int (2 : Int32)), .val (.int y19), .val (.int y36), .val (.ref r234), .val (.ref r235), .val (.ref r236), .val (.ref r237), .val (.ref b238), .val (.ref b354), .unset, .unset] [(.ref a361), (.ref b354)])) rfl (by rw [hml]; rfl) (Steps.refl _) (argsL := [(.ref a361)]) (rest := []) (lenOf own_pd15 rfl) rfl (by show 2 * 0 + _ ≤ _; exact Nat.le_of_eq rfl) (hb hby at_201) (fun _ _ => ⟨rfl, e361, (by decide : 16 + 0 ≤ _), (by decide : 66 + 0 ≤ _)⟩)
       dsimp only [Pt.U, Pt.locs, Pt.cells, Pt.slots] at X362 l362 y362 z362 st362 hQ362
       subst l362 y362 z362
       obtain ⟨rfl, N362q, K362q, xE362, xS362, xD362, xM362, xV362⟩ := hQ362
       have N362 := Fr.app N358 N362q
       have ne_a361_b354 : a361 ≠ b354 := Exa.ne Ex361 c361_17 (by decide)
       have ne_a361_r358 : a361 ≠ r358 := Exa.neArv Ex361 c361_23 (hw _ (own_mem 19 rfl))
       have c362_0 := own_sta_keepX c361_0 K362q (allS c361_17.nostat (allS c361_23.nostat all0))
       have c362_1 := own_sta_keepX c361_1 K362q (allS c361_17.nostat (allS c361_23.nostat all0))
       have c362_2 := own_sta_keepX c361_2 K362q (allS c361_17.nostat (allS c361_23.nostat all0))
       have c362_3 := own_sta_keepX c361_3 K362q (allS c361_17.nostat (allS c361_23.nostat all0))
       have c362_4 := own_sta_keepX c361_4 K362q (allS c361_17.nostat (allS c361_23.nostat all0))
       have c362_5 := c361_5.keep K362q (ninS ne_w_b354 (ninS ne_w_r358 nin0))
       have c362_6 := c361_6.keep K362q
       have c362_7 := c361_7.keep K362q
       have c362_8 := c361_8.keep K362q
       have c362_9 := c361_9.keep K362q
       have c362_10 := c361_10.keep K362q
       have c362_11 := own_ins_keep c361_11 K362q
       have c362_12 := own_ins_keep c361_12 K362q
       have c362_13 := c361_13.keep K362q (ninS ne_b238_b354 (ninS ne_b238_r358 nin0))
       have c362_14 := c361_14.keep K362q (ninS ne_b238_b354 (ninS ne_b238_r358 nin0))
       have c362_15 := c361_15.keep K362q (ninS ne_b238_b354 (ninS ne_b238_r358 nin0))
       have c362_16 := c361_16.keep K362q (ninS ne_r241_b354 (ninS ne_r241_r358 nin0))
       have c362_17 := c361_17.keep K362q
       have c362_18 := c361_18.keep K362q
       have c362_19 := own_ins_keep c361_19 K362q
       have c362_24 := Ex361.keep K362q
       have c362_25 := CHr.trans CR361 (CHr.keep K362q (allS (Safe.exa hZ.alike c361_17 (by decide) (by decide)) (allS (own_safe_arv hZ.alike c361_23 (by decide)) all0)) CR361.1)
       have c362_26 : k361 ≤ T362.heap.size := Nat.le_trans hk361 K362q.1
       have c362_27 := own_ins_keep (Ins.of_exa Ex361 (hw _ (own_mem 133 rfl))) K362q
       have nf363 : Fld Z T362.heap b354 "java/util/ArrayList" "size" "I" (.int (2 : Int32)) := xS362
       have nf364 : Fld Z T362.heap b354 "java/util/AbstractList" "modCount" "I" (.int (2 : Int32)) := xM362
       have nl362 : Arv Z T362.heap r358 kr358 (.object "java/lang/Object") (10 : Int32) [(.ref a357), (.ref a361), .null, .null, .null, .null, .null, .null, .null, .null] .null := xV362
       have Z362 : n0 ≤ T362.heap.size := Nat.le_trans Z361 K362q.1
       have K362 := Keep.trans K361 K362q (allS (Or.inr sz_b354) (allS (Or.inr sz_r358) all0))
       refine own_goW (U' := T362.setTop (mkF m 206 #[.val (.int p0), .val (.int p1), .val (.long q2), .second, .val (.int (2 : Int32)), .val (.int y19), .val (.int y36), .val (.ref r234), .val (.ref r235), .val (.ref r236), .val (.ref r237), .val (.ref b238), .val (.ref b354), .unset, .unset] [(.int (1 : Int32))])) (fun _ k => st362.trans k) ?_
       refine own_goW (U' := T362.setTop (mkF m 210 #[.val (.int p0), .val (.int p1), .val (.long q2), .second, .val (.int (2 : Int32)), .val (.int y19), .val (.int y36), .val (.ref r234), .val (.ref r235), .val (.ref r236), .val (.ref r237), .val (.ref b238), .val (.ref b354), .unset, .unset] [(.int (2 : Int32)), (.int y19)])) (fun _ k => XS.pop X362.here hx rfl (hb hby at_206) rfl rfl (XS.iload X362.here hx rfl (hb hby at_207) rfl (XS.iconst X362.here hx rfl (hb hby at_209) k))) ?_
       have hc210_365 : ¬ ((2 : Int32) < y19) := own_nlt hp1 (by decide)
       refine own_goW (U' := T362.setTop (mkF m 226 #[.val (.int p0), .val (.int p1), .val (.long q2), .second, .val (.int (2 : Int32)), .val (.int y19), .val (.int y36), .val (.ref r234), .val (.ref r235), .val (.ref r236), .val (.ref r237), .val (.ref b238), .val (.ref b354), .unset, .unset] [(.int (3 : Int32)), (.int y19)])) (fun _ k => XS.icmpYes X362.here hx rfl (pc0 := 210) (pc' := 223) rfl (hb hby at_210) rfl (flt hc210_365).2.2.2 (by decide) (by decide) (XS.iload X362.here hx rfl (hb hby at_223) rfl (XS.iconst X362.here hx rfl (hb hby at_225) k))) ?_
       have hc226_366 : ¬ ((3 : Int32) < y19) := own_nlt hc210_365 (by decide)
       refine own_goW (U' := T362.setTop (mkF m 239 #[.val (.int p0), .val (.int p1), .val (.long q2), .second, .val (.int (2 : Int32)), .val (.int y19), .val (.int y36), .val (.ref r234), .val (.ref r235), .val (.ref r236), .val (.ref r237), .val (.ref b238), .val (.ref b354), .unset, .unset] [])) (fun _ k => XS.icmpYes X362.here hx rfl (pc0 := 226) (pc' := 239) rfl (hb hby at_226) rfl (flt hc226_366).2.2.2 (by decide) (by decide) k) ?_
       have hrq : y19 = (2 : Int32) := own_eqk (a := (1 : Int32)) (b := (2 : Int32)) (by decide) hc194_360 hp1
       have fq : Fld Z T362.heap b354 "java/util/ArrayList" "size" "I" (.int y19) := by rw [hrq]; exact nf363
       exact tail _ _ _ _ (own_weak X362 (by decide) (by decide)) _ rfl hS361 hZ hown c362_25 c362_26 N362 Z362 K362 _ c362_10 c362_13 c362_14 c362_15 c362_16 c362_6 c362_7 c362_8 c362_9 xE362 fq
      ·refine own_goW (U' := T358.setTop (mkF m 210 #[.val (.int p0), .val (.int p1), .val (.long q2), .second, .val (.int (2 : Int32)), .val (.int y19), .val (.int y36), .val (.ref r234), .val (.ref r235), .val (.ref r236), .val (.ref r237), .val (.ref b238), .val (.ref b354), .unset, .unset] [(.int (2 : Int32)), (.int y19)])) (fun _ k => XS.icmpYes X358.here hx rfl (pc0 := 194) (pc' := 207) rfl (hb hby at_194) rfl (flt hc194_360).2.2.2 (by decide) (by decide) (XS.iload X358.here hx rfl (hb hby at_207) rfl (XS.iconst X358.here hx rfl (hb hby at_209) k))) ?_
       have hc210_367 : ¬ ((2 : Int32) < y19) := own_nlt hc194_360 (by decide)
       refine own_goW (U' := T358.setTop (mkF m 226 #[.val (.int p0), .val (.int p1), .val (.long q2), .second, .val (.int (2 : Int32)), .val (.int y19), .val (.int y36), .val (.ref r234), .val (.ref r235), .val (.ref r236), .val (.ref r237), .val (.ref b238), .val (.ref b354), .unset, .unset] [(.int (3 : Int32)), (.int y19)])) (fun _ k => XS.icmpYes X358.here hx rfl (pc0 := 210) (pc' := 223) rfl (hb hby at_210) rfl (flt hc210_367).2.2.2 (by decide) (by decide) (XS.iload X358.here hx rfl (hb hby at_223) rfl (XS.iconst X358.here hx rfl (hb hby at_225) k))) ?_
       have hc226_368 : ¬ ((3 : Int32) < y19) := own_nlt hc194_360 (by decide)
       refine own_goW (U' := T358.setTop (mkF m 239 #[.val (.int p0), .val (.int p1), .val (.long q2), .second, .val (.int (2 : Int32)), .val (.int y19), .val (.int y36), .val (.ref r234), .val (.ref r235), .val (.ref r236), .val (.ref r237), .val (.ref b238), .val (.ref b354), .unset, .unset] [])) (fun _ k => XS.icmpYes X358.here hx rfl (pc0 := 226) (pc' := 239) rfl (hb hby at_226) rfl (flt hc226_368).2.2.2 (by decide) (by decide) k) ?_
       have hrq : y19 = (1 : Int32) := own_eqk (a := (0 : Int32)) (b := (1 : Int32)) (by decide) hc178_356 hc194_360
       have fq : Fld Z T358.heap b354 "java/util/ArrayList" "size" "I" (.int y19) := by rw [hrq]; exact xS358
       exact tail _ _ _ _ (own_weak X358 (by decide) (by decide)) _ rfl hS357 hZ hown c358_22 c358_23 N358 Z358 K358 _ c358_10 c358_13 c358_14 c358_15 c358_16 c358_6 c358_7 c358_8 c358_9 xE358 fq
     ·refine own_goW (U' := T355.setTop (mkF m 194 #[.val (.int p0), .val (.int p1), .val (.long q2), .second, .val (.int (2 : Int32)), .val (.int y19), .val (.int y36), .val (.ref r234), .val (.ref r235), .val (.ref r236), .val (.ref r237), .val (.ref b238), .val (.ref b354), .unset, .unset] [(.int (1 : Int32)), (.int y19)])) (fun _ k => XS.ifYes X355.here hx rfl (pc0 := 178) (pc' := 191) rfl (hb hby at_178) rfl ((if0 _ _).trans (flt hc178_356).2.2.2) (by decide) (by decide) (XS.iload X355.here hx rfl (hb hby at_191) rfl (XS.iconst X355.here hx rfl (hb hby at_193) k))) ?_
      have hc194_369 : ¬ ((1 : Int32) < y19) := own_nlt hc178_356 (by decide)
      refine own_goW (U' := T355.setTop (mkF m 210 #[.val (.int p0), .val (.int p1), .val (.long q2), .second, .val (.int (2 : Int32)), .val (.int y19), .val (.int y36), .val (.ref r234), .val (.ref r235), .val (.ref r236), .val (.ref r237), .val (.ref b238), .val (.ref b354), .unset, .unset] [(.int (2 : Int32)), (.int y19)])) (fun _ k => XS.icmpYes X355.here hx rfl (pc0 := 194) (pc' := 207) rfl (hb hby at_194) rfl (flt hc194_369).2.2.2 (by decide) (by decide) (XS.iload X355.here hx rfl (hb hby at_207) rfl (XS.iconst X355.here hx rfl (hb hby at_209) k))) ?_
      have hc210_370 : ¬ ((2 : Int32) < y19) := own_nlt hc178_356 (by decide)
      refine own_goW (U' := T355.setTop (mkF m 226 #[.val (.int p0), .val (.int p1), .val (.long q2), .second, .val (.int (2 : Int32)), .val (.int y19), .val (.int y36), .val (.ref r234), .val (.ref r235), .val (.ref r236), .val (.ref r237), .val (.ref b238), .val (.ref b354), .unset, .unset] [(.int (3 : Int32)), (.int y19)])) (fun _ k => XS.icmpYes X355.here hx rfl (pc0 := 210) (pc' := 223) rfl (hb hby at_210) rfl (flt hc210_370).2.2.2 (by decide) (by decide) (XS.iload X355.here hx rfl (hb hby at_223) rfl (XS.iconst X355.here hx rfl (hb hby at_225) k))) ?_
      have hc226_371 : ¬ ((3 : Int32) < y19) := own_nlt hc178_356 (by decide)
      refine own_goW (U' := T355.setTop (mkF m 239 #[.val (.int p0), .val (.int p1), .val (.long q2), .second, .val (.int (2 : Int32)), .val (.int y19), .val (.int y36), .val (.ref r234), .val (.ref r235), .val (.ref r236), .val (.ref r237), .val (.ref b238), .val (.ref b354), .unset, .unset] [])) (fun _ k => XS.icmpYes X355.here hx rfl (pc0 := 226) (pc' := 239) rfl (hb hby at_226) rfl (flt hc226_371).2.2.2 (by decide) (by decide) k) ?_
      have hrq : y19 = (0 : Int32) := own_eq0 hr0 hc178_356
      have fq : Fld Z T355.heap b354 "java/util/ArrayList" "size" "I" (.int y19) := by rw [hrq]; exact xS355
      exact tail _ _ _ _ (own_weak X355 (by decide) (by decide)) _ rfl hS0 hZ hown c355_6 c355_7 N355 Z355 K355 _ c355_12 c355_15 c355_16 c355_17 c355_18 c355_8 c355_9 c355_10 c355_11 xE355 fq
   ·refine own_goW (U' := T241.setTop (mkF m 138 #[.val (.int p0), .val (.int p1), .val (.long q2), .second, .val (.int y6), .val (.int y19), .val (.int y36), .val (.ref r234), .val (.ref r235), .val (.ref r236), .val (.ref r237), .val (.ref b238), .unset, .unset, .unset] [(.int (2 : Int32)), (.int y6)])) (fun _ k => XS.icmpYes X241.here hx rfl (pc0 := 122) (pc' := 135) rfl (hb hby at_122) rfl (flt hc122_243).2.2.2 (by decide) (by decide) (XS.iload X241.here hx rfl (hb hby at_135) rfl (XS.iconst X241.here hx rfl (hb hby at_137) k))) ?_
    have hc138_372 : ¬ ((2 : Int32) < y6) := own_nlt hc122_243 (by decide)
    refine own_goW (U' := T241.setTop (mkF m 154 #[.val (.int p0), .val (.int p1), .val (.long q2), .second, .val (.int y6), .val (.int y19), .val (.int y36), .val (.ref r234), .val (.ref r235), .val (.ref r236), .val (.ref r237), .val (.ref b238), .unset, .unset, .unset] [(.int (3 : Int32)), (.int y6)])) (fun _ k => XS.icmpYes X241.here hx rfl (pc0 := 138) (pc' := 151) rfl (hb hby at_138) rfl (flt hc138_372).2.2.2 (by decide) (by decide) (XS.iload X241.here hx rfl (hb hby at_151) rfl (XS.iconst X241.here hx rfl (hb hby at_153) k))) ?_
    have hc154_373 : ¬ ((3 : Int32) < y6) := own_nlt hc122_243 (by decide)
    refine own_goW (U' := T241.setTop (mkF m 167 #[.val (.int p0), .val (.int p1), .val (.long q2), .second, .val (.int y6), .val (.int y19), .val (.int y36), .val (.ref r234), .val (.ref r235), .val (.ref r236), .val (.ref r237), .val (.ref b238), .unset, .unset, .unset] [])) (fun _ k => XS.icmpYes X241.here hx rfl (pc0 := 154) (pc' := 167) rfl (hb hby at_154) rfl (flt hc154_373).2.2.2 (by decide) (by decide) k) ?_
    obtain rfl : y6 = (1 : Int32) := own_eqk (a := (0 : Int32)) (b := (1 : Int32)) (by decide) hc106_240 hc122_243
    have hmr := own_min (by decide) hy19
    have hp1 := own_p1 hmr
    have hp2 := own_p2 hmr hy36
    have hr0 := own_r0 hmr
    have tail : ∀ (vm_ : Vm) (T_ : State) (l_ : List Loc) (k_ : Nat) (X_ : Stand p l e room_1 (s.setVm vm_) m #[(.int p0), (.int p1), (.long q2)] below meth c T_ l_ 24 160) (h_ : Heap) (e_ : T_.heap = h_) (hS_ : s.Since vm_ k_) (hZ : Z.Warmed39 (s.setVm vm_).vm) (hown : (s.setVm vm_).vm.findClass "com/example/hashtory/hashtory/ArgumentsPositionalsPinLaw" = some m.cls) (CR_ : CHr Z own_EL s.vm h0 vm_ h_) (Sz_ : k_ ≤ h_.size) (N_ : Fr n0 l_) (Z_ : n0 ≤ h_.size) (KP_ : Keep T237.heap h_ []) (req : Addr) (t_0 : Exa Z h_ b238 "java/util/ArrayList") (t_1 : Fld Z h_ b238 "java/util/ArrayList" "size" "I" (.int (1 : Int32))) (t_2 : Fld Z h_ b238 "java/util/ArrayList" "elementData" "[Ljava/lang/Object;" (.ref r241)) (t_3 : Fld Z h_ b238 "java/util/AbstractList" "modCount" "I" (.int (1 : Int32))) (t_4 : Arv Z h_ r241 kr241 (.object "java/lang/Object") (10 : Int32) [(.ref r234), .null, .null, .null, .null, .null, .null, .null, .null, .null] .null) (t_5 : Exa Z h_ r234 "java/lang/String") (t_6 : Exa Z h_ r235 "java/lang/String") (t_7 : Exa Z h_ r236 "java/lang/String") (t_8 : Exa Z h_ r237 "java/lang/String") (q_0 : Exa Z h_ req "java/util/ArrayList") (q_1 : Fld Z h_ req "java/util/ArrayList" "size" "I" (.int y19)), own_DoneW p e below s Z own_EL (Q0 Z p0 p1 q2 cs w k0 h0 n0) room_1.cells room_1.slots (T_.setTop (mkF m 239 #[.val (.int p0), .val (.int p1), .val (.long q2), .second, .val (.int (1 : Int32)), .val (.int y19), .val (.int y36), .val (.ref r234), .val (.ref r235), .val (.ref r236), .val (.ref r237), .val (.ref b238), .val (.ref req), .unset, .unset] [])) := by
     intro vm_ T_ l_ k_ X_ h_ e_ hS_ hZ hown CR_ Sz_ N_ Z_ KP_ req t_0 t_1 t_2 t_3 t_4 t_5 t_6 t_7 t_8 q_0 q_1
     have sb_0 := own_sta_keep c237_0 KP_
     have sb_1 := own_sta_keep c237_1 KP_
     have sb_2 := own_sta_keep c237_2 KP_
     have sb_3 := own_sta_keep c237_3 KP_
     have sb_4 := own_sta_keep c237_4 KP_
     have vb_ := c237_5.keep KP_ nin0
     obtain ⟨T374, h374, X374, e374, E374, A374, D374, -, st374⟩ := newO X_ hx hZ hown (hw _ (own_mem 59 rfl)) (hw _ (own_mem 60 rfl)) (hw _ (own_mem 61 rfl)) e_ (g := (mkF m 239 #[.val (.int p0), .val (.int p1), .val (.long q2), .second, .val (.int (1 : Int32)), .val (.int y19), .val (.int y36), .val (.ref r234), .val (.ref r235), .val (.ref r236), .val (.ref r237), .val (.ref b238), .val (.ref req), .unset, .unset] [])) rfl (hb hby at_239) (by decide) (by decide)
     obtain ⟨b374, g374⟩ : ∃ z, z = h_.size := ⟨_, rfl⟩
     have g_b374 : n0 ≤ b374 := Nat.le_trans Z_ (Nat.le_of_eq g374.symm)
     have sz_b374 : T237.heap.size ≤ b374 := Nat.le_trans KP_.1 (Nat.le_of_eq g374.symm)
     have ne_b238_b374 : b238 ≠ b374 := Nat.ne_of_lt (Nat.lt_of_lt_of_le t_0.lt (Nat.le_of_eq g374.symm))
     have ne_r241_b374 : r241 ≠ b374 := Nat.ne_of_lt (Nat.lt_of_lt_of_le t_4.lt (Nat.le_of_eq g374.symm))
     have ne_r234_b374 : r234 ≠ b374 := Nat.ne_of_lt (Nat.lt_of_lt_of_le t_5.lt (Nat.le_of_eq g374.symm))
     have ne_r235_b374 : r235 ≠ b374 := Nat.ne_of_lt (Nat.lt_of_lt_of_le t_6.lt (Nat.le_of_eq g374.symm))
     have ne_r236_b374 : r236 ≠ b374 := Nat.ne_of_lt (Nat.lt_of_lt_of_le t_7.lt (Nat.le_of_eq g374.symm))
     have ne_r237_b374 : r237 ≠ b374 := Nat.ne_of_lt (Nat.lt_of_lt_of_le t_8.lt (Nat.le_of_eq g374.symm))
     have ne_req_b374 : req ≠ b374 := Nat.ne_of_lt (Nat.lt_of_lt_of_le q_0.lt (Nat.le_of_eq g374.symm))
     have ne_w_b374 : w ≠ b374 := Nat.ne_of_lt (Nat.lt_of_lt_of_le vb_.lt (Nat.le_of_eq g374.symm))
     rw [← g374] at A374 D374 st374
     have c374_0 := t_0.ext E374
     have c374_1 := t_1.ext E374
     have c374_2 := t_2.ext E374
     have c374_3 := t_3.ext E374
     have c374_4 := t_4.ext E374
     have c374_5 := t_5.ext E374
     have c374_6 := t_6.ext E374
     have c374_7 := t_7.ext E374
     have c374_8 := t_8.ext E374
     have c374_9 := q_0.ext E374
     have c374_10 := q_1.ext E374
     have c374_11 := CHr.trans CR_ (CHr.ext E374 CR_.1)
     have c374_12 : k_ ≤ h374.size := Nat.le_trans Sz_ E374.1
     have c374_13 := sb_0.ext E374
     have c374_14 := sb_1.ext E374
     have c374_15 := sb_2.ext E374
     have c374_16 := sb_3.ext E374
     have c374_17 := sb_4.ext E374
     have c374_18 := vb_.ext E374
     have Z374 : n0 ≤ h374.size := Nat.le_trans Z_ E374.1
     have K374 := Keep.ext KP_ E374
     have F374_69 : Fld Z h374 b374 "com/example/hashtory/hashtory/Arguments" "positionals" "Ljava/util/List;" .null := D374 (Or.inr (hw _ (own_mem 69 rfl))) (ty := (.object "java/util/List")) (by decide)
     have F374_87 : Fld Z h374 b374 "com/example/hashtory/hashtory/Arguments" "options" "Ljava/util/Map;" .null := D374 (Or.inr (hw _ (own_mem 87 rfl))) (ty := (.object "java/util/Map")) (by decide)
     refine own_goW (U' := T374.setTop (mkF m 242 #[.val (.int p0), .val (.int p1), .val (.long q2), .second, .val (.int (1 : Int32)), .val (.int y19), .val (.int y36), .val (.ref r234), .val (.ref r235), .val (.ref r236), .val (.ref r237), .val (.ref b238), .val (.ref req), .unset, .unset] [(.ref b374)])) (fun _ k => st374 _ k) ?_
     refine own_goW (U' := T374.setTop (mkF m 246 #[.val (.int p0), .val (.int p1), .val (.long q2), .second, .val (.int (1 : Int32)), .val (.int y19), .val (.int y36), .val (.ref r234), .val (.ref r235), .val (.ref r236), .val (.ref r237), .val (.ref b238), .val (.ref req), .unset, .unset] [.null, (.ref b238), (.ref b374), (.ref b374)])) (fun _ k => XS.dup X374.here hx rfl (hb hby at_242) rfl rfl (XS.aload X374.here hx rfl (hb hby at_243) rfl rfl (XS.aconstNull X374.here hx rfl (hb hby at_245) k))) ?_
     have hO375 : own_S Z h374 r234 := own_S.keep c237_9 K374
     obtain ⟨_, _, ⟨T376, L376, k376, n376⟩, -, X376, hS376, hg376, ⟨Lc376, hQ376, l376, y376, z376, C376⟩, st376⟩ := X374.specialBackS hx (y := (⟨"com/example/hashtory/hashtory/Arguments", "<init>", "(Ljava/util/List;Ljava/util/Set;)V"⟩ : MethodName)) rfl hown (mvT hZ (hw _ (own_mem 62 rfl))) (mvT hZ (hw _ (own_mem 63 rfl))) (mvT hZ (hw _ (own_mem 64 rfl))) (by decide) (backOfSH (s := s) (vm0 := vm_) (W := 1) (rm11_1 l Z aw hw [] b374 b238 cs w k0 r241 kr241 r234 h374 n0 Z374 A374 F374_69 F374_87 c374_13 c374_17 c374_18 c374_0 c374_1 c374_2 c374_4 c374_5 (by first | assumption | decide | rfl) (by first | assumption | decide | rfl) (by first | assumption | decide | rfl)) hZ (hw _ (own_mem 64 rfl)) (hw _ (own_mem 61 rfl)) (by decide) (by decide) (own_EW hw) c374_11.1) (g := (mkF m 246 #[.val (.int p0), .val (.int p1), .val (.long q2), .second, .val (.int (1 : Int32)), .val (.int y19), .val (.int y36), .val (.ref r234), .val (.ref r235), .val (.ref r236), .val (.ref r237), .val (.ref b238), .val (.ref req), .unset, .unset] [.null, (.ref b238), (.ref b374), (.ref b374)])) rfl (by rw [hml]; rfl) (Steps.refl _) (a := b374) (argsL := [(.ref b238), .null]) (rest := [(.ref b374)]) (lenOf own_pd17 rfl) rfl (by show 2 * 0 + _ ≤ _; exact Nat.le_of_eq rfl) (hb hby at_246) (fun _ _ => ⟨rfl, e374, (by decide : 25 + 5 ≤ _), (by decide : 162 + 33 ≤ _)⟩)
     dsimp only [Pt.U, Pt.locs, Pt.cells, Pt.slots] at X376 hS376 hg376 l376 y376 z376 C376 st376 hQ376
     subst l376 y376 z376
     obtain ⟨X376, hS376, hZ, hown⟩ := rebS hS_ (by rw [show T374.heap = h374 from e374]; exact c374_12) X376 hS376 hg376 hZ hown
     obtain ⟨rfl, N376q, K376q, xE376, pl376, spl376, xP376, xL376, xS376, pa376, kp376, xD376, xV376⟩ := hQ376
     have N376 := Fr.app N_ N376q
     have ne_b238_pl376 : b238 ≠ pl376 := Nat.ne_of_lt (Nat.lt_of_lt_of_le c374_0.lt spl376)
     have ne_r241_pl376 : r241 ≠ pl376 := Nat.ne_of_lt (Nat.lt_of_lt_of_le c374_4.lt spl376)
     have ne_r234_pl376 : r234 ≠ pl376 := Nat.ne_of_lt (Nat.lt_of_lt_of_le c374_5.lt spl376)
     have ne_r235_pl376 : r235 ≠ pl376 := Nat.ne_of_lt (Nat.lt_of_lt_of_le c374_6.lt spl376)
     have ne_r236_pl376 : r236 ≠ pl376 := Nat.ne_of_lt (Nat.lt_of_lt_of_le c374_7.lt spl376)
     have ne_r237_pl376 : r237 ≠ pl376 := Nat.ne_of_lt (Nat.lt_of_lt_of_le c374_8.lt spl376)
     have ne_req_pl376 : req ≠ pl376 := Nat.ne_of_lt (Nat.lt_of_lt_of_le c374_9.lt spl376)
     have ne_w_pl376 : w ≠ pl376 := Nat.ne_of_lt (Nat.lt_of_lt_of_le c374_18.lt spl376)
     have ne_b374_pl376 : b374 ≠ pl376 := Nat.ne_of_lt (Nat.lt_of_lt_of_le A374.lt spl376)
     have g_pl376 : n0 ≤ pl376 := Nat.le_trans Z374 spl376
     have sz_pl376 : T237.heap.size ≤ pl376 := Nat.le_trans K374.1 spl376
     have c376_0 := c374_0.keep K376q
     have c376_1 := c374_1.keep K376q (ninS ne_b238_b374 nin0)
     have c376_2 := c374_2.keep K376q (ninS ne_b238_b374 nin0)
     have c376_3 := c374_3.keep K376q (ninS ne_b238_b374 nin0)
     have c376_4 := c374_4.keep K376q (ninS ne_r241_b374 nin0)
     have c376_5 := c374_5.keep K376q
     have c376_6 := c374_6.keep K376q
     have c376_7 := c374_7.keep K376q
     have c376_8 := c374_8.keep K376q
     have c376_9 := c374_9.keep K376q
     have c376_10 := c374_10.keep K376q (ninS ne_req_b374 nin0)
     have c376_11 := own_sta_keepX c374_13 K376q (allS A374.nostat all0)
     have c376_12 := own_sta_keepX c374_14 K376q (allS A374.nostat all0)
     have c376_13 := own_sta_keepX c374_15 K376q (allS A374.nostat all0)
     have c376_14 := own_sta_keepX c374_16 K376q (allS A374.nostat all0)
     have c376_15 := own_sta_keepX c374_17 K376q (allS A374.nostat all0)
     have c376_16 := c374_18.keep K376q (ninS ne_w_b374 nin0)
     have c376_17 := A374.keep K376q
     have Z376 : n0 ≤ T376.heap.size := Nat.le_trans Z374 K376q.1
     have K376 := Keep.trans K374 K376q (allS (Or.inr sz_b374) all0)
     have CT376 := CHr.trans c374_11 C376
     refine own_goW (U' := T376.setTop (mkF m 249 #[.val (.int p0), .val (.int p1), .val (.long q2), .second, .val (.int (1 : Int32)), .val (.int y19), .val (.int y36), .val (.ref r234), .val (.ref r235), .val (.ref r236), .val (.ref r237), .val (.ref b238), .val (.ref req), .unset, .unset] [(.ref b374)])) (fun _ k => st376.trans k) ?_
     refine own_goW (U' := T376.setTop (mkF m 257 #[.val (.int p0), .val (.int p1), .val (.long q2), .second, .val (.int (1 : Int32)), .val (.int y19), .val (.int y36), .val (.ref r234), .val (.ref r235), .val (.ref r236), .val (.ref r237), .val (.ref b238), .val (.ref req), .val (.ref b374), .unset] [(.int y36), (.ref req), (.ref b374)])) (fun _ k => XS.astore X376.here hx rfl (hb hby at_249) rfl rfl (l' := #[.val (.int p0), .val (.int p1), .val (.long q2), .second, .val (.int (1 : Int32)), .val (.int y19), .val (.int y36), .val (.ref r234), .val (.ref r235), .val (.ref r236), .val (.ref r237), .val (.ref b238), .val (.ref req), .val (.ref b374), .unset]) rfl (XS.aload X376.here hx rfl (hb hby at_251) rfl rfl (XS.aload X376.here hx rfl (hb hby at_253) rfl rfl (XS.iload X376.here hx rfl (hb hby at_255) rfl k)))) ?_
     obtain ⟨cq377, kq377, q377a, q377b, q377c⟩ := isOf hZ rfl xE376
     obtain ⟨_, _, ⟨T377, L377, k377, n377⟩, -, X377, ⟨Lc377, hQ377, l377, y377, z377⟩, st377⟩ := X376.virtualBack hx (y := (⟨"com/example/hashtory/hashtory/Arguments", "positionals", "(Ljava/util/List;I)Ljava/util/List;"⟩ : MethodName)) (z := (⟨"com/example/hashtory/hashtory/Arguments", "positionals", "(Ljava/util/List;I)Ljava/util/List;"⟩ : MethodName)) hown (mvT hZ (hw _ (own_mem 99 rfl))) (mvT hZ (hw _ (own_mem 100 rfl))) (notFace_of_selects (args := #[]) (mvT hZ (hw _ (own_mem 102 rfl)))) (mvT hZ (hw _ (own_mem 102 rfl))) (mvT hZ (hw _ (own_mem 101 rfl))) (by decide) (backOf (W := 0) (rm15 l Z aw hw [] b374 req y36 pl376 (1 : Int32) y19 T376.heap n0 Z376 xP376 xL376 xS376 c376_9 c376_10 (by first | assumption | decide | rfl) (by first | assumption | decide | rfl)) hZ (hw _ (own_mem 103 rfl)) (hw _ (own_mem 61 rfl)) (by decide) (by decide)) q377a q377c (g := (mkF m 257 #[.val (.int p0), .val (.int p1), .val (.long q2), .second, .val (.int (1 : Int32)), .val (.int y19), .val (.int y36), .val (.ref r234), .val (.ref r235), .val (.ref r236), .val (.ref r237), .val (.ref b238), .val (.ref req), .val (.ref b374), .unset] [(.int y36), (.ref req), (.ref b374)])) rfl (by rw [hml]; rfl) (Steps.refl _) (argsL := [(.ref req), (.int y36)]) (rest := []) (lenOf own_pd18 rfl) rfl (by show 2 * 0 + _ ≤ _; exact Nat.le_of_eq rfl) (hb hby at_257) (fun _ _ => ⟨rfl, rfl, (by decide : 30 + 0 ≤ _), (by decide : 195 + 0 ≤ _)⟩)
     dsimp only [Pt.U, Pt.locs, Pt.cells, Pt.slots] at X377 l377 y377 z377 st377 hQ377
     subst l377 y377 z377
     obtain ⟨rfl, N377q, e377⟩ := hQ377
     have N377 := Fr.app N376 N377q
     refine own_goW (U' := T377.setTop (mkF m 260 #[.val (.int p0), .val (.int p1), .val (.long q2), .second, .val (.int (1 : Int32)), .val (.int y19), .val (.int y36), .val (.ref r234), .val (.ref r235), .val (.ref r236), .val (.ref r237), .val (.ref b238), .val (.ref req), .val (.ref b374), .unset] [(.ref pl376)])) (fun _ k => st377.trans k) ?_
     refine own_goW (U' := T377.setTop (mkF m 264 #[.val (.int p0), .val (.int p1), .val (.long q2), .second, .val (.int (1 : Int32)), .val (.int y19), .val (.int y36), .val (.ref r234), .val (.ref r235), .val (.ref r236), .val (.ref r237), .val (.ref b238), .val (.ref req), .val (.ref b374), .val (.ref pl376)] [(.ref pl376)])) (fun _ k => XS.astore X377.here hx rfl (hb hby at_260) rfl rfl (l' := #[.val (.int p0), .val (.int p1), .val (.long q2), .second, .val (.int (1 : Int32)), .val (.int y19), .val (.int y36), .val (.ref r234), .val (.ref r235), .val (.ref r236), .val (.ref r237), .val (.ref b238), .val (.ref req), .val (.ref b374), .val (.ref pl376)]) rfl (XS.aload X377.here hx rfl (hb hby at_262) rfl rfl k)) ?_
     obtain ⟨cq378, kq378, q378a, q378b, q378c⟩ := isOf hZ e377 xL376
     obtain ⟨_, _, ⟨T378, L378, k378, n378⟩, -, X378, ⟨Lc378, hQ378, l378, y378, z378⟩, st378⟩ := X377.interfaceBack hx (xi := (⟨"java/util/List", "size", "()I"⟩ : MethodName)) (y := (⟨"java/util/ArrayList", "size", "()I"⟩ : MethodName)) hown (mvT hZ (hw _ (own_mem 104 rfl))) (mvT hZ (hw _ (own_mem 89 rfl))) (mvT hZ (hw _ (own_mem 90 rfl))) (mvT hZ (hw _ (own_mem 91 rfl))) (mvT hZ (hw _ (own_mem 92 rfl))) (mvT hZ (hw _ (own_mem 93 rfl))) (mvT hZ (hw _ (own_mem 94 rfl))) (mvT hZ (hw _ (own_mem 95 rfl))) (by decide) (backOf (W := 0) (rm14 l Z aw hw [] pl376 (1 : Int32) T376.heap n0 Z376 xS376) hZ (hw _ (own_mem 96 rfl)) (hw _ (own_mem 37 rfl)) (by decide) (by decide)) q378a q378b q378c (g := (mkF m 264 #[.val (.int p0), .val (.int p1), .val (.long q2), .second, .val (.int (1 : Int32)), .val (.int y19), .val (.int y36), .val (.ref r234), .val (.ref r235), .val (.ref r236), .val (.ref r237), .val (.ref b238), .val (.ref req), .val (.ref b374), .val (.ref pl376)] [(.ref pl376)])) rfl (by rw [hml]; rfl) (Steps.refl _) (argsL := []) (rest := []) (lenOf own_pd5 rfl) rfl (by show 2 * 0 + _ ≤ _; exact Nat.le_of_eq rfl) (hb hby at_264) (fun _ _ => ⟨rfl, e377, (by decide : 30 + 0 ≤ _), (by decide : 195 + 0 ≤ _)⟩)
     dsimp only [Pt.U, Pt.locs, Pt.cells, Pt.slots] at X378 l378 y378 z378 st378 hQ378
     subst l378 y378 z378
     obtain ⟨rfl, N378q, e378⟩ := hQ378
     have N378 := Fr.app N377 N378q
     refine own_goW (U' := T378.setTop (mkF m 269 #[.val (.int p0), .val (.int p1), .val (.long q2), .second, .val (.int (1 : Int32)), .val (.int y19), .val (.int y36), .val (.ref r234), .val (.ref r235), .val (.ref r236), .val (.ref r237), .val (.ref b238), .val (.ref req), .val (.ref b374), .val (.ref pl376)] [(.int (1 : Int32))])) (fun _ k => st378.trans k) ?_
     refine own_goW (U' := T378.setTop (mkF m 271 #[.val (.int p0), .val (.int p1), .val (.long q2), .second, .val (.int (1 : Int32)), .val (.int y19), .val (.int y36), .val (.ref r234), .val (.ref r235), .val (.ref r236), .val (.ref r237), .val (.ref b238), .val (.ref req), .val (.ref b374), .val (.ref pl376)] [(.int (1 : Int32)), (.int (1 : Int32))])) (fun _ k => XS.iload X378.here hx rfl (hb hby at_269) rfl k) ?_
     refine own_goW (U' := T378.setTop (mkF m 278 #[.val (.int p0), .val (.int p1), .val (.long q2), .second, .val (.int (1 : Int32)), .val (.int y19), .val (.int y36), .val (.ref r234), .val (.ref r235), .val (.ref r236), .val (.ref r237), .val (.ref b238), .val (.ref req), .val (.ref b374), .val (.ref pl376)] [(.int (1 : Int32))])) (fun _ k => XS.icmpYes X378.here hx rfl (pc0 := 271) (pc' := 276) rfl (hb hby at_271) rfl (teq (by decide : ((1 : Int32) = (1 : Int32)))).1 (by decide) (by decide) (XS.iload X378.here hx rfl (hb hby at_276) rfl k)) ?_
     refine own_goW (U' := T378.setTop (mkF m 284 #[.val (.int p0), .val (.int p1), .val (.long q2), .second, .val (.int (1 : Int32)), .val (.int y19), .val (.int y36), .val (.ref r234), .val (.ref r235), .val (.ref r236), .val (.ref r237), .val (.ref b238), .val (.ref req), .val (.ref b374), .val (.ref pl376)] [(.int (0 : Int32)), (.ref pl376)])) (fun _ k => XS.ifNo X378.here hx rfl (hb hby at_278) rfl ((if0 _ _).trans (tlt (by decide : ((0 : Int32) < (1 : Int32)))).2.2.2) (XS.aload X378.here hx rfl (hb hby at_281) rfl rfl (XS.iconst X378.here hx rfl (hb hby at_283) k))) ?_
     obtain ⟨cq379, kq379, q379a, q379b, q379c⟩ := isOf hZ e378 xL376
     obtain ⟨_, _, ⟨T379, L379, k379, n379⟩, -, X379, ⟨Lc379, hQ379, l379, y379, z379⟩, st379⟩ := X378.interfaceBack hx (xi := (⟨"java/util/List", "get", "(I)Ljava/lang/Object;"⟩ : MethodName)) (y := (⟨"java/util/ArrayList", "get", "(I)Ljava/lang/Object;"⟩ : MethodName)) hown (mvT hZ (hw _ (own_mem 181 rfl))) (mvT hZ (hw _ (own_mem 138 rfl))) (mvT hZ (hw _ (own_mem 139 rfl))) (mvT hZ (hw _ (own_mem 140 rfl))) (mvT hZ (hw _ (own_mem 141 rfl))) (mvT hZ (hw _ (own_mem 142 rfl))) (mvT hZ (hw _ (own_mem 143 rfl))) (mvT hZ (hw _ (own_mem 95 rfl))) (by decide) (backOf (W := 0) (rm20 l Z aw hw [] pl376 (0 : Int32) (1 : Int32) pa376 kp376 [(.ref r234), .null, .null, .null, .null, .null, .null, .null, .null, .null] r234 T376.heap n0 Z376 xL376 xS376 xD376 xV376 (by first | assumption | decide | rfl) (by first | assumption | decide | rfl) (by first | assumption | decide | rfl) (by first | assumption | decide | rfl)) hZ (hw _ (own_mem 144 rfl)) (hw _ (own_mem 37 rfl)) (by decide) (by decide)) q379a q379b q379c (g := (mkF m 284 #[.val (.int p0), .val (.int p1), .val (.long q2), .second, .val (.int (1 : Int32)), .val (.int y19), .val (.int y36), .val (.ref r234), .val (.ref r235), .val (.ref r236), .val (.ref r237), .val (.ref b238), .val (.ref req), .val (.ref b374), .val (.ref pl376)] [(.int (0 : Int32)), (.ref pl376)])) rfl (by rw [hml]; rfl) (Steps.refl _) (argsL := [(.int (0 : Int32))]) (rest := []) (lenOf own_pd9 rfl) rfl (by show 2 * 0 + _ ≤ _; exact Nat.le_of_eq rfl) (hb hby at_284) (fun _ _ => ⟨rfl, e378, (by decide : 30 + 0 ≤ _), (by decide : 195 + 0 ≤ _)⟩)
     dsimp only [Pt.U, Pt.locs, Pt.cells, Pt.slots] at X379 l379 y379 z379 st379 hQ379
     subst l379 y379 z379
     obtain ⟨rfl, N379q, e379⟩ := hQ379
     have N379 := Fr.app N378 N379q
     refine own_goW (U' := T379.setTop (mkF m 289 #[.val (.int p0), .val (.int p1), .val (.long q2), .second, .val (.int (1 : Int32)), .val (.int y19), .val (.int y36), .val (.ref r234), .val (.ref r235), .val (.ref r236), .val (.ref r237), .val (.ref b238), .val (.ref req), .val (.ref b374), .val (.ref pl376)] [(.ref r234)])) (fun _ k => st379.trans k) ?_
     obtain ⟨T380, X380, e380, st380⟩ := castY X379 hx hZ hown (hw _ (own_mem 182 rfl)) e379 (Ins.self c376_5) (g := (mkF m 289 #[.val (.int p0), .val (.int p1), .val (.long q2), .second, .val (.int (1 : Int32)), .val (.int y19), .val (.int y36), .val (.ref r234), .val (.ref r235), .val (.ref r236), .val (.ref r237), .val (.ref b238), .val (.ref req), .val (.ref b374), .val (.ref pl376)] [(.ref r234)])) rfl rfl (hb hby at_289)
     refine own_goW (U' := T380.setTop (mkF m 292 #[.val (.int p0), .val (.int p1), .val (.long q2), .second, .val (.int (1 : Int32)), .val (.int y19), .val (.int y36), .val (.ref r234), .val (.ref r235), .val (.ref r236), .val (.ref r237), .val (.ref b238), .val (.ref req), .val (.ref b374), .val (.ref pl376)] [(.ref r234)])) (fun _ k => st380 _ k) ?_
     refine own_goW (U' := T380.setTop (mkF m 294 #[.val (.int p0), .val (.int p1), .val (.long q2), .second, .val (.int (1 : Int32)), .val (.int y19), .val (.int y36), .val (.ref r234), .val (.ref r235), .val (.ref r236), .val (.ref r237), .val (.ref b238), .val (.ref req), .val (.ref b374), .val (.ref pl376)] [(.ref r234), (.ref r234)])) (fun _ k => XS.aload X380.here hx rfl (hb hby at_292) rfl rfl k) ?_
     obtain ⟨cq381, kq381, q381a, q381b, q381c⟩ := isOf hZ e380 c376_5
     obtain ⟨_, _, ⟨T381, L381, k381, n381⟩, -, X381, ⟨Lc381, hQ381, l381, y381, z381⟩, st381⟩ := X380.virtualBack hx (y := (⟨"java/lang/String", "equals", "(Ljava/lang/Object;)Z"⟩ : MethodName)) (z := (⟨"java/lang/String", "equals", "(Ljava/lang/Object;)Z"⟩ : MethodName)) hown (mvT hZ (hw _ (own_mem 183 rfl))) (mvT hZ (hw _ (own_mem 184 rfl))) (notFace_of_selects (args := #[]) (mvT hZ (hw _ (own_mem 186 rfl)))) (mvT hZ (hw _ (own_mem 186 rfl))) (mvT hZ (hw _ (own_mem 185 rfl))) (by decide) (backOf (W := 0) (rm28 l Z aw hw [] r234 T376.heap n0 Z376 ) hZ (hw _ (own_mem 187 rfl)) (hw _ (own_mem 11 rfl)) (by decide) (by decide)) q381a q381c (g := (mkF m 294 #[.val (.int p0), .val (.int p1), .val (.long q2), .second, .val (.int (1 : Int32)), .val (.int y19), .val (.int y36), .val (.ref r234), .val (.ref r235), .val (.ref r236), .val (.ref r237), .val (.ref b238), .val (.ref req), .val (.ref b374), .val (.ref pl376)] [(.ref r234), (.ref r234)])) rfl (by rw [hml]; rfl) (Steps.refl _) (argsL := [(.ref r234)]) (rest := []) (lenOf own_pd15 rfl) rfl (by show 2 * 0 + _ ≤ _; exact Nat.le_of_eq rfl) (hb hby at_294) (fun _ _ => ⟨rfl, e380, (by decide : 30 + 0 ≤ _), (by decide : 195 + 0 ≤ _)⟩)
     dsimp only [Pt.U, Pt.locs, Pt.cells, Pt.slots] at X381 l381 y381 z381 st381 hQ381
     subst l381 y381 z381
     obtain ⟨rfl, N381q, e381⟩ := hQ381
     have N381 := Fr.app N379 N381q
     refine own_goW (U' := T381.setTop (mkF m 297 #[.val (.int p0), .val (.int p1), .val (.long q2), .second, .val (.int (1 : Int32)), .val (.int y19), .val (.int y36), .val (.ref r234), .val (.ref r235), .val (.ref r236), .val (.ref r237), .val (.ref b238), .val (.ref req), .val (.ref b374), .val (.ref pl376)] [(.int (1 : Int32))])) (fun _ k => st381.trans k) ?_
     refine own_goW (U' := T381.setTop (mkF m 305 #[.val (.int p0), .val (.int p1), .val (.long q2), .second, .val (.int (1 : Int32)), .val (.int y19), .val (.int y36), .val (.ref r234), .val (.ref r235), .val (.ref r236), .val (.ref r237), .val (.ref b238), .val (.ref req), .val (.ref b374), .val (.ref pl376)] [(.int (1 : Int32)), (.int (1 : Int32))])) (fun _ k => XS.ifYes X381.here hx rfl (pc0 := 297) (pc' := 302) rfl (hb hby at_297) rfl ((if0 _ _).trans (feq (by decide : ¬ ((1 : Int32) = (0 : Int32)))).2) (by decide) (by decide) (XS.iload X381.here hx rfl (hb hby at_302) rfl (XS.iconst X381.here hx rfl (hb hby at_304) k))) ?_
     refine own_goW (U' := T381.setTop (mkF m 332 #[.val (.int p0), .val (.int p1), .val (.long q2), .second, .val (.int (1 : Int32)), .val (.int y19), .val (.int y36), .val (.ref r234), .val (.ref r235), .val (.ref r236), .val (.ref r237), .val (.ref b238), .val (.ref req), .val (.ref b374), .val (.ref pl376)] [(.int (2 : Int32)), (.int (1 : Int32))])) (fun _ k => XS.icmpYes X381.here hx rfl (pc0 := 305) (pc' := 329) rfl (hb hby at_305) rfl (flt (by decide : ¬ ((1 : Int32) < (1 : Int32)))).2.2.2 (by decide) (by decide) (XS.iload X381.here hx rfl (hb hby at_329) rfl (XS.iconst X381.here hx rfl (hb hby at_331) k))) ?_
     refine own_goW (U' := T381.setTop (mkF m 359 #[.val (.int p0), .val (.int p1), .val (.long q2), .second, .val (.int (1 : Int32)), .val (.int y19), .val (.int y36), .val (.ref r234), .val (.ref r235), .val (.ref r236), .val (.ref r237), .val (.ref b238), .val (.ref req), .val (.ref b374), .val (.ref pl376)] [(.int (3 : Int32)), (.int (1 : Int32))])) (fun _ k => XS.icmpYes X381.here hx rfl (pc0 := 332) (pc' := 356) rfl (hb hby at_332) rfl (flt (by decide : ¬ ((2 : Int32) < (1 : Int32)))).2.2.2 (by decide) (by decide) (XS.iload X381.here hx rfl (hb hby at_356) rfl (XS.iconst X381.here hx rfl (hb hby at_358) k))) ?_
     refine own_goW (U' := T381.setTop (mkF m 384 #[.val (.int p0), .val (.int p1), .val (.long q2), .second, .val (.int (1 : Int32)), .val (.int y19), .val (.int y36), .val (.ref r234), .val (.ref r235), .val (.ref r236), .val (.ref r237), .val (.ref b238), .val (.ref req), .val (.ref b374), .val (.ref pl376)] [(.int (1 : Int32))])) (fun _ k => XS.icmpYes X381.here hx rfl (pc0 := 359) (pc' := 383) rfl (hb hby at_359) rfl (flt (by decide : ¬ ((3 : Int32) < (1 : Int32)))).2.2.2 (by decide) (by decide) (XS.iconst X381.here hx rfl (hb hby at_383) k)) ?_
     refine own_retW (vm₁ := T376.vm) X381 hS376 (by rw [show T381.heap = T376.heap from e381]; exact (Nat.le_refl _)) (by rw [hh, show T381.heap = T376.heap from e381]; exact CHr.trans CT376 (CHv.at (s := s) (vm0 := T376.vm) X381 hZ (own_EW hw) CT376.1)) (v := (some (.int (1 : Int32)))) hlk (fun h => by rw [Bd.returns] at h; cases h) (by decide) (by decide) (fun fs hr => retN X381 hx (t := .boolean) Bd.returns (by simp) (hb hby at_384) hr) ?_
     show (Q0 Z p0 p1 q2 cs w k0 h0 n0) _ T381.heap _
     rw [e381]
     exact ⟨rfl, N381⟩
    obtain ⟨T382, h382, X382, e382, E382, A382, D382, -, st382⟩ := newO X241 hx hZ hown (hw _ (own_mem 35 rfl)) (hw _ (own_mem 36 rfl)) (hw _ (own_mem 37 rfl)) rfl (g := (mkF m 167 #[.val (.int p0), .val (.int p1), .val (.long q2), .second, .val (.int (1 : Int32)), .val (.int y19), .val (.int y36), .val (.ref r234), .val (.ref r235), .val (.ref r236), .val (.ref r237), .val (.ref b238), .unset, .unset, .unset] [])) rfl (hb hby at_167) (by decide) (by decide)
    obtain ⟨b382, g382⟩ : ∃ z, z = T241.heap.size := ⟨_, rfl⟩
    have g_b382 : n0 ≤ b382 := Nat.le_trans Z241 (Nat.le_of_eq g382.symm)
    have sz_b382 : T237.heap.size ≤ b382 := Nat.le_trans K241.1 (Nat.le_of_eq g382.symm)
    have ne_w_b382 : w ≠ b382 := Nat.ne_of_lt (Nat.lt_of_lt_of_le c241_5.lt (Nat.le_of_eq g382.symm))
    have ne_r234_b382 : r234 ≠ b382 := Nat.ne_of_lt (Nat.lt_of_lt_of_le c241_8.lt (Nat.le_of_eq g382.symm))
    have ne_r235_b382 : r235 ≠ b382 := Nat.ne_of_lt (Nat.lt_of_lt_of_le c241_9.lt (Nat.le_of_eq g382.symm))
    have ne_r236_b382 : r236 ≠ b382 := Nat.ne_of_lt (Nat.lt_of_lt_of_le c241_10.lt (Nat.le_of_eq g382.symm))
    have ne_r237_b382 : r237 ≠ b382 := Nat.ne_of_lt (Nat.lt_of_lt_of_le c241_11.lt (Nat.le_of_eq g382.symm))
    have ne_b238_b382 : b238 ≠ b382 := Nat.ne_of_lt (Nat.lt_of_lt_of_le xE241.lt (Nat.le_of_eq g382.symm))
    have ne_r241_b382 : r241 ≠ b382 := Nat.ne_of_lt (Nat.lt_of_lt_of_le xV241.lt (Nat.le_of_eq g382.symm))
    rw [← g382] at A382 D382 st382
    have c382_0 := c241_0.ext E382
    have c382_1 := c241_1.ext E382
    have c382_2 := c241_2.ext E382
    have c382_3 := c241_3.ext E382
    have c382_4 := c241_4.ext E382
    have c382_5 := c241_5.ext E382
    have c382_6 := CHr.trans c241_6 (CHr.ext E382 c241_6.1)
    have c382_7 : 0 ≤ h382.size := Nat.le_trans c241_7 E382.1
    have c382_8 := c241_8.ext E382
    have c382_9 := c241_9.ext E382
    have c382_10 := c241_10.ext E382
    have c382_11 := c241_11.ext E382
    have c382_12 := xE241.ext E382
    have c382_13 := c241_16.ext E382
    have c382_14 := xS241.ext E382
    have c382_15 := xD241.ext E382
    have c382_16 := nf242.ext E382
    have c382_17 := xV241.ext E382
    have Z382 : n0 ≤ h382.size := Nat.le_trans Z241 E382.1
    have K382 := Keep.ext K241 E382
    have F382_55 : Fld Z h382 b382 "java/util/AbstractList" "modCount" "I" (.int (0 : Int32)) := D382 (Or.inl (hw _ (own_mem 55 rfl))) (ty := .int) (by decide)
    have F382_58 : Fld Z h382 b382 "java/util/ArrayList" "elementData" "[Ljava/lang/Object;" .null := D382 (Or.inl (hw _ (own_mem 58 rfl))) (ty := (.array (.object "java/lang/Object"))) (by decide)
    have F382_98 : Fld Z h382 b382 "java/util/ArrayList" "size" "I" (.int (0 : Int32)) := D382 (Or.inl (hw _ (own_mem 98 rfl))) (ty := .int) (by decide)
    refine own_goW (U' := T382.setTop (mkF m 170 #[.val (.int p0), .val (.int p1), .val (.long q2), .second, .val (.int (1 : Int32)), .val (.int y19), .val (.int y36), .val (.ref r234), .val (.ref r235), .val (.ref r236), .val (.ref r237), .val (.ref b238), .unset, .unset, .unset] [(.ref b382)])) (fun _ k => st382 _ k) ?_
    refine own_goW (U' := T382.setTop (mkF m 171 #[.val (.int p0), .val (.int p1), .val (.long q2), .second, .val (.int (1 : Int32)), .val (.int y19), .val (.int y36), .val (.ref r234), .val (.ref r235), .val (.ref r236), .val (.ref r237), .val (.ref b238), .unset, .unset, .unset] [(.ref b382), (.ref b382)])) (fun _ k => XS.dup X382.here hx rfl (hb hby at_170) rfl rfl k) ?_
    obtain ⟨_, _, ⟨T383, L383, k383, n383⟩, -, X383, ⟨Lc383, hQ383, l383, y383, z383⟩, st383⟩ := X382.specialBack hx (y := (⟨"java/util/ArrayList", "<init>", "()V"⟩ : MethodName)) rfl hown (mvT hZ (hw _ (own_mem 38 rfl))) (mvT hZ (hw _ (own_mem 39 rfl))) (mvT hZ (hw _ (own_mem 40 rfl))) (by decide) (backOf (W := 1) (rm8 l Z aw hw [] b382 w h382 n0 Z382 c382_4 A382 F382_98 F382_58 F382_55 (by first | assumption | decide | rfl)) hZ (hw _ (own_mem 40 rfl)) (hw _ (own_mem 37 rfl)) (by decide) (by decide)) (g := (mkF m 171 #[.val (.int p0), .val (.int p1), .val (.long q2), .second, .val (.int (1 : Int32)), .val (.int y19), .val (.int y36), .val (.ref r234), .val (.ref r235), .val (.ref r236), .val (.ref r237), .val (.ref b238), .unset, .unset, .unset] [(.ref b382), (.ref b382)])) rfl (by rw [hml]; rfl) (Steps.refl _) (a := b382) (argsL := []) (rest := [(.ref b382)]) (lenOf own_pd10 rfl) rfl (by show 2 * 0 + _ ≤ _; exact Nat.le_of_eq rfl) (hb hby at_171) (fun _ _ => ⟨rfl, e382, (by decide : 11 + 0 ≤ _), (by decide : 40 + 0 ≤ _)⟩)
    dsimp only [Pt.U, Pt.locs, Pt.cells, Pt.slots] at X383 l383 y383 z383 st383 hQ383
    subst l383 y383 z383
    obtain ⟨rfl, N383q, K383q, xE383, xS383, xD383, xM383⟩ := hQ383
    have N383 := Fr.app N241 N383q
    have c383_0 := own_sta_keepX c382_0 K383q (allS A382.nostat all0)
    have c383_1 := own_sta_keepX c382_1 K383q (allS A382.nostat all0)
    have c383_2 := own_sta_keepX c382_2 K383q (allS A382.nostat all0)
    have c383_3 := own_sta_keepX c382_3 K383q (allS A382.nostat all0)
    have c383_4 := own_sta_keepX c382_4 K383q (allS A382.nostat all0)
    have c383_5 := c382_5.keep K383q (ninS ne_w_b382 nin0)
    have c383_6 := CHr.trans c382_6 (CHr.keep K383q (allS (Safe.exa hZ.alike A382 (by decide) (by decide)) all0) c382_6.1)
    have c383_7 : 0 ≤ T383.heap.size := Nat.le_trans c382_7 K383q.1
    have c383_8 := c382_8.keep K383q
    have c383_9 := c382_9.keep K383q
    have c383_10 := c382_10.keep K383q
    have c383_11 := c382_11.keep K383q
    have c383_12 := c382_12.keep K383q
    have c383_13 := own_ins_keep c382_13 K383q
    have c383_14 := c382_14.keep K383q (ninS ne_b238_b382 nin0)
    have c383_15 := c382_15.keep K383q (ninS ne_b238_b382 nin0)
    have c383_16 := c382_16.keep K383q (ninS ne_b238_b382 nin0)
    have c383_17 := c382_17.keep K383q (ninS ne_r241_b382 nin0)
    have c383_18 := A382.keep K383q
    have Z383 : n0 ≤ T383.heap.size := Nat.le_trans Z382 K383q.1
    have K383 := Keep.trans K382 K383q (allS (Or.inr sz_b382) all0)
    refine own_goW (U' := T383.setTop (mkF m 174 #[.val (.int p0), .val (.int p1), .val (.long q2), .second, .val (.int (1 : Int32)), .val (.int y19), .val (.int y36), .val (.ref r234), .val (.ref r235), .val (.ref r236), .val (.ref r237), .val (.ref b238), .unset, .unset, .unset] [(.ref b382)])) (fun _ k => st383.trans k) ?_
    refine own_goW (U' := T383.setTop (mkF m 178 #[.val (.int p0), .val (.int p1), .val (.long q2), .second, .val (.int (1 : Int32)), .val (.int y19), .val (.int y36), .val (.ref r234), .val (.ref r235), .val (.ref r236), .val (.ref r237), .val (.ref b238), .val (.ref b382), .unset, .unset] [(.int y19)])) (fun _ k => XS.astore X383.here hx rfl (hb hby at_174) rfl rfl (l' := #[.val (.int p0), .val (.int p1), .val (.long q2), .second, .val (.int (1 : Int32)), .val (.int y19), .val (.int y36), .val (.ref r234), .val (.ref r235), .val (.ref r236), .val (.ref r237), .val (.ref b238), .val (.ref b382), .unset, .unset]) rfl (XS.iload X383.here hx rfl (hb hby at_176) rfl k)) ?_
    by_cases hc178_384 : (0 : Int32) < y19
    ·refine own_goW (U' := T383.setTop (mkF m 183 #[.val (.int p0), .val (.int p1), .val (.long q2), .second, .val (.int (1 : Int32)), .val (.int y19), .val (.int y36), .val (.ref r234), .val (.ref r235), .val (.ref r236), .val (.ref r237), .val (.ref b238), .val (.ref b382), .unset, .unset] [(.ref b382)])) (fun _ k => XS.ifNo X383.here hx rfl (hb hby at_178) rfl ((if0 _ _).trans (tlt hc178_384).2.2.2) (XS.aload X383.here hx rfl (hb hby at_181) rfl rfl k)) ?_
     obtain ⟨a385, T385, h385, k385, b385, kc385, X385, e385, E385, hS385, hk385, hZ, hown, Ex385, Fc385, Fv385, Vb385, -, -, CH385, -, -, st385⟩ := ldcCH (s := s) (vm0 := s.vm) X383 hx hZ hown (hw _ (own_mem 134 rfl)) (own_wS hw) rfl hS0 c383_7 (own_EW hw) (by decide) c383_6.1 (z := (1 : Int32)) own_text134 (by decide) rfl (g := (mkF m 183 #[.val (.int p0), .val (.int p1), .val (.long q2), .second, .val (.int (1 : Int32)), .val (.int y19), .val (.int y36), .val (.ref r234), .val (.ref r235), .val (.ref r236), .val (.ref r237), .val (.ref b238), .val (.ref b382), .unset, .unset] [(.ref b382)])) rfl (hb hby at_183) (n := 4) (by decide) (by decide) (by decide) (by decide)
     have c385_0 := c383_0.ext E385
     have c385_1 := c383_1.ext E385
     have c385_2 := c383_2.ext E385
     have c385_3 := c383_3.ext E385
     have c385_4 := c383_4.ext E385
     have c385_5 := c383_5.ext E385
     have c385_6 := c383_8.ext E385
     have c385_7 := c383_9.ext E385
     have c385_8 := c383_10.ext E385
     have c385_9 := c383_11.ext E385
     have c385_10 := c383_12.ext E385
     have c385_11 := c383_13.ext E385
     have c385_12 := c383_14.ext E385
     have c385_13 := c383_15.ext E385
     have c385_14 := c383_16.ext E385
     have c385_15 := c383_17.ext E385
     have c385_16 := xE383.ext E385
     have c385_17 := xS383.ext E385
     have c385_18 := xD383.ext E385
     have c385_19 := xM383.ext E385
     have Z385 : n0 ≤ h385.size := Nat.le_trans Z383 E385.1
     have K385 := Keep.ext K383 E385
     have CR385 := CHr.trans c383_6 CH385
     refine own_goW (U' := T385.setTop (mkF m 185 #[.val (.int p0), .val (.int p1), .val (.long q2), .second, .val (.int (1 : Int32)), .val (.int y19), .val (.int y36), .val (.ref r234), .val (.ref r235), .val (.ref r236), .val (.ref r237), .val (.ref b238), .val (.ref b382), .unset, .unset] [(.ref a385), (.ref b382)])) (fun _ k => st385 _ k) ?_
     obtain ⟨cq386, kq386, q386a, q386b, q386c⟩ := isOf hZ e385 c385_16
     obtain ⟨_, _, ⟨T386, L386, k386, n386⟩, -, X386, ⟨Lc386, hQ386, l386, y386, z386⟩, st386⟩ := X385.interfaceBack hx (xi := (⟨"java/util/List", "add", "(Ljava/lang/Object;)Z"⟩ : MethodName)) (y := (⟨"java/util/ArrayList", "add", "(Ljava/lang/Object;)Z"⟩ : MethodName)) hown (mvT hZ (hw _ (own_mem 105 rfl))) (mvT hZ (hw _ (own_mem 106 rfl))) (mvT hZ (hw _ (own_mem 107 rfl))) (mvT hZ (hw _ (own_mem 108 rfl))) (mvT hZ (hw _ (own_mem 109 rfl))) (mvT hZ (hw _ (own_mem 110 rfl))) (mvT hZ (hw _ (own_mem 111 rfl))) (mvT hZ (hw _ (own_mem 95 rfl))) (by decide) (backOf (W := 0) (rm16g l Z aw hw [] b382 a385 w k0 (0 : Int32) h385 n0 Z385 c385_4 c385_5 (Ins.of_exa Ex385 (hw _ (own_mem 133 rfl))) c385_16 c385_17 c385_18 c385_19 (by first | assumption | decide | rfl)) hZ (hw _ (own_mem 112 rfl)) (hw _ (own_mem 37 rfl)) (by decide) (by decide)) q386a q386b q386c (g := (mkF m 185 #[.val (.int p0), .val (.int p1), .val (.long q2), .second, .val (.int (1 : Int32)), .val (.int y19), .val (.int y36), .val (.ref r234), .val (.ref r235), .val (.ref r236), .val (.ref r237), .val (.ref b238), .val (.ref b382), .unset, .unset] [(.ref a385), (.ref b382)])) rfl (by rw [hml]; rfl) (Steps.refl _) (argsL := [(.ref a385)]) (rest := []) (lenOf own_pd15 rfl) rfl (by show 2 * 0 + _ ≤ _; exact Nat.le_of_eq rfl) (hb hby at_185) (fun _ _ => ⟨rfl, e385, (by decide : 13 + 1 ≤ _), (by decide : 48 + 10 ≤ _)⟩)
     dsimp only [Pt.U, Pt.locs, Pt.cells, Pt.slots] at X386 l386 y386 z386 st386 hQ386
     subst l386 y386 z386
     obtain ⟨r386, kr386, rfl, N386q, K386q, sr386, xE386, xS386, xD386, xM386, xV386, xO386⟩ := hQ386
     have N386 := Fr.app N383 N386q
     have ne_w_r386 : w ≠ r386 := Nat.ne_of_lt (Nat.lt_of_lt_of_le c385_5.lt sr386)
     have ne_r234_r386 : r234 ≠ r386 := Nat.ne_of_lt (Nat.lt_of_lt_of_le c385_6.lt sr386)
     have ne_r235_r386 : r235 ≠ r386 := Nat.ne_of_lt (Nat.lt_of_lt_of_le c385_7.lt sr386)
     have ne_r236_r386 : r236 ≠ r386 := Nat.ne_of_lt (Nat.lt_of_lt_of_le c385_8.lt sr386)
     have ne_r237_r386 : r237 ≠ r386 := Nat.ne_of_lt (Nat.lt_of_lt_of_le c385_9.lt sr386)
     have ne_b238_r386 : b238 ≠ r386 := Nat.ne_of_lt (Nat.lt_of_lt_of_le c385_10.lt sr386)
     have ne_r241_r386 : r241 ≠ r386 := Nat.ne_of_lt (Nat.lt_of_lt_of_le c385_15.lt sr386)
     have ne_b382_r386 : b382 ≠ r386 := Nat.ne_of_lt (Nat.lt_of_lt_of_le c385_16.lt sr386)
     have ne_a385_r386 : a385 ≠ r386 := Nat.ne_of_lt (Nat.lt_of_lt_of_le Ex385.lt sr386)
     have g_r386 : n0 ≤ r386 := Nat.le_trans Z385 sr386
     have sz_r386 : T237.heap.size ≤ r386 := Nat.le_trans K385.1 sr386
     have ne_a385_b382 : a385 ≠ b382 := Exa.ne Ex385 c385_16 (by decide)
     have c386_0 := own_sta_keepX c385_0 K386q (allS c385_16.nostat all0)
     have c386_1 := own_sta_keepX c385_1 K386q (allS c385_16.nostat all0)
     have c386_2 := own_sta_keepX c385_2 K386q (allS c385_16.nostat all0)
     have c386_3 := own_sta_keepX c385_3 K386q (allS c385_16.nostat all0)
     have c386_4 := own_sta_keepX c385_4 K386q (allS c385_16.nostat all0)
     have c386_5 := c385_5.keep K386q (ninS ne_w_b382 nin0)
     have c386_6 := c385_6.keep K386q
     have c386_7 := c385_7.keep K386q
     have c386_8 := c385_8.keep K386q
     have c386_9 := c385_9.keep K386q
     have c386_10 := c385_10.keep K386q
     have c386_11 := own_ins_keep c385_11 K386q
     have c386_12 := c385_12.keep K386q (ninS ne_b238_b382 nin0)
     have c386_13 := c385_13.keep K386q (ninS ne_b238_b382 nin0)
     have c386_14 := c385_14.keep K386q (ninS ne_b238_b382 nin0)
     have c386_15 := c385_15.keep K386q (ninS ne_r241_b382 nin0)
     have c386_16 := c385_16.keep K386q
     have c386_20 := Ex385.keep K386q
     have c386_21 := CHr.trans CR385 (CHr.keep K386q (allS (Safe.exa hZ.alike c385_16 (by decide) (by decide)) all0) CR385.1)
     have c386_22 : k385 ≤ T386.heap.size := Nat.le_trans hk385 K386q.1
     have c386_23 := own_ins_keep (Ins.of_exa Ex385 (hw _ (own_mem 133 rfl))) K386q
     have nf387 : Fld Z T386.heap b382 "java/util/AbstractList" "modCount" "I" (.int (1 : Int32)) := xM386
     have Z386 : n0 ≤ T386.heap.size := Nat.le_trans Z385 K386q.1
     have K386 := Keep.trans K385 K386q (allS (Or.inr sz_b382) all0)
     refine own_goW (U' := T386.setTop (mkF m 190 #[.val (.int p0), .val (.int p1), .val (.long q2), .second, .val (.int (1 : Int32)), .val (.int y19), .val (.int y36), .val (.ref r234), .val (.ref r235), .val (.ref r236), .val (.ref r237), .val (.ref b238), .val (.ref b382), .unset, .unset] [(.int (1 : Int32))])) (fun _ k => st386.trans k) ?_
     refine own_goW (U' := T386.setTop (mkF m 194 #[.val (.int p0), .val (.int p1), .val (.long q2), .second, .val (.int (1 : Int32)), .val (.int y19), .val (.int y36), .val (.ref r234), .val (.ref r235), .val (.ref r236), .val (.ref r237), .val (.ref b238), .val (.ref b382), .unset, .unset] [(.int (1 : Int32)), (.int y19)])) (fun _ k => XS.pop X386.here hx rfl (hb hby at_190) rfl rfl (XS.iload X386.here hx rfl (hb hby at_191) rfl (XS.iconst X386.here hx rfl (hb hby at_193) k))) ?_
     have hc194_388 : ¬ ((1 : Int32) < y19) := own_nlt hp1 (by decide)
     refine own_goW (U' := T386.setTop (mkF m 210 #[.val (.int p0), .val (.int p1), .val (.long q2), .second, .val (.int (1 : Int32)), .val (.int y19), .val (.int y36), .val (.ref r234), .val (.ref r235), .val (.ref r236), .val (.ref r237), .val (.ref b238), .val (.ref b382), .unset, .unset] [(.int (2 : Int32)), (.int y19)])) (fun _ k => XS.icmpYes X386.here hx rfl (pc0 := 194) (pc' := 207) rfl (hb hby at_194) rfl (flt hc194_388).2.2.2 (by decide) (by decide) (XS.iload X386.here hx rfl (hb hby at_207) rfl (XS.iconst X386.here hx rfl (hb hby at_209) k))) ?_
     have hc210_389 : ¬ ((2 : Int32) < y19) := own_nlt hc194_388 (by decide)
     refine own_goW (U' := T386.setTop (mkF m 226 #[.val (.int p0), .val (.int p1), .val (.long q2), .second, .val (.int (1 : Int32)), .val (.int y19), .val (.int y36), .val (.ref r234), .val (.ref r235), .val (.ref r236), .val (.ref r237), .val (.ref b238), .val (.ref b382), .unset, .unset] [(.int (3 : Int32)), (.int y19)])) (fun _ k => XS.icmpYes X386.here hx rfl (pc0 := 210) (pc' := 223) rfl (hb hby at_210) rfl (flt hc210_389).2.2.2 (by decide) (by decide) (XS.iload X386.here hx rfl (hb hby at_223) rfl (XS.iconst X386.here hx rfl (hb hby at_225) k))) ?_
     have hc226_390 : ¬ ((3 : Int32) < y19) := own_nlt hc194_388 (by decide)
     refine own_goW (U' := T386.setTop (mkF m 239 #[.val (.int p0), .val (.int p1), .val (.long q2), .second, .val (.int (1 : Int32)), .val (.int y19), .val (.int y36), .val (.ref r234), .val (.ref r235), .val (.ref r236), .val (.ref r237), .val (.ref b238), .val (.ref b382), .unset, .unset] [])) (fun _ k => XS.icmpYes X386.here hx rfl (pc0 := 226) (pc' := 239) rfl (hb hby at_226) rfl (flt hc226_390).2.2.2 (by decide) (by decide) k) ?_
     have hrq : y19 = (1 : Int32) := own_eqk (a := (0 : Int32)) (b := (1 : Int32)) (by decide) hc178_384 hp1
     have fq : Fld Z T386.heap b382 "java/util/ArrayList" "size" "I" (.int y19) := by rw [hrq]; exact xS386
     exact tail _ _ _ _ (own_weak X386 (by decide) (by decide)) _ rfl hS385 hZ hown c386_21 c386_22 N386 Z386 K386 _ c386_10 c386_12 c386_13 c386_14 c386_15 c386_6 c386_7 c386_8 c386_9 xE386 fq
    ·refine own_goW (U' := T383.setTop (mkF m 194 #[.val (.int p0), .val (.int p1), .val (.long q2), .second, .val (.int (1 : Int32)), .val (.int y19), .val (.int y36), .val (.ref r234), .val (.ref r235), .val (.ref r236), .val (.ref r237), .val (.ref b238), .val (.ref b382), .unset, .unset] [(.int (1 : Int32)), (.int y19)])) (fun _ k => XS.ifYes X383.here hx rfl (pc0 := 178) (pc' := 191) rfl (hb hby at_178) rfl ((if0 _ _).trans (flt hc178_384).2.2.2) (by decide) (by decide) (XS.iload X383.here hx rfl (hb hby at_191) rfl (XS.iconst X383.here hx rfl (hb hby at_193) k))) ?_
     have hc194_391 : ¬ ((1 : Int32) < y19) := own_nlt hc178_384 (by decide)
     refine own_goW (U' := T383.setTop (mkF m 210 #[.val (.int p0), .val (.int p1), .val (.long q2), .second, .val (.int (1 : Int32)), .val (.int y19), .val (.int y36), .val (.ref r234), .val (.ref r235), .val (.ref r236), .val (.ref r237), .val (.ref b238), .val (.ref b382), .unset, .unset] [(.int (2 : Int32)), (.int y19)])) (fun _ k => XS.icmpYes X383.here hx rfl (pc0 := 194) (pc' := 207) rfl (hb hby at_194) rfl (flt hc194_391).2.2.2 (by decide) (by decide) (XS.iload X383.here hx rfl (hb hby at_207) rfl (XS.iconst X383.here hx rfl (hb hby at_209) k))) ?_
     have hc210_392 : ¬ ((2 : Int32) < y19) := own_nlt hc178_384 (by decide)
     refine own_goW (U' := T383.setTop (mkF m 226 #[.val (.int p0), .val (.int p1), .val (.long q2), .second, .val (.int (1 : Int32)), .val (.int y19), .val (.int y36), .val (.ref r234), .val (.ref r235), .val (.ref r236), .val (.ref r237), .val (.ref b238), .val (.ref b382), .unset, .unset] [(.int (3 : Int32)), (.int y19)])) (fun _ k => XS.icmpYes X383.here hx rfl (pc0 := 210) (pc' := 223) rfl (hb hby at_210) rfl (flt hc210_392).2.2.2 (by decide) (by decide) (XS.iload X383.here hx rfl (hb hby at_223) rfl (XS.iconst X383.here hx rfl (hb hby at_225) k))) ?_
     have hc226_393 : ¬ ((3 : Int32) < y19) := own_nlt hc178_384 (by decide)
     refine own_goW (U' := T383.setTop (mkF m 239 #[.val (.int p0), .val (.int p1), .val (.long q2), .second, .val (.int (1 : Int32)), .val (.int y19), .val (.int y36), .val (.ref r234), .val (.ref r235), .val (.ref r236), .val (.ref r237), .val (.ref b238), .val (.ref b382), .unset, .unset] [])) (fun _ k => XS.icmpYes X383.here hx rfl (pc0 := 226) (pc' := 239) rfl (hb hby at_226) rfl (flt hc226_393).2.2.2 (by decide) (by decide) k) ?_
     have hrq : y19 = (0 : Int32) := own_eq0 hr0 hc178_384
     have fq : Fld Z T383.heap b382 "java/util/ArrayList" "size" "I" (.int y19) := by rw [hrq]; exact xS383
     exact tail _ _ _ _ (own_weak X383 (by decide) (by decide)) _ rfl hS0 hZ hown c383_6 c383_7 N383 Z383 K383 _ c383_12 c383_14 c383_15 c383_16 c383_17 c383_8 c383_9 c383_10 c383_11 xE383 fq
  ·refine own_goW (U' := T239.setTop (mkF m 122 #[.val (.int p0), .val (.int p1), .val (.long q2), .second, .val (.int y6), .val (.int y19), .val (.int y36), .val (.ref r234), .val (.ref r235), .val (.ref r236), .val (.ref r237), .val (.ref b238), .unset, .unset, .unset] [(.int (1 : Int32)), (.int y6)])) (fun _ k => XS.ifYes X239.here hx rfl (pc0 := 106) (pc' := 119) rfl (hb hby at_106) rfl ((if0 _ _).trans (flt hc106_240).2.2.2) (by decide) (by decide) (XS.iload X239.here hx rfl (hb hby at_119) rfl (XS.iconst X239.here hx rfl (hb hby at_121) k))) ?_
   have hc122_394 : ¬ ((1 : Int32) < y6) := own_nlt hc106_240 (by decide)
   refine own_goW (U' := T239.setTop (mkF m 138 #[.val (.int p0), .val (.int p1), .val (.long q2), .second, .val (.int y6), .val (.int y19), .val (.int y36), .val (.ref r234), .val (.ref r235), .val (.ref r236), .val (.ref r237), .val (.ref b238), .unset, .unset, .unset] [(.int (2 : Int32)), (.int y6)])) (fun _ k => XS.icmpYes X239.here hx rfl (pc0 := 122) (pc' := 135) rfl (hb hby at_122) rfl (flt hc122_394).2.2.2 (by decide) (by decide) (XS.iload X239.here hx rfl (hb hby at_135) rfl (XS.iconst X239.here hx rfl (hb hby at_137) k))) ?_
   have hc138_395 : ¬ ((2 : Int32) < y6) := own_nlt hc106_240 (by decide)
   refine own_goW (U' := T239.setTop (mkF m 154 #[.val (.int p0), .val (.int p1), .val (.long q2), .second, .val (.int y6), .val (.int y19), .val (.int y36), .val (.ref r234), .val (.ref r235), .val (.ref r236), .val (.ref r237), .val (.ref b238), .unset, .unset, .unset] [(.int (3 : Int32)), (.int y6)])) (fun _ k => XS.icmpYes X239.here hx rfl (pc0 := 138) (pc' := 151) rfl (hb hby at_138) rfl (flt hc138_395).2.2.2 (by decide) (by decide) (XS.iload X239.here hx rfl (hb hby at_151) rfl (XS.iconst X239.here hx rfl (hb hby at_153) k))) ?_
   have hc154_396 : ¬ ((3 : Int32) < y6) := own_nlt hc106_240 (by decide)
   refine own_goW (U' := T239.setTop (mkF m 167 #[.val (.int p0), .val (.int p1), .val (.long q2), .second, .val (.int y6), .val (.int y19), .val (.int y36), .val (.ref r234), .val (.ref r235), .val (.ref r236), .val (.ref r237), .val (.ref b238), .unset, .unset, .unset] [])) (fun _ k => XS.icmpYes X239.here hx rfl (pc0 := 154) (pc' := 167) rfl (hb hby at_154) rfl (flt hc154_396).2.2.2 (by decide) (by decide) k) ?_
   obtain rfl : y6 = (0 : Int32) := own_eq0 hr5.1 hc106_240
   have hmr := own_min (by decide) hy19
   have hp1 := own_p1 hmr
   have hp2 := own_p2 hmr hy36
   have hr0 := own_r0 hmr
   have tail : ∀ (vm_ : Vm) (T_ : State) (l_ : List Loc) (k_ : Nat) (X_ : Stand p l e room_1 (s.setVm vm_) m #[(.int p0), (.int p1), (.long q2)] below meth c T_ l_ 24 160) (h_ : Heap) (e_ : T_.heap = h_) (hS_ : s.Since vm_ k_) (hZ : Z.Warmed39 (s.setVm vm_).vm) (hown : (s.setVm vm_).vm.findClass "com/example/hashtory/hashtory/ArgumentsPositionalsPinLaw" = some m.cls) (CR_ : CHr Z own_EL s.vm h0 vm_ h_) (Sz_ : k_ ≤ h_.size) (N_ : Fr n0 l_) (Z_ : n0 ≤ h_.size) (KP_ : Keep T237.heap h_ []) (req : Addr) (t_0 : Exa Z h_ b238 "java/util/ArrayList") (t_1 : Fld Z h_ b238 "java/util/ArrayList" "size" "I" (.int (0 : Int32))) (t_2 : Fld Z h_ b238 "java/util/ArrayList" "elementData" "[Ljava/lang/Object;" (.ref w)) (t_3 : Fld Z h_ b238 "java/util/AbstractList" "modCount" "I" (.int (0 : Int32))) (t_4 : Exa Z h_ r234 "java/lang/String") (t_5 : Exa Z h_ r235 "java/lang/String") (t_6 : Exa Z h_ r236 "java/lang/String") (t_7 : Exa Z h_ r237 "java/lang/String") (q_0 : Exa Z h_ req "java/util/ArrayList") (q_1 : Fld Z h_ req "java/util/ArrayList" "size" "I" (.int y19)), own_DoneW p e below s Z own_EL (Q0 Z p0 p1 q2 cs w k0 h0 n0) room_1.cells room_1.slots (T_.setTop (mkF m 239 #[.val (.int p0), .val (.int p1), .val (.long q2), .second, .val (.int (0 : Int32)), .val (.int y19), .val (.int y36), .val (.ref r234), .val (.ref r235), .val (.ref r236), .val (.ref r237), .val (.ref b238), .val (.ref req), .unset, .unset] [])) := by
    intro vm_ T_ l_ k_ X_ h_ e_ hS_ hZ hown CR_ Sz_ N_ Z_ KP_ req t_0 t_1 t_2 t_3 t_4 t_5 t_6 t_7 q_0 q_1
    have sb_0 := own_sta_keep c237_0 KP_
    have sb_1 := own_sta_keep c237_1 KP_
    have sb_2 := own_sta_keep c237_2 KP_
    have sb_3 := own_sta_keep c237_3 KP_
    have sb_4 := own_sta_keep c237_4 KP_
    have vb_ := c237_5.keep KP_ nin0
    obtain ⟨T397, h397, X397, e397, E397, A397, D397, -, st397⟩ := newO X_ hx hZ hown (hw _ (own_mem 59 rfl)) (hw _ (own_mem 60 rfl)) (hw _ (own_mem 61 rfl)) e_ (g := (mkF m 239 #[.val (.int p0), .val (.int p1), .val (.long q2), .second, .val (.int (0 : Int32)), .val (.int y19), .val (.int y36), .val (.ref r234), .val (.ref r235), .val (.ref r236), .val (.ref r237), .val (.ref b238), .val (.ref req), .unset, .unset] [])) rfl (hb hby at_239) (by decide) (by decide)
    obtain ⟨b397, g397⟩ : ∃ z, z = h_.size := ⟨_, rfl⟩
    have g_b397 : n0 ≤ b397 := Nat.le_trans Z_ (Nat.le_of_eq g397.symm)
    have sz_b397 : T237.heap.size ≤ b397 := Nat.le_trans KP_.1 (Nat.le_of_eq g397.symm)
    have ne_b238_b397 : b238 ≠ b397 := Nat.ne_of_lt (Nat.lt_of_lt_of_le t_0.lt (Nat.le_of_eq g397.symm))
    have ne_r234_b397 : r234 ≠ b397 := Nat.ne_of_lt (Nat.lt_of_lt_of_le t_4.lt (Nat.le_of_eq g397.symm))
    have ne_r235_b397 : r235 ≠ b397 := Nat.ne_of_lt (Nat.lt_of_lt_of_le t_5.lt (Nat.le_of_eq g397.symm))
    have ne_r236_b397 : r236 ≠ b397 := Nat.ne_of_lt (Nat.lt_of_lt_of_le t_6.lt (Nat.le_of_eq g397.symm))
    have ne_r237_b397 : r237 ≠ b397 := Nat.ne_of_lt (Nat.lt_of_lt_of_le t_7.lt (Nat.le_of_eq g397.symm))
    have ne_req_b397 : req ≠ b397 := Nat.ne_of_lt (Nat.lt_of_lt_of_le q_0.lt (Nat.le_of_eq g397.symm))
    have ne_w_b397 : w ≠ b397 := Nat.ne_of_lt (Nat.lt_of_lt_of_le vb_.lt (Nat.le_of_eq g397.symm))
    rw [← g397] at A397 D397 st397
    have c397_0 := t_0.ext E397
    have c397_1 := t_1.ext E397
    have c397_2 := t_2.ext E397
    have c397_3 := t_3.ext E397
    have c397_4 := t_4.ext E397
    have c397_5 := t_5.ext E397
    have c397_6 := t_6.ext E397
    have c397_7 := t_7.ext E397
    have c397_8 := q_0.ext E397
    have c397_9 := q_1.ext E397
    have c397_10 := CHr.trans CR_ (CHr.ext E397 CR_.1)
    have c397_11 : k_ ≤ h397.size := Nat.le_trans Sz_ E397.1
    have c397_12 := sb_0.ext E397
    have c397_13 := sb_1.ext E397
    have c397_14 := sb_2.ext E397
    have c397_15 := sb_3.ext E397
    have c397_16 := sb_4.ext E397
    have c397_17 := vb_.ext E397
    have Z397 : n0 ≤ h397.size := Nat.le_trans Z_ E397.1
    have K397 := Keep.ext KP_ E397
    have F397_69 : Fld Z h397 b397 "com/example/hashtory/hashtory/Arguments" "positionals" "Ljava/util/List;" .null := D397 (Or.inr (hw _ (own_mem 69 rfl))) (ty := (.object "java/util/List")) (by decide)
    have F397_87 : Fld Z h397 b397 "com/example/hashtory/hashtory/Arguments" "options" "Ljava/util/Map;" .null := D397 (Or.inr (hw _ (own_mem 87 rfl))) (ty := (.object "java/util/Map")) (by decide)
    refine own_goW (U' := T397.setTop (mkF m 242 #[.val (.int p0), .val (.int p1), .val (.long q2), .second, .val (.int (0 : Int32)), .val (.int y19), .val (.int y36), .val (.ref r234), .val (.ref r235), .val (.ref r236), .val (.ref r237), .val (.ref b238), .val (.ref req), .unset, .unset] [(.ref b397)])) (fun _ k => st397 _ k) ?_
    refine own_goW (U' := T397.setTop (mkF m 246 #[.val (.int p0), .val (.int p1), .val (.long q2), .second, .val (.int (0 : Int32)), .val (.int y19), .val (.int y36), .val (.ref r234), .val (.ref r235), .val (.ref r236), .val (.ref r237), .val (.ref b238), .val (.ref req), .unset, .unset] [.null, (.ref b238), (.ref b397), (.ref b397)])) (fun _ k => XS.dup X397.here hx rfl (hb hby at_242) rfl rfl (XS.aload X397.here hx rfl (hb hby at_243) rfl rfl (XS.aconstNull X397.here hx rfl (hb hby at_245) k))) ?_
    obtain ⟨_, _, ⟨T398, L398, k398, n398⟩, -, X398, hS398, hg398, ⟨Lc398, hQ398, l398, y398, z398, C398⟩, st398⟩ := X397.specialBackS hx (y := (⟨"com/example/hashtory/hashtory/Arguments", "<init>", "(Ljava/util/List;Ljava/util/Set;)V"⟩ : MethodName)) rfl hown (mvT hZ (hw _ (own_mem 62 rfl))) (mvT hZ (hw _ (own_mem 63 rfl))) (mvT hZ (hw _ (own_mem 64 rfl))) (by decide) (backOfSH (s := s) (vm0 := vm_) (W := 1) (rm11_0 l Z aw hw [] b397 b238 cs w k0 h397 n0 Z397 A397 F397_69 F397_87 c397_12 c397_16 c397_17 c397_0 c397_1 (by first | assumption | decide | rfl) (by first | assumption | decide | rfl)) hZ (hw _ (own_mem 64 rfl)) (hw _ (own_mem 61 rfl)) (by decide) (by decide) (own_EW hw) c397_10.1) (g := (mkF m 246 #[.val (.int p0), .val (.int p1), .val (.long q2), .second, .val (.int (0 : Int32)), .val (.int y19), .val (.int y36), .val (.ref r234), .val (.ref r235), .val (.ref r236), .val (.ref r237), .val (.ref b238), .val (.ref req), .unset, .unset] [.null, (.ref b238), (.ref b397), (.ref b397)])) rfl (by rw [hml]; rfl) (Steps.refl _) (a := b397) (argsL := [(.ref b238), .null]) (rest := [(.ref b397)]) (lenOf own_pd17 rfl) rfl (by show 2 * 0 + _ ≤ _; exact Nat.le_of_eq rfl) (hb hby at_246) (fun _ _ => ⟨rfl, e397, (by decide : 25 + 2 ≤ _), (by decide : 162 + 11 ≤ _)⟩)
    dsimp only [Pt.U, Pt.locs, Pt.cells, Pt.slots] at X398 hS398 hg398 l398 y398 z398 C398 st398 hQ398
    subst l398 y398 z398
    obtain ⟨X398, hS398, hZ, hown⟩ := rebS hS_ (by rw [show T397.heap = h397 from e397]; exact c397_11) X398 hS398 hg398 hZ hown
    obtain ⟨rfl, N398q, K398q, xE398, pl398, spl398, xP398, xL398, xS398⟩ := hQ398
    have N398 := Fr.app N_ N398q
    have ne_b238_pl398 : b238 ≠ pl398 := Nat.ne_of_lt (Nat.lt_of_lt_of_le c397_0.lt spl398)
    have ne_r234_pl398 : r234 ≠ pl398 := Nat.ne_of_lt (Nat.lt_of_lt_of_le c397_4.lt spl398)
    have ne_r235_pl398 : r235 ≠ pl398 := Nat.ne_of_lt (Nat.lt_of_lt_of_le c397_5.lt spl398)
    have ne_r236_pl398 : r236 ≠ pl398 := Nat.ne_of_lt (Nat.lt_of_lt_of_le c397_6.lt spl398)
    have ne_r237_pl398 : r237 ≠ pl398 := Nat.ne_of_lt (Nat.lt_of_lt_of_le c397_7.lt spl398)
    have ne_req_pl398 : req ≠ pl398 := Nat.ne_of_lt (Nat.lt_of_lt_of_le c397_8.lt spl398)
    have ne_w_pl398 : w ≠ pl398 := Nat.ne_of_lt (Nat.lt_of_lt_of_le c397_17.lt spl398)
    have ne_b397_pl398 : b397 ≠ pl398 := Nat.ne_of_lt (Nat.lt_of_lt_of_le A397.lt spl398)
    have g_pl398 : n0 ≤ pl398 := Nat.le_trans Z397 spl398
    have sz_pl398 : T237.heap.size ≤ pl398 := Nat.le_trans K397.1 spl398
    have c398_0 := c397_0.keep K398q
    have c398_1 := c397_1.keep K398q (ninS ne_b238_b397 nin0)
    have c398_2 := c397_2.keep K398q (ninS ne_b238_b397 nin0)
    have c398_3 := c397_3.keep K398q (ninS ne_b238_b397 nin0)
    have c398_4 := c397_4.keep K398q
    have c398_5 := c397_5.keep K398q
    have c398_6 := c397_6.keep K398q
    have c398_7 := c397_7.keep K398q
    have c398_8 := c397_8.keep K398q
    have c398_9 := c397_9.keep K398q (ninS ne_req_b397 nin0)
    have c398_10 := own_sta_keepX c397_12 K398q (allS A397.nostat all0)
    have c398_11 := own_sta_keepX c397_13 K398q (allS A397.nostat all0)
    have c398_12 := own_sta_keepX c397_14 K398q (allS A397.nostat all0)
    have c398_13 := own_sta_keepX c397_15 K398q (allS A397.nostat all0)
    have c398_14 := own_sta_keepX c397_16 K398q (allS A397.nostat all0)
    have c398_15 := c397_17.keep K398q (ninS ne_w_b397 nin0)
    have c398_16 := A397.keep K398q
    have Z398 : n0 ≤ T398.heap.size := Nat.le_trans Z397 K398q.1
    have K398 := Keep.trans K397 K398q (allS (Or.inr sz_b397) all0)
    have CT398 := CHr.trans c397_10 C398
    refine own_goW (U' := T398.setTop (mkF m 249 #[.val (.int p0), .val (.int p1), .val (.long q2), .second, .val (.int (0 : Int32)), .val (.int y19), .val (.int y36), .val (.ref r234), .val (.ref r235), .val (.ref r236), .val (.ref r237), .val (.ref b238), .val (.ref req), .unset, .unset] [(.ref b397)])) (fun _ k => st398.trans k) ?_
    refine own_goW (U' := T398.setTop (mkF m 257 #[.val (.int p0), .val (.int p1), .val (.long q2), .second, .val (.int (0 : Int32)), .val (.int y19), .val (.int y36), .val (.ref r234), .val (.ref r235), .val (.ref r236), .val (.ref r237), .val (.ref b238), .val (.ref req), .val (.ref b397), .unset] [(.int y36), (.ref req), (.ref b397)])) (fun _ k => XS.astore X398.here hx rfl (hb hby at_249) rfl rfl (l' := #[.val (.int p0), .val (.int p1), .val (.long q2), .second, .val (.int (0 : Int32)), .val (.int y19), .val (.int y36), .val (.ref r234), .val (.ref r235), .val (.ref r236), .val (.ref r237), .val (.ref b238), .val (.ref req), .val (.ref b397), .unset]) rfl (XS.aload X398.here hx rfl (hb hby at_251) rfl rfl (XS.aload X398.here hx rfl (hb hby at_253) rfl rfl (XS.iload X398.here hx rfl (hb hby at_255) rfl k)))) ?_
    obtain ⟨cq399, kq399, q399a, q399b, q399c⟩ := isOf hZ rfl xE398
    obtain ⟨_, _, ⟨T399, L399, k399, n399⟩, -, X399, ⟨Lc399, hQ399, l399, y399, z399⟩, st399⟩ := X398.virtualBack hx (y := (⟨"com/example/hashtory/hashtory/Arguments", "positionals", "(Ljava/util/List;I)Ljava/util/List;"⟩ : MethodName)) (z := (⟨"com/example/hashtory/hashtory/Arguments", "positionals", "(Ljava/util/List;I)Ljava/util/List;"⟩ : MethodName)) hown (mvT hZ (hw _ (own_mem 99 rfl))) (mvT hZ (hw _ (own_mem 100 rfl))) (notFace_of_selects (args := #[]) (mvT hZ (hw _ (own_mem 102 rfl)))) (mvT hZ (hw _ (own_mem 102 rfl))) (mvT hZ (hw _ (own_mem 101 rfl))) (by decide) (backOf (W := 0) (rm15 l Z aw hw [] b397 req y36 pl398 (0 : Int32) y19 T398.heap n0 Z398 xP398 xL398 xS398 c398_8 c398_9 (by first | assumption | decide | rfl) (by first | assumption | decide | rfl)) hZ (hw _ (own_mem 103 rfl)) (hw _ (own_mem 61 rfl)) (by decide) (by decide)) q399a q399c (g := (mkF m 257 #[.val (.int p0), .val (.int p1), .val (.long q2), .second, .val (.int (0 : Int32)), .val (.int y19), .val (.int y36), .val (.ref r234), .val (.ref r235), .val (.ref r236), .val (.ref r237), .val (.ref b238), .val (.ref req), .val (.ref b397), .unset] [(.int y36), (.ref req), (.ref b397)])) rfl (by rw [hml]; rfl) (Steps.refl _) (argsL := [(.ref req), (.int y36)]) (rest := []) (lenOf own_pd18 rfl) rfl (by show 2 * 0 + _ ≤ _; exact Nat.le_of_eq rfl) (hb hby at_257) (fun _ _ => ⟨rfl, rfl, (by decide : 27 + 0 ≤ _), (by decide : 173 + 0 ≤ _)⟩)
    dsimp only [Pt.U, Pt.locs, Pt.cells, Pt.slots] at X399 l399 y399 z399 st399 hQ399
    subst l399 y399 z399
    obtain ⟨rfl, N399q, e399⟩ := hQ399
    have N399 := Fr.app N398 N399q
    refine own_goW (U' := T399.setTop (mkF m 260 #[.val (.int p0), .val (.int p1), .val (.long q2), .second, .val (.int (0 : Int32)), .val (.int y19), .val (.int y36), .val (.ref r234), .val (.ref r235), .val (.ref r236), .val (.ref r237), .val (.ref b238), .val (.ref req), .val (.ref b397), .unset] [(.ref pl398)])) (fun _ k => st399.trans k) ?_
    refine own_goW (U' := T399.setTop (mkF m 264 #[.val (.int p0), .val (.int p1), .val (.long q2), .second, .val (.int (0 : Int32)), .val (.int y19), .val (.int y36), .val (.ref r234), .val (.ref r235), .val (.ref r236), .val (.ref r237), .val (.ref b238), .val (.ref req), .val (.ref b397), .val (.ref pl398)] [(.ref pl398)])) (fun _ k => XS.astore X399.here hx rfl (hb hby at_260) rfl rfl (l' := #[.val (.int p0), .val (.int p1), .val (.long q2), .second, .val (.int (0 : Int32)), .val (.int y19), .val (.int y36), .val (.ref r234), .val (.ref r235), .val (.ref r236), .val (.ref r237), .val (.ref b238), .val (.ref req), .val (.ref b397), .val (.ref pl398)]) rfl (XS.aload X399.here hx rfl (hb hby at_262) rfl rfl k)) ?_
    obtain ⟨cq400, kq400, q400a, q400b, q400c⟩ := isOf hZ e399 xL398
    obtain ⟨_, _, ⟨T400, L400, k400, n400⟩, -, X400, ⟨Lc400, hQ400, l400, y400, z400⟩, st400⟩ := X399.interfaceBack hx (xi := (⟨"java/util/List", "size", "()I"⟩ : MethodName)) (y := (⟨"java/util/ArrayList", "size", "()I"⟩ : MethodName)) hown (mvT hZ (hw _ (own_mem 104 rfl))) (mvT hZ (hw _ (own_mem 89 rfl))) (mvT hZ (hw _ (own_mem 90 rfl))) (mvT hZ (hw _ (own_mem 91 rfl))) (mvT hZ (hw _ (own_mem 92 rfl))) (mvT hZ (hw _ (own_mem 93 rfl))) (mvT hZ (hw _ (own_mem 94 rfl))) (mvT hZ (hw _ (own_mem 95 rfl))) (by decide) (backOf (W := 0) (rm14 l Z aw hw [] pl398 (0 : Int32) T398.heap n0 Z398 xS398) hZ (hw _ (own_mem 96 rfl)) (hw _ (own_mem 37 rfl)) (by decide) (by decide)) q400a q400b q400c (g := (mkF m 264 #[.val (.int p0), .val (.int p1), .val (.long q2), .second, .val (.int (0 : Int32)), .val (.int y19), .val (.int y36), .val (.ref r234), .val (.ref r235), .val (.ref r236), .val (.ref r237), .val (.ref b238), .val (.ref req), .val (.ref b397), .val (.ref pl398)] [(.ref pl398)])) rfl (by rw [hml]; rfl) (Steps.refl _) (argsL := []) (rest := []) (lenOf own_pd5 rfl) rfl (by show 2 * 0 + _ ≤ _; exact Nat.le_of_eq rfl) (hb hby at_264) (fun _ _ => ⟨rfl, e399, (by decide : 27 + 0 ≤ _), (by decide : 173 + 0 ≤ _)⟩)
    dsimp only [Pt.U, Pt.locs, Pt.cells, Pt.slots] at X400 l400 y400 z400 st400 hQ400
    subst l400 y400 z400
    obtain ⟨rfl, N400q, e400⟩ := hQ400
    have N400 := Fr.app N399 N400q
    refine own_goW (U' := T400.setTop (mkF m 269 #[.val (.int p0), .val (.int p1), .val (.long q2), .second, .val (.int (0 : Int32)), .val (.int y19), .val (.int y36), .val (.ref r234), .val (.ref r235), .val (.ref r236), .val (.ref r237), .val (.ref b238), .val (.ref req), .val (.ref b397), .val (.ref pl398)] [(.int (0 : Int32))])) (fun _ k => st400.trans k) ?_
    refine own_goW (U' := T400.setTop (mkF m 271 #[.val (.int p0), .val (.int p1), .val (.long q2), .second, .val (.int (0 : Int32)), .val (.int y19), .val (.int y36), .val (.ref r234), .val (.ref r235), .val (.ref r236), .val (.ref r237), .val (.ref b238), .val (.ref req), .val (.ref b397), .val (.ref pl398)] [(.int (0 : Int32)), (.int (0 : Int32))])) (fun _ k => XS.iload X400.here hx rfl (hb hby at_269) rfl k) ?_
    refine own_goW (U' := T400.setTop (mkF m 278 #[.val (.int p0), .val (.int p1), .val (.long q2), .second, .val (.int (0 : Int32)), .val (.int y19), .val (.int y36), .val (.ref r234), .val (.ref r235), .val (.ref r236), .val (.ref r237), .val (.ref b238), .val (.ref req), .val (.ref b397), .val (.ref pl398)] [(.int (0 : Int32))])) (fun _ k => XS.icmpYes X400.here hx rfl (pc0 := 271) (pc' := 276) rfl (hb hby at_271) rfl (teq (by decide : ((0 : Int32) = (0 : Int32)))).1 (by decide) (by decide) (XS.iload X400.here hx rfl (hb hby at_276) rfl k)) ?_
    refine own_goW (U' := T400.setTop (mkF m 305 #[.val (.int p0), .val (.int p1), .val (.long q2), .second, .val (.int (0 : Int32)), .val (.int y19), .val (.int y36), .val (.ref r234), .val (.ref r235), .val (.ref r236), .val (.ref r237), .val (.ref b238), .val (.ref req), .val (.ref b397), .val (.ref pl398)] [(.int (1 : Int32)), (.int (0 : Int32))])) (fun _ k => XS.ifYes X400.here hx rfl (pc0 := 278) (pc' := 302) rfl (hb hby at_278) rfl ((if0 _ _).trans (flt (by decide : ¬ ((0 : Int32) < (0 : Int32)))).2.2.2) (by decide) (by decide) (XS.iload X400.here hx rfl (hb hby at_302) rfl (XS.iconst X400.here hx rfl (hb hby at_304) k))) ?_
    refine own_goW (U' := T400.setTop (mkF m 332 #[.val (.int p0), .val (.int p1), .val (.long q2), .second, .val (.int (0 : Int32)), .val (.int y19), .val (.int y36), .val (.ref r234), .val (.ref r235), .val (.ref r236), .val (.ref r237), .val (.ref b238), .val (.ref req), .val (.ref b397), .val (.ref pl398)] [(.int (2 : Int32)), (.int (0 : Int32))])) (fun _ k => XS.icmpYes X400.here hx rfl (pc0 := 305) (pc' := 329) rfl (hb hby at_305) rfl (flt (by decide : ¬ ((1 : Int32) < (0 : Int32)))).2.2.2 (by decide) (by decide) (XS.iload X400.here hx rfl (hb hby at_329) rfl (XS.iconst X400.here hx rfl (hb hby at_331) k))) ?_
    refine own_goW (U' := T400.setTop (mkF m 359 #[.val (.int p0), .val (.int p1), .val (.long q2), .second, .val (.int (0 : Int32)), .val (.int y19), .val (.int y36), .val (.ref r234), .val (.ref r235), .val (.ref r236), .val (.ref r237), .val (.ref b238), .val (.ref req), .val (.ref b397), .val (.ref pl398)] [(.int (3 : Int32)), (.int (0 : Int32))])) (fun _ k => XS.icmpYes X400.here hx rfl (pc0 := 332) (pc' := 356) rfl (hb hby at_332) rfl (flt (by decide : ¬ ((2 : Int32) < (0 : Int32)))).2.2.2 (by decide) (by decide) (XS.iload X400.here hx rfl (hb hby at_356) rfl (XS.iconst X400.here hx rfl (hb hby at_358) k))) ?_
    refine own_goW (U' := T400.setTop (mkF m 384 #[.val (.int p0), .val (.int p1), .val (.long q2), .second, .val (.int (0 : Int32)), .val (.int y19), .val (.int y36), .val (.ref r234), .val (.ref r235), .val (.ref r236), .val (.ref r237), .val (.ref b238), .val (.ref req), .val (.ref b397), .val (.ref pl398)] [(.int (1 : Int32))])) (fun _ k => XS.icmpYes X400.here hx rfl (pc0 := 359) (pc' := 383) rfl (hb hby at_359) rfl (flt (by decide : ¬ ((3 : Int32) < (0 : Int32)))).2.2.2 (by decide) (by decide) (XS.iconst X400.here hx rfl (hb hby at_383) k)) ?_
    refine own_retW (vm₁ := T398.vm) X400 hS398 (by rw [show T400.heap = T398.heap from e400]; exact (Nat.le_refl _)) (by rw [hh, show T400.heap = T398.heap from e400]; exact CHr.trans CT398 (CHv.at (s := s) (vm0 := T398.vm) X400 hZ (own_EW hw) CT398.1)) (v := (some (.int (1 : Int32)))) hlk (fun h => by rw [Bd.returns] at h; cases h) (by decide) (by decide) (fun fs hr => retN X400 hx (t := .boolean) Bd.returns (by simp) (hb hby at_384) hr) ?_
    show (Q0 Z p0 p1 q2 cs w k0 h0 n0) _ T400.heap _
    rw [e400]
    exact ⟨rfl, N400⟩
   obtain ⟨T401, h401, X401, e401, E401, A401, D401, -, st401⟩ := newO X239 hx hZ hown (hw _ (own_mem 35 rfl)) (hw _ (own_mem 36 rfl)) (hw _ (own_mem 37 rfl)) rfl (g := (mkF m 167 #[.val (.int p0), .val (.int p1), .val (.long q2), .second, .val (.int (0 : Int32)), .val (.int y19), .val (.int y36), .val (.ref r234), .val (.ref r235), .val (.ref r236), .val (.ref r237), .val (.ref b238), .unset, .unset, .unset] [])) rfl (hb hby at_167) (by decide) (by decide)
   obtain ⟨b401, g401⟩ : ∃ z, z = T239.heap.size := ⟨_, rfl⟩
   have g_b401 : n0 ≤ b401 := Nat.le_trans Z239 (Nat.le_of_eq g401.symm)
   have sz_b401 : T237.heap.size ≤ b401 := Nat.le_trans K239.1 (Nat.le_of_eq g401.symm)
   have ne_w_b401 : w ≠ b401 := Nat.ne_of_lt (Nat.lt_of_lt_of_le c239_5.lt (Nat.le_of_eq g401.symm))
   have ne_r234_b401 : r234 ≠ b401 := Nat.ne_of_lt (Nat.lt_of_lt_of_le c239_8.lt (Nat.le_of_eq g401.symm))
   have ne_r235_b401 : r235 ≠ b401 := Nat.ne_of_lt (Nat.lt_of_lt_of_le c239_9.lt (Nat.le_of_eq g401.symm))
   have ne_r236_b401 : r236 ≠ b401 := Nat.ne_of_lt (Nat.lt_of_lt_of_le c239_10.lt (Nat.le_of_eq g401.symm))
   have ne_r237_b401 : r237 ≠ b401 := Nat.ne_of_lt (Nat.lt_of_lt_of_le c239_11.lt (Nat.le_of_eq g401.symm))
   have ne_b238_b401 : b238 ≠ b401 := Nat.ne_of_lt (Nat.lt_of_lt_of_le xE239.lt (Nat.le_of_eq g401.symm))
   rw [← g401] at A401 D401 st401
   have c401_0 := c239_0.ext E401
   have c401_1 := c239_1.ext E401
   have c401_2 := c239_2.ext E401
   have c401_3 := c239_3.ext E401
   have c401_4 := c239_4.ext E401
   have c401_5 := c239_5.ext E401
   have c401_6 := CHr.trans c239_6 (CHr.ext E401 c239_6.1)
   have c401_7 : 0 ≤ h401.size := Nat.le_trans c239_7 E401.1
   have c401_8 := c239_8.ext E401
   have c401_9 := c239_9.ext E401
   have c401_10 := c239_10.ext E401
   have c401_11 := c239_11.ext E401
   have c401_12 := xE239.ext E401
   have c401_13 := xS239.ext E401
   have c401_14 := xD239.ext E401
   have c401_15 := xM239.ext E401
   have Z401 : n0 ≤ h401.size := Nat.le_trans Z239 E401.1
   have K401 := Keep.ext K239 E401
   have F401_55 : Fld Z h401 b401 "java/util/AbstractList" "modCount" "I" (.int (0 : Int32)) := D401 (Or.inl (hw _ (own_mem 55 rfl))) (ty := .int) (by decide)
   have F401_58 : Fld Z h401 b401 "java/util/ArrayList" "elementData" "[Ljava/lang/Object;" .null := D401 (Or.inl (hw _ (own_mem 58 rfl))) (ty := (.array (.object "java/lang/Object"))) (by decide)
   have F401_98 : Fld Z h401 b401 "java/util/ArrayList" "size" "I" (.int (0 : Int32)) := D401 (Or.inl (hw _ (own_mem 98 rfl))) (ty := .int) (by decide)
   refine own_goW (U' := T401.setTop (mkF m 170 #[.val (.int p0), .val (.int p1), .val (.long q2), .second, .val (.int (0 : Int32)), .val (.int y19), .val (.int y36), .val (.ref r234), .val (.ref r235), .val (.ref r236), .val (.ref r237), .val (.ref b238), .unset, .unset, .unset] [(.ref b401)])) (fun _ k => st401 _ k) ?_
   refine own_goW (U' := T401.setTop (mkF m 171 #[.val (.int p0), .val (.int p1), .val (.long q2), .second, .val (.int (0 : Int32)), .val (.int y19), .val (.int y36), .val (.ref r234), .val (.ref r235), .val (.ref r236), .val (.ref r237), .val (.ref b238), .unset, .unset, .unset] [(.ref b401), (.ref b401)])) (fun _ k => XS.dup X401.here hx rfl (hb hby at_170) rfl rfl k) ?_
   obtain ⟨_, _, ⟨T402, L402, k402, n402⟩, -, X402, ⟨Lc402, hQ402, l402, y402, z402⟩, st402⟩ := X401.specialBack hx (y := (⟨"java/util/ArrayList", "<init>", "()V"⟩ : MethodName)) rfl hown (mvT hZ (hw _ (own_mem 38 rfl))) (mvT hZ (hw _ (own_mem 39 rfl))) (mvT hZ (hw _ (own_mem 40 rfl))) (by decide) (backOf (W := 1) (rm8 l Z aw hw [] b401 w h401 n0 Z401 c401_4 A401 F401_98 F401_58 F401_55 (by first | assumption | decide | rfl)) hZ (hw _ (own_mem 40 rfl)) (hw _ (own_mem 37 rfl)) (by decide) (by decide)) (g := (mkF m 171 #[.val (.int p0), .val (.int p1), .val (.long q2), .second, .val (.int (0 : Int32)), .val (.int y19), .val (.int y36), .val (.ref r234), .val (.ref r235), .val (.ref r236), .val (.ref r237), .val (.ref b238), .unset, .unset, .unset] [(.ref b401), (.ref b401)])) rfl (by rw [hml]; rfl) (Steps.refl _) (a := b401) (argsL := []) (rest := [(.ref b401)]) (lenOf own_pd10 rfl) rfl (by show 2 * 0 + _ ≤ _; exact Nat.le_of_eq rfl) (hb hby at_171) (fun _ _ => ⟨rfl, e401, (by decide : 10 + 0 ≤ _), (by decide : 30 + 0 ≤ _)⟩)
   dsimp only [Pt.U, Pt.locs, Pt.cells, Pt.slots] at X402 l402 y402 z402 st402 hQ402
   subst l402 y402 z402
   obtain ⟨rfl, N402q, K402q, xE402, xS402, xD402, xM402⟩ := hQ402
   have N402 := Fr.app N239 N402q
   have c402_0 := own_sta_keepX c401_0 K402q (allS A401.nostat all0)
   have c402_1 := own_sta_keepX c401_1 K402q (allS A401.nostat all0)
   have c402_2 := own_sta_keepX c401_2 K402q (allS A401.nostat all0)
   have c402_3 := own_sta_keepX c401_3 K402q (allS A401.nostat all0)
   have c402_4 := own_sta_keepX c401_4 K402q (allS A401.nostat all0)
   have c402_5 := c401_5.keep K402q (ninS ne_w_b401 nin0)
   have c402_6 := CHr.trans c401_6 (CHr.keep K402q (allS (Safe.exa hZ.alike A401 (by decide) (by decide)) all0) c401_6.1)
   have c402_7 : 0 ≤ T402.heap.size := Nat.le_trans c401_7 K402q.1
   have c402_8 := c401_8.keep K402q
   have c402_9 := c401_9.keep K402q
   have c402_10 := c401_10.keep K402q
   have c402_11 := c401_11.keep K402q
   have c402_12 := c401_12.keep K402q
   have c402_13 := c401_13.keep K402q (ninS ne_b238_b401 nin0)
   have c402_14 := c401_14.keep K402q (ninS ne_b238_b401 nin0)
   have c402_15 := c401_15.keep K402q (ninS ne_b238_b401 nin0)
   have c402_16 := A401.keep K402q
   have Z402 : n0 ≤ T402.heap.size := Nat.le_trans Z401 K402q.1
   have K402 := Keep.trans K401 K402q (allS (Or.inr sz_b401) all0)
   refine own_goW (U' := T402.setTop (mkF m 174 #[.val (.int p0), .val (.int p1), .val (.long q2), .second, .val (.int (0 : Int32)), .val (.int y19), .val (.int y36), .val (.ref r234), .val (.ref r235), .val (.ref r236), .val (.ref r237), .val (.ref b238), .unset, .unset, .unset] [(.ref b401)])) (fun _ k => st402.trans k) ?_
   refine own_goW (U' := T402.setTop (mkF m 178 #[.val (.int p0), .val (.int p1), .val (.long q2), .second, .val (.int (0 : Int32)), .val (.int y19), .val (.int y36), .val (.ref r234), .val (.ref r235), .val (.ref r236), .val (.ref r237), .val (.ref b238), .val (.ref b401), .unset, .unset] [(.int y19)])) (fun _ k => XS.astore X402.here hx rfl (hb hby at_174) rfl rfl (l' := #[.val (.int p0), .val (.int p1), .val (.long q2), .second, .val (.int (0 : Int32)), .val (.int y19), .val (.int y36), .val (.ref r234), .val (.ref r235), .val (.ref r236), .val (.ref r237), .val (.ref b238), .val (.ref b401), .unset, .unset]) rfl (XS.iload X402.here hx rfl (hb hby at_176) rfl k)) ?_
   have hc178_403 : ¬ ((0 : Int32) < y19) := own_nlt hp1 (by decide)
   refine own_goW (U' := T402.setTop (mkF m 194 #[.val (.int p0), .val (.int p1), .val (.long q2), .second, .val (.int (0 : Int32)), .val (.int y19), .val (.int y36), .val (.ref r234), .val (.ref r235), .val (.ref r236), .val (.ref r237), .val (.ref b238), .val (.ref b401), .unset, .unset] [(.int (1 : Int32)), (.int y19)])) (fun _ k => XS.ifYes X402.here hx rfl (pc0 := 178) (pc' := 191) rfl (hb hby at_178) rfl ((if0 _ _).trans (flt hc178_403).2.2.2) (by decide) (by decide) (XS.iload X402.here hx rfl (hb hby at_191) rfl (XS.iconst X402.here hx rfl (hb hby at_193) k))) ?_
   have hc194_404 : ¬ ((1 : Int32) < y19) := own_nlt hc178_403 (by decide)
   refine own_goW (U' := T402.setTop (mkF m 210 #[.val (.int p0), .val (.int p1), .val (.long q2), .second, .val (.int (0 : Int32)), .val (.int y19), .val (.int y36), .val (.ref r234), .val (.ref r235), .val (.ref r236), .val (.ref r237), .val (.ref b238), .val (.ref b401), .unset, .unset] [(.int (2 : Int32)), (.int y19)])) (fun _ k => XS.icmpYes X402.here hx rfl (pc0 := 194) (pc' := 207) rfl (hb hby at_194) rfl (flt hc194_404).2.2.2 (by decide) (by decide) (XS.iload X402.here hx rfl (hb hby at_207) rfl (XS.iconst X402.here hx rfl (hb hby at_209) k))) ?_
   have hc210_405 : ¬ ((2 : Int32) < y19) := own_nlt hc178_403 (by decide)
   refine own_goW (U' := T402.setTop (mkF m 226 #[.val (.int p0), .val (.int p1), .val (.long q2), .second, .val (.int (0 : Int32)), .val (.int y19), .val (.int y36), .val (.ref r234), .val (.ref r235), .val (.ref r236), .val (.ref r237), .val (.ref b238), .val (.ref b401), .unset, .unset] [(.int (3 : Int32)), (.int y19)])) (fun _ k => XS.icmpYes X402.here hx rfl (pc0 := 210) (pc' := 223) rfl (hb hby at_210) rfl (flt hc210_405).2.2.2 (by decide) (by decide) (XS.iload X402.here hx rfl (hb hby at_223) rfl (XS.iconst X402.here hx rfl (hb hby at_225) k))) ?_
   have hc226_406 : ¬ ((3 : Int32) < y19) := own_nlt hc178_403 (by decide)
   refine own_goW (U' := T402.setTop (mkF m 239 #[.val (.int p0), .val (.int p1), .val (.long q2), .second, .val (.int (0 : Int32)), .val (.int y19), .val (.int y36), .val (.ref r234), .val (.ref r235), .val (.ref r236), .val (.ref r237), .val (.ref b238), .val (.ref b401), .unset, .unset] [])) (fun _ k => XS.icmpYes X402.here hx rfl (pc0 := 226) (pc' := 239) rfl (hb hby at_226) rfl (flt hc226_406).2.2.2 (by decide) (by decide) k) ?_
   have hrq : y19 = (0 : Int32) := own_eq0 hr0 hc178_403
   have fq : Fld Z T402.heap b401 "java/util/ArrayList" "size" "I" (.int y19) := by rw [hrq]; exact xS402
   exact tail _ _ _ _ (own_weak X402 (by decide) (by decide)) _ rfl hS0 hZ hown c402_6 c402_7 N402 Z402 K402 _ c402_12 c402_13 c402_14 c402_15 c402_8 c402_9 c402_10 c402_11 xE402 fq

theorem own_len0 {args : Array Value} {s : State} {t : Term} {x : Addr} {cl : Cell} (ht : t.eval args s none [] s = some (.ref x)) (ha : s.arrayAt? x = some cl) (h : (Cond.eq (.length t) (.int (0 : Int32))).value args s none s [] = some true) : cl.slots.size = (0 : Int32).toNatClampNeg := by
  by_cases hl : cl.slots.size < 2 ^ 31
  · have e := len_f ht ha hl
    simp only [Cond.value, e, Term.int_eval] at h
    have h2 := of_decide_eq_true (Option.some.inj h)
    have h3 := len_toInt hl
    rw [h2] at h3
    have h4 : (0 : Int32).toInt = 0 := by decide
    have h5 : (0 : Int32).toNatClampNeg = 0 := by decide
    omega
  · have e : (Term.length t).eval args s none [] s = none := by simp [Term.eval, ht, ha, hl]
    simp [Cond.value, e] at h
theorem own_arv0 {Z : State} {h : Heap} {w : Addr} {cl : Cell} {ty : FieldType} (A : Arr Z h w cl ty) (S : cl.slots.size = (0 : Int32).toNatClampNeg) : Arv Z h w cl.cls ty (0 : Int32) [] .null := by
  have h5 : (0 : Int32).toNatClampNeg = 0 := by decide
  exact ⟨cl, A, rfl, S, by decide, fun k hk => by omega, fun i hi => by omega⟩

set_option maxRecDepth 65536 in
set_option maxHeartbeats 40000000 in
theorem comes_1 {Post : Tables → Env → Array Value → State → Outcome → State → Prop} (hpost : ∀ tb e args s v u, (limb_1_1.after args s (.returned v) u = true ∧ limb_1_2.after args s (.returned v) u = true ∧ True) → ReturnedEndW s (.returned v) u (Jvm.fieldLocs frame_1_writes args s ++ Jvm.arrayLocs frame_1_arrays args s ++ Jvm.staticLocs frame_1_statics s) 56 5376 → Post tb e args s (.returned v) u) :
    ArmFor flags0 classFile x code maxLocals ret World_1 tables_1 room_1 Calls_1 rest_1 Pre_1 Post := by
  intro l hfl _ _ p e ha hc hk s m args below hf hA hF happ hP
  obtain ⟨hcalls, hrest, hpre⟩ := hP
  obtain ⟨-, -, -, hnamed, -, -, -, hat⟩ := (Spec.applies_iff hf).mp happ
  obtain ⟨hg, hn⟩ := and_e (Cond.before_iff.mp (show (Jvm.Cond.and given_1 narrow_1).before args s = true from hpre))
  obtain ⟨hcnt, hg0⟩ := and_e hg
  obtain ⟨hv0, hg1⟩ := and_e hg0
  obtain ⟨hv1, hg2⟩ := and_e hg1
  have hv2 := hg2
  obtain ⟨w0, w1, w2, rfl⟩ : ∃ w0 w1 w2 : Value, args = #[w0, w1, w2] := by
    have hs : args.size = 3 := by simpa [Cond.value, given_1] using hcnt
    obtain ⟨L⟩ := args
    match L, hs with
    | [w0, w1, w2], _ => exact ⟨w0, w1, w2, rfl⟩
  have hw := fun d (hd : d ∈ tables_1) => atoms_spec (ws := Jvm.Cond.code x code maxLocals ret :: tables_1) hat d (List.mem_cons_of_mem _ hd)
  have hfit : Fit s := fun {y c} hc i hi => by
    obtain ⟨ha, rfl⟩ := Array.getElem?_eq_some_iff.mp hc
    have q := List.all_eq_true.mp ((Array.all_eq_true_iff_forall_mem.mp hF) _ (Array.getElem_mem ha)) i (List.mem_range.mpr hi)
    simpa [Array.getElem?_eq_getElem hi] using q
  obtain ⟨hsets, hown0⟩ := atoms_of _ (rest_1_c_eq ▸ (show rest_1_c.before _ s = true from hrest))
  have hr0 := Cond.before_iff.mp hown0
  obtain ⟨i0, ei0⟩ := is_v hv0
  obtain rfl : w0 = (.int i0) := Option.some.inj ei0
  obtain ⟨i1, ei1⟩ := is_v hv1
  obtain rfl : w1 = (.int i1) := Option.some.inj ei1
  obtain ⟨i2, ei2⟩ := isL_v hv2
  obtain rfl : w2 = (.long i2) := Option.some.inj ei2
  obtain ⟨cs, ecs⟩ := is_v (Cond.before_iff.mp (hsets _ (List.mem_of_getElem? (i := 1) rfl)))
  have S_cs := Sta.start ecs (Or.inl (hsets _ (List.mem_of_getElem? (i := 0) rfl)))
  have hcs : ¬ (cs = (0 : Int32)) := fun q => by
    have u := not_v (Cond.before_iff.mp (hsets _ (List.mem_of_getElem? (i := 2) rfl)))
    rw [eq_i ecs (Term.int_eval (0 : Int32)) (by rw [q])] at u
    cases u
  have S_ad := Sta.start (Cond.eq_int (hsets _ (List.mem_of_getElem? (i := 21) rfl)) (Term.int_eval _)) (Or.inl (hsets _ (List.mem_of_getElem? (i := 20) rfl)))
  have S_hi := Sta.start (Cond.eq_int (hsets _ (List.mem_of_getElem? (i := 24) rfl)) (Term.int_eval _)) (Or.inl (hsets _ (List.mem_of_getElem? (i := 23) rfl)))
  have S_lo := Sta.start (Cond.eq_int (hsets _ (List.mem_of_getElem? (i := 27) rfl)) (Term.int_eval _)) (Or.inl (hsets _ (List.mem_of_getElem? (i := 26) rfl)))
  have q15 := Cond.before_iff.mp (hsets _ (List.mem_of_getElem? (i := 15) rfl))
  obtain ⟨w, ew⟩ := arr_v q15
  obtain ⟨cl, Ar⟩ := Arr.start ew q15
  have S_df := Sta.start ew (Or.inr ⟨hw _ (List.mem_of_getElem? (i := 37) rfl), hsets _ (List.mem_of_getElem? (i := 11) rfl)⟩)
  have V_w := own_arv0 Ar (own_len0 ew (Arr.fin (Z := s) (U := s) (Vm.Alike.refl _) Ar) (Cond.before_iff.mp (hsets _ (List.mem_of_getElem? (i := 17) rfl))))
  obtain ⟨k0, hk0⟩ : ∃ k, k = cl.cls := ⟨_, rfl⟩
  rw [← hk0] at V_w
  have CH := CHv.start (own_EW hw) (EL := own_EL) (fun q hq => hcalls.1 q hq) (hsets _ (List.mem_of_getElem? (i := 2) rfl)) (hw _ (List.mem_of_getElem? (i := 23) rfl)) (hw _ (List.mem_of_getElem? (i := 19) rfl))
  obtain ⟨n, o, h1, h2, h3, _, L, rfl, ⟨rfl, N⟩, -, hq⟩ := rm0 l s _ hw tables_1 i0 i1 i2 cs w k0 s.heap s.heap.size (Nat.le_refl _) S_cs S_ad S_hi S_lo S_df V_w hcs p e ha hc hk s m _ below hf ((Spec.applies_iff_loose hf).mp happ).1 ⟨rfl, State.Warmed39.refl s, rfl, CH⟩ trivial
  refine ⟨n, _, h1, h2, h3, hpost _ _ _ _ _ _ ⟨Cond.after_iff.mpr rfl, Cond.after_iff.mpr (eq_i res_at (Term.int_eval (1)) rfl), trivial⟩ ⟨hq.1, hq.2.1, hq.2.2.1, (hq.2.2.2.sift fun y hy => Or.inr (N y hy)).mono (by decide) (by decide)⟩⟩
theorem main_1_1 : Claimed_1_1 := comes_1 fun _ _ _ _ _ _ h hF => ⟨h.1, hF⟩
theorem main_1_2 : Claimed_1_2 := comes_1 fun _ _ _ _ _ _ h hF => ⟨h.2.1, hF⟩
end Jvm.Pilot.@@N@@
namespace Jvm.Pilot.@@N@@
open Jvm Jvm.ClassFile Sem Op Lib Jvm.Free Jvm.Stand Jvm.Pilot.@@N@@.Jvm.D
/-! MADE BY PROGRAM (witnessworld.py) out of the Statement's table words and the real class files: 32 classes; the members and pool entries that the words name. The judged class is class 1, her method 1. -/
namespace start1
open Jvm.ClassFile
def u (s : String) : CpInfo := .utf8 (stringToUtf16 s)
/-- a pool by its gaps: so many unusable entries, then the entry; so many at the end -/
def gap : Nat → List CpInfo → List CpInfo
  | 0, r => r
  | n + 1, r => .unusable :: gap n r
def poolList (es : List (Nat × CpInfo)) (last : Nat) : List CpInfo := es.foldr (fun e r => gap e.1 (e.2 :: r)) (gap last [])
def pool (es : List (Nat × CpInfo)) (last : Nat) : Array CpInfo := ⟨poolList es last⟩
def fileOf (pool : Array CpInfo) (this : Nat) (attrs : Array Attribute := #[]) (ms : Array MethodInfo := #[]) (fl : Nat := 33) (sup : Nat := 0) (ifs : Array Nat := #[]) (fds : Array FieldInfo := #[]) : ClassFile where
  minorVersion := 0
  majorVersion := 65
  constantPool := pool
  accessFlags := fl
  thisClass := this
  superClass := sup
  interfaces := ifs
  fields := fds
  methods := ms
  attributes := attrs
def plain (name : String) (sup : Option ClassId) : Class where
  name := name
  kind := .ordinary
  loader := none
  accessFlags := 33
  super := sup
  interfaces := #[]
  cf := none
  fields := #[]
  methods := #[]
  instanceTypes := #[]
  staticTypes := #[]
  resolved := #[]
  callSites := []
  init := .initialized
  statics := none
  mirror := none

def pool0 : Array CpInfo := pool [(5, u "<init>"), (0, u "()V"), (1, .class_ 10), (1, u "java/lang/Object")] 113

def k0c0 : Code := { maxStack := 0, maxLocals := 1, code := object_method_1_code, exceptionTable := #[], attributes := #[] }
def k0m0 : Method := { name := "<init>", desc := "()V", sig := { parameters := [], returnType := none }, accessFlags := 1, code := some k0c0 }
/-- java/lang/Object -/
def k0 : Class := { plain "java/lang/Object" none with
  accessFlags := 33
  interfaces := #[]
  cf := some (fileOf pool0 8 #[] #[{ accessFlags := 1, nameIndex := 5, descriptorIndex := 6, attributes := #[] }] 33 0 #[] #[])
  fields := #[]
  methods := #[k0m0]
  instanceTypes := #[]
  staticTypes := #[]
  resolved := Array.replicate 124 none
  statics := none }

def pool1 : Array CpInfo := pool [(2, .class_ 4), (0, .nameAndType 5 6), (0, u "java/lang/Object"), (0, u "<init>"), (0, u "()V"), (0, .methodref 8 9), (0, .class_ 10), (0, .nameAndType 11 12), (0, u "java/lang/Math"), (0, u "min"), (0, u "(II)I"), (0, .integer 2147483647), (0, .methodref 8 15), (0, .nameAndType 16 12), (0, u "max"), (0, .long 65535), (1, .methodref 20 21), (0, .class_ 22), (0, .nameAndType 23 24), (0, u "java/lang/String"), (0, u "valueOf"), (0, u "(C)Ljava/lang/String;"), (0, .class_ 26), (0, u "java/util/ArrayList"), (0, .methodref 25 3), (0, .interfaceMethodref 29 30), (0, .class_ 31), (0, .nameAndType 32 33), (0, u "java/util/List"), (0, u "add"), (0, u "(Ljava/lang/Object;)Z"), (0, .string 35), (0, u "a"), (0, .string 37), (0, u "b"), (0, .string 39), (0, u "c"), (0, .string 41), (0, u "d"), (0, .class_ 43), (0, u "com/example/hashtory/hashtory/Arguments"), (0, .methodref 42 45), (0, .nameAndType 5 46), (0, u "(Ljava/util/List;Ljava/util/Set;)V"), (0, .methodref 42 48), (0, .nameAndType 49 50), (0, u "positionals"), (0, u "(Ljava/util/List;I)Ljava/util/List;"), (0, .interfaceMethodref 29 52), (0, .nameAndType 53 54), (0, u "size"), (0, u "()I"), (0, .interfaceMethodref 29 56), (0, .nameAndType 57 58), (0, u "get"), (0, u "(I)Ljava/lang/Object;"), (0, .methodref 20 60), (0, .nameAndType 61 33), (0, u "equals"), (0, .class_ 63), (0, u "com/example/hashtory/hashtory/ArgumentsPositionalsPinLaw"), (2, u "law"), (0, u "(IIJ)Z")] 6

def k1m0 : Method := { name := "<init>", desc := "()V", sig := { parameters := [], returnType := none }, accessFlags := 1, code := none }
def k1c1 : Code := { maxStack := 4, maxLocals := 15, code := code, exceptionTable := #[], attributes := #[] }
def k1m1 : Method := { name := "law", desc := "(IIJ)Z", sig := { parameters := [.int, .int, .long], returnType := some .boolean }, accessFlags := 9, code := some k1c1 }
/-- com/example/hashtory/hashtory/ArgumentsPositionalsPinLaw -/
def k1 : Class := { plain "com/example/hashtory/hashtory/ArgumentsPositionalsPinLaw" (some 0) with
  accessFlags := 49
  interfaces := #[]
  cf := some (fileOf pool1 62 #[] #[{ accessFlags := 1, nameIndex := 5, descriptorIndex := 6, attributes := #[] }, { accessFlags := 9, nameIndex := 66, descriptorIndex := 67, attributes := #[] }] 49 2 #[] #[])
  fields := #[]
  methods := #[k1m0, k1m1]
  instanceTypes := #[]
  staticTypes := #[]
  resolved := Array.replicate 74 none
  statics := none }

def pool2 : Array CpInfo := pool [(1, .class_ 2), (0, u "java/lang/Math"), (1, .class_ 6), (1, u "java/lang/Object"), (0, u "<init>"), (0, u "()V"), (89, .class_ 100), (1, u "java/lang/Math$RandomNumberGeneratorHolder"), (71, u "negativeZeroFloatBits"), (0, u "J"), (2, u "negativeZeroDoubleBits"), (21, u "max"), (2, u "min"), (43, u "$assertionsDisabled"), (0, u "Z"), (88, u "(II)I"), (2, u "twoToTheDoubleScaleDown"), (0, u "D"), (4, u "twoToTheDoubleScaleUp"), (9, u "E"), (3, u "PI"), (2, u "TAU"), (2, u "DEGREES_TO_RADIANS"), (0, u "RADIANS_TO_DEGREES")] 94

def k2m0 : Method := { name := "<init>", desc := "()V", sig := { parameters := [], returnType := none }, accessFlags := 2, code := none }
def k2c1 : Code := { maxStack := 2, maxLocals := 2, code := jdk_29_method_65_code, exceptionTable := #[], attributes := #[] }
def k2m1 : Method := { name := "max", desc := "(II)I", sig := { parameters := [.int, .int], returnType := some .int }, accessFlags := 9, code := some k2c1 }
def k2c2 : Code := { maxStack := 2, maxLocals := 2, code := jdk_29_method_69_code, exceptionTable := #[], attributes := #[] }
def k2m2 : Method := { name := "min", desc := "(II)I", sig := { parameters := [.int, .int], returnType := some .int }, accessFlags := 9, code := some k2c2 }
/-- java/lang/Math -/
def k2 : Class := { plain "java/lang/Math" (some 0) with
  accessFlags := 49
  interfaces := #[]
  cf := some (fileOf pool2 1 #[.nestMembers #[98]] #[{ accessFlags := 2, nameIndex := 7, descriptorIndex := 8, attributes := #[] }, { accessFlags := 9, nameIndex := 198, descriptorIndex := 335, attributes := #[] }, { accessFlags := 9, nameIndex := 201, descriptorIndex := 335, attributes := #[] }] 49 4 #[] #[{ accessFlags := 25, nameIndex := 354, descriptorIndex := 339, attributes := #[] }, { accessFlags := 25, nameIndex := 358, descriptorIndex := 339, attributes := #[] }, { accessFlags := 25, nameIndex := 361, descriptorIndex := 339, attributes := #[] }, { accessFlags := 26, nameIndex := 364, descriptorIndex := 339, attributes := #[] }, { accessFlags := 26, nameIndex := 365, descriptorIndex := 339, attributes := #[] }, { accessFlags := 26, nameIndex := 172, descriptorIndex := 173, attributes := #[] }, { accessFlags := 26, nameIndex := 176, descriptorIndex := 173, attributes := #[] }, { accessFlags := 8, nameIndex := 344, descriptorIndex := 339, attributes := #[] }, { accessFlags := 8, nameIndex := 338, descriptorIndex := 339, attributes := #[] }, { accessFlags := 4120, nameIndex := 245, descriptorIndex := 246, attributes := #[] }])
  fields := #[{ name := "E", type := .double, accessFlags := 25, slot := 0, constantValue := 0 }, { name := "PI", type := .double, accessFlags := 25, slot := 1, constantValue := 0 }, { name := "TAU", type := .double, accessFlags := 25, slot := 2, constantValue := 0 }, { name := "DEGREES_TO_RADIANS", type := .double, accessFlags := 26, slot := 3, constantValue := 0 }, { name := "RADIANS_TO_DEGREES", type := .double, accessFlags := 26, slot := 4, constantValue := 0 }, { name := "negativeZeroFloatBits", type := .long, accessFlags := 26, slot := 5, constantValue := 0 }, { name := "negativeZeroDoubleBits", type := .long, accessFlags := 26, slot := 6, constantValue := 0 }, { name := "twoToTheDoubleScaleUp", type := .double, accessFlags := 8, slot := 7, constantValue := 0 }, { name := "twoToTheDoubleScaleDown", type := .double, accessFlags := 8, slot := 8, constantValue := 0 }, { name := "$assertionsDisabled", type := .boolean, accessFlags := 4120, slot := 9, constantValue := 0 }]
  methods := #[k2m0, k2m1, k2m2]
  instanceTypes := #[]
  staticTypes := #[.double, .double, .double, .double, .double, .long, .long, .double, .double, .boolean]
  resolved := Array.replicate 460 none
  statics := none }

def pool3 : Array CpInfo := pool [(1, .class_ 2), (0, u "java/io/Serializable"), (0, .class_ 4), (0, u "java/lang/Object")] 2

/-- java/io/Serializable -/
def k3 : Class := { plain "java/io/Serializable" (some 0) with
  accessFlags := 1537
  interfaces := #[]
  cf := some (fileOf pool3 1 #[] #[] 1537 3 #[] #[])
  fields := #[]
  methods := #[]
  instanceTypes := #[]
  staticTypes := #[]
  resolved := Array.replicate 7 none
  statics := none }

def pool4 : Array CpInfo := pool [(1, .class_ 2), (0, u "java/lang/Comparable"), (0, .class_ 4), (0, u "java/lang/Object")] 7

/-- java/lang/Comparable -/
def k4 : Class := { plain "java/lang/Comparable" (some 0) with
  accessFlags := 1537
  interfaces := #[]
  cf := some (fileOf pool4 1 #[] #[] 1537 3 #[] #[])
  fields := #[]
  methods := #[]
  instanceTypes := #[]
  staticTypes := #[]
  resolved := Array.replicate 12 none
  statics := none }

def pool5 : Array CpInfo := pool [(2, .class_ 4), (1, u "java/lang/CharSequence"), (42, .class_ 48), (0, u "java/lang/CharSequence$1CodePointIterator"), (10, .class_ 60), (0, u "java/lang/CharSequence$1CharIterator"), (5, .class_ 67), (0, u "java/lang/Object")] 63

/-- java/lang/CharSequence -/
def k5 : Class := { plain "java/lang/CharSequence" (some 0) with
  accessFlags := 1537
  interfaces := #[]
  cf := some (fileOf pool5 2 #[.nestMembers #[47, 59]] #[] 1537 66 #[] #[])
  fields := #[]
  methods := #[]
  instanceTypes := #[]
  staticTypes := #[]
  resolved := Array.replicate 131 none
  statics := none }

def pool6 : Array CpInfo := pool [(1, .class_ 2), (0, u "java/lang/constant/Constable"), (0, .class_ 4), (0, u "java/lang/Object")] 6

/-- java/lang/constant/Constable -/
def k6 : Class := { plain "java/lang/constant/Constable" (some 0) with
  accessFlags := 1537
  interfaces := #[]
  cf := some (fileOf pool6 1 #[] #[] 1537 3 #[] #[])
  fields := #[]
  methods := #[]
  instanceTypes := #[]
  staticTypes := #[]
  resolved := Array.replicate 11 none
  statics := none }

def pool7 : Array CpInfo := pool [(1, .class_ 2), (0, u "java/lang/constant/ConstantDesc"), (0, .class_ 4), (0, u "java/lang/Object")] 32

/-- java/lang/constant/ConstantDesc -/
def k7 : Class := { plain "java/lang/constant/ConstantDesc" (some 0) with
  accessFlags := 1537
  interfaces := #[]
  cf := some (fileOf pool7 1 #[] #[] 1537 3 #[] #[])
  fields := #[]
  methods := #[]
  instanceTypes := #[]
  staticTypes := #[]
  resolved := Array.replicate 37 none
  statics := none }

def pool8 : Array CpInfo := pool [(1, .methodref 2 3), (0, .class_ 4), (0, .nameAndType 5 6), (0, u "java/lang/Object"), (0, u "<init>"), (0, u "()V"), (2, .fieldref 10 11), (0, .class_ 12), (0, .nameAndType 13 14), (0, u "java/lang/String"), (0, u "value"), (0, u "[B"), (0, .fieldref 10 16), (0, .nameAndType 17 18), (0, u "coder"), (0, u "B"), (2, u "hash"), (0, u "I"), (2, u "hashIsZero"), (0, u "Z"), (11, .fieldref 10 39), (0, .nameAndType 40 26), (0, u "COMPACT_STRINGS"), (1, .class_ 44), (1, u "java/lang/StringUTF16"), (8, u "toBytes"), (53, .class_ 109), (1, u "java/lang/StringLatin1"), (99, .methodref 10 210), (0, .nameAndType 5 211), (0, u "([BB)V"), (122, u "()I"), (0, .methodref 10 336), (0, .nameAndType 17 337), (0, u "()B"), (31, u "(C)Z"), (135, .methodref 10 506), (0, .nameAndType 507 334), (0, u "length"), (35, u "equals"), (29, u "(Ljava/lang/Object;)Z"), (1, .class_ 576), (0, u "java/lang/CharSequence"), (22, u "CASE_INSENSITIVE_ORDER"), (0, u "Ljava/util/Comparator;"), (23, .methodref 10 625), (0, .nameAndType 626 627), (0, u "startsWith"), (0, u "(Ljava/lang/String;I)Z"), (154, u "valueOf"), (0, u "(C)Ljava/lang/String;"), (231, .methodref 107 1016), (0, .nameAndType 1017 369), (0, u "canEncode"), (0, .methodref 107 1019), (0, .nameAndType 53 1020), (0, u "(C)[B"), (0, .methodref 42 1019), (79, u "serialPersistentFields"), (0, u "[Ljava/io/ObjectStreamField;"), (0, .class_ 1104), (0, u "java/lang/String$CaseInsensitiveComparator"), (1, .class_ 1107), (0, u "java/io/Serializable"), (0, .class_ 1109), (0, u "java/lang/Comparable"), (0, .class_ 1111), (0, u "java/lang/constant/Constable"), (0, .class_ 1113), (0, u "java/lang/constant/ConstantDesc"), (2, u "serialVersionUID"), (0, u "J"), (3, u "REPL"), (0, u "C"), (2, u "LATIN1"), (1, u "UTF16"), (129, u "(Ljava/lang/String;)Z")] 193

def k8m0 : Method := { name := "<init>", desc := "()V", sig := { parameters := [], returnType := none }, accessFlags := 1, code := none }
def k8c1 : Code := { maxStack := 2, maxLocals := 1, code := jdk_42_method_54_code, exceptionTable := #[], attributes := #[] }
def k8m1 : Method := { name := "length", desc := "()I", sig := { parameters := [], returnType := some .int }, accessFlags := 1, code := some k8c1 }
def k8c2 : Code := { maxStack := 2, maxLocals := 3, code := jdk_42_method_66_code, exceptionTable := #[], attributes := #[] }
def k8m2 : Method := { name := "equals", desc := "(Ljava/lang/Object;)Z", sig := { parameters := [(.object "java/lang/Object")], returnType := some .boolean }, accessFlags := 1, code := some k8c2 }
def k8c3 : Code := { maxStack := 5, maxLocals := 8, code := jdk_42_method_75_code, exceptionTable := #[], attributes := #[] }
def k8m3 : Method := { name := "startsWith", desc := "(Ljava/lang/String;I)Z", sig := { parameters := [(.object "java/lang/String"), .int], returnType := some .boolean }, accessFlags := 1, code := some k8c3 }
def k8c4 : Code := { maxStack := 3, maxLocals := 2, code := jdk_42_method_76_code, exceptionTable := #[], attributes := #[] }
def k8m4 : Method := { name := "startsWith", desc := "(Ljava/lang/String;)Z", sig := { parameters := [(.object "java/lang/String")], returnType := some .boolean }, accessFlags := 1, code := some k8c4 }
def k8c5 : Code := { maxStack := 4, maxLocals := 1, code := jdk_42_method_139_code, exceptionTable := #[], attributes := #[] }
def k8m5 : Method := { name := "valueOf", desc := "(C)Ljava/lang/String;", sig := { parameters := [.char], returnType := some (.object "java/lang/String") }, accessFlags := 9, code := some k8c5 }
def k8c6 : Code := { maxStack := 2, maxLocals := 3, code := jdk_42_method_151_code, exceptionTable := #[], attributes := #[] }
def k8m6 : Method := { name := "<init>", desc := "([BB)V", sig := { parameters := [(.array .byte), .byte], returnType := none }, accessFlags := 0, code := some k8c6 }
def k8c7 : Code := { maxStack := 1, maxLocals := 1, code := jdk_42_method_152_code, exceptionTable := #[], attributes := #[] }
def k8m7 : Method := { name := "coder", desc := "()B", sig := { parameters := [], returnType := some .byte }, accessFlags := 0, code := some k8c7 }
/-- java/lang/String -/
def k8 : Class := { plain "java/lang/String" (some 0) with
  accessFlags := 49
  interfaces := #[3, 4, 5, 6, 7]
  cf := some (fileOf pool8 10 #[.nestMembers #[1103]] #[{ accessFlags := 1, nameIndex := 5, descriptorIndex := 6, attributes := #[] }, { accessFlags := 1, nameIndex := 507, descriptorIndex := 334, attributes := #[] }, { accessFlags := 1, nameIndex := 543, descriptorIndex := 573, attributes := #[] }, { accessFlags := 1, nameIndex := 626, descriptorIndex := 627, attributes := #[] }, { accessFlags := 1, nameIndex := 626, descriptorIndex := 1257, attributes := #[] }, { accessFlags := 9, nameIndex := 782, descriptorIndex := 783, attributes := #[] }, { accessFlags := 0, nameIndex := 5, descriptorIndex := 211, attributes := #[] }, { accessFlags := 0, nameIndex := 17, descriptorIndex := 337, attributes := #[] }] 49 2 #[1106, 1108, 575, 1110, 1112] #[{ accessFlags := 18, nameIndex := 13, descriptorIndex := 14, attributes := #[] }, { accessFlags := 18, nameIndex := 17, descriptorIndex := 18, attributes := #[] }, { accessFlags := 2, nameIndex := 21, descriptorIndex := 22, attributes := #[] }, { accessFlags := 2, nameIndex := 25, descriptorIndex := 26, attributes := #[] }, { accessFlags := 26, nameIndex := 1116, descriptorIndex := 1117, attributes := #[] }, { accessFlags := 24, nameIndex := 40, descriptorIndex := 26, attributes := #[] }, { accessFlags := 26, nameIndex := 1101, descriptorIndex := 1102, attributes := #[] }, { accessFlags := 26, nameIndex := 1121, descriptorIndex := 1122, attributes := #[] }, { accessFlags := 25, nameIndex := 599, descriptorIndex := 600, attributes := #[] }, { accessFlags := 24, nameIndex := 1125, descriptorIndex := 18, attributes := #[] }, { accessFlags := 24, nameIndex := 1127, descriptorIndex := 18, attributes := #[] }])
  fields := #[{ name := "value", type := (.array .byte), accessFlags := 18, slot := 0, constantValue := 0 }, { name := "coder", type := .byte, accessFlags := 18, slot := 1, constantValue := 0 }, { name := "hash", type := .int, accessFlags := 2, slot := 2, constantValue := 0 }, { name := "hashIsZero", type := .boolean, accessFlags := 2, slot := 3, constantValue := 0 }, { name := "serialVersionUID", type := .long, accessFlags := 26, slot := 0, constantValue := 0 }, { name := "COMPACT_STRINGS", type := .boolean, accessFlags := 24, slot := 1, constantValue := 0 }, { name := "serialPersistentFields", type := (.array (.object "java/io/ObjectStreamField")), accessFlags := 26, slot := 2, constantValue := 0 }, { name := "REPL", type := .char, accessFlags := 26, slot := 3, constantValue := 0 }, { name := "CASE_INSENSITIVE_ORDER", type := (.object "java/util/Comparator"), accessFlags := 25, slot := 4, constantValue := 0 }, { name := "LATIN1", type := .byte, accessFlags := 24, slot := 5, constantValue := 0 }, { name := "UTF16", type := .byte, accessFlags := 24, slot := 6, constantValue := 0 }]
  methods := #[k8m0, k8m1, k8m2, k8m3, k8m4, k8m5, k8m6, k8m7]
  instanceTypes := #[(.array .byte), .byte, .int, .boolean]
  staticTypes := #[.long, .boolean, (.array (.object "java/io/ObjectStreamField")), .char, (.object "java/util/Comparator"), .byte, .byte]
  resolved := Array.replicate 1451 none
  statics := some 0 }

def pool9 : Array CpInfo := pool [(4, .class_ 6), (1, u "java/lang/Object"), (0, u "<init>"), (0, u "()V"), (5, .class_ 16), (1, u "java/lang/StringLatin1"), (73, u "canEncode"), (14, u "(C)Z"), (15, u "$assertionsDisabled"), (0, u "Z"), (98, .class_ 223), (1, u "java/lang/StringLatin1$LinesSpliterator"), (156, u "toBytes"), (1, u "(C)[B"), (7, .class_ 391), (0, u "java/lang/StringLatin1$CharsSpliterator")] 3

def k9m0 : Method := { name := "<init>", desc := "()V", sig := { parameters := [], returnType := none }, accessFlags := 0, code := none }
def k9c1 : Code := { maxStack := 2, maxLocals := 1, code := jdk_43_method_3_code, exceptionTable := #[], attributes := #[] }
def k9m1 : Method := { name := "canEncode", desc := "(C)Z", sig := { parameters := [.char], returnType := some .boolean }, accessFlags := 9, code := some k9c1 }
def k9c2 : Code := { maxStack := 4, maxLocals := 1, code := jdk_43_method_46_code, exceptionTable := #[], attributes := #[] }
def k9m2 : Method := { name := "toBytes", desc := "(C)[B", sig := { parameters := [.char], returnType := some (.array .byte) }, accessFlags := 9, code := some k9c2 }
/-- java/lang/StringLatin1 -/
def k9 : Class := { plain "java/lang/StringLatin1" (some 0) with
  accessFlags := 48
  interfaces := #[]
  cf := some (fileOf pool9 14 #[.nestMembers #[390, 221]] #[{ accessFlags := 0, nameIndex := 7, descriptorIndex := 8, attributes := #[] }, { accessFlags := 9, nameIndex := 90, descriptorIndex := 105, attributes := #[] }, { accessFlags := 9, nameIndex := 380, descriptorIndex := 382, attributes := #[] }] 48 4 #[] #[{ accessFlags := 4120, nameIndex := 121, descriptorIndex := 122, attributes := #[] }])
  fields := #[{ name := "$assertionsDisabled", type := .boolean, accessFlags := 4120, slot := 0, constantValue := 0 }]
  methods := #[k9m0, k9m1, k9m2]
  instanceTypes := #[]
  staticTypes := #[.boolean]
  resolved := Array.replicate 395 none
  statics := none }

def pool10 : Array CpInfo := pool [(8, .class_ 10), (1, u "java/lang/Iterable"), (24, .class_ 36), (0, u "java/lang/Object")] 25

/-- java/lang/Iterable -/
def k10 : Class := { plain "java/lang/Iterable" (some 0) with
  accessFlags := 1537
  interfaces := #[]
  cf := some (fileOf pool10 8 #[] #[] 1537 35 #[] #[])
  fields := #[]
  methods := #[]
  instanceTypes := #[]
  staticTypes := #[]
  resolved := Array.replicate 62 none
  statics := none }

def pool11 : Array CpInfo := pool [(10, .class_ 12), (1, u "java/util/Collection"), (47, .class_ 61), (0, u "java/lang/Object"), (0, .class_ 63), (0, u "java/lang/Iterable")] 51

/-- java/util/Collection -/
def k11 : Class := { plain "java/util/Collection" (some 0) with
  accessFlags := 1537
  interfaces := #[10]
  cf := some (fileOf pool11 10 #[] #[] 1537 60 #[62] #[])
  fields := #[]
  methods := #[]
  instanceTypes := #[]
  staticTypes := #[]
  resolved := Array.replicate 115 none
  statics := none }

def pool12 : Array CpInfo := pool [(1, .methodref 2 3), (0, .class_ 4), (0, .nameAndType 5 6), (0, u "java/lang/Object"), (0, u "<init>"), (0, u "()V"), (1, .class_ 10), (1, u "java/util/AbstractCollection"), (66, .class_ 78), (0, u "java/util/Collection")] 81

def k12c0 : Code := { maxStack := 1, maxLocals := 1, code := jdk_22_method_1_code, exceptionTable := #[], attributes := #[] }
def k12m0 : Method := { name := "<init>", desc := "()V", sig := { parameters := [], returnType := none }, accessFlags := 4, code := some k12c0 }
/-- java/util/AbstractCollection -/
def k12 : Class := { plain "java/util/AbstractCollection" (some 0) with
  accessFlags := 1057
  interfaces := #[11]
  cf := some (fileOf pool12 8 #[] #[{ accessFlags := 4, nameIndex := 5, descriptorIndex := 6, attributes := #[] }] 1057 2 #[77] #[])
  fields := #[]
  methods := #[k12m0]
  instanceTypes := #[]
  staticTypes := #[]
  resolved := Array.replicate 160 none
  statics := none }

def pool13 : Array CpInfo := pool [(8, .class_ 10), (1, u "java/util/SequencedCollection"), (15, .class_ 27), (0, u "java/lang/Object"), (0, .class_ 29), (0, u "java/util/Collection")] 27

/-- java/util/SequencedCollection -/
def k13 : Class := { plain "java/util/SequencedCollection" (some 0) with
  accessFlags := 1537
  interfaces := #[11]
  cf := some (fileOf pool13 8 #[] #[] 1537 26 #[28] #[])
  fields := #[]
  methods := #[]
  instanceTypes := #[]
  staticTypes := #[]
  resolved := Array.replicate 57 none
  statics := none }

def pool14 : Array CpInfo := pool [(8, .class_ 10), (1, u "java/util/List"), (49, u "add"), (3, u "(Ljava/lang/Object;)Z"), (10, u "get"), (0, u "(I)Ljava/lang/Object;"), (2, u "size"), (0, u "()I"), (22, .class_ 104), (0, u "java/lang/Object"), (15, .class_ 121), (0, u "java/util/SequencedCollection")] 129

def k14m0 : Method := { name := "size", desc := "()I", sig := { parameters := [], returnType := some .int }, accessFlags := 1025, code := none }
def k14m1 : Method := { name := "add", desc := "(Ljava/lang/Object;)Z", sig := { parameters := [(.object "java/lang/Object")], returnType := some .boolean }, accessFlags := 1025, code := none }
def k14m2 : Method := { name := "get", desc := "(I)Ljava/lang/Object;", sig := { parameters := [.int], returnType := some (.object "java/lang/Object") }, accessFlags := 1025, code := none }
/-- java/util/List -/
def k14 : Class := { plain "java/util/List" (some 0) with
  accessFlags := 1537
  interfaces := #[13]
  cf := some (fileOf pool14 8 #[] #[{ accessFlags := 1025, nameIndex := 79, descriptorIndex := 80, attributes := #[] }, { accessFlags := 1025, nameIndex := 60, descriptorIndex := 64, attributes := #[] }, { accessFlags := 1025, nameIndex := 75, descriptorIndex := 76, attributes := #[] }] 1537 103 #[120] #[])
  fields := #[]
  methods := #[k14m0, k14m1, k14m2]
  instanceTypes := #[]
  staticTypes := #[]
  resolved := Array.replicate 251 none
  statics := none }

def pool15 : Array CpInfo := pool [(1, .methodref 2 3), (0, .class_ 4), (0, .nameAndType 5 6), (0, u "java/util/AbstractCollection"), (0, u "<init>"), (0, u "()V"), (0, .fieldref 8 9), (0, .class_ 10), (0, .nameAndType 11 12), (0, u "java/util/AbstractList"), (0, u "modCount"), (0, u "I"), (64, .class_ 78), (0, u "java/util/AbstractList$Itr"), (3, .class_ 83), (0, u "java/util/AbstractList$ListItr"), (9, .class_ 94), (0, u "java/util/AbstractList$RandomAccessSubList"), (3, .class_ 99), (0, u "java/util/AbstractList$SubList"), (33, .class_ 134), (0, u "java/util/List"), (73, .class_ 209), (0, u "java/util/AbstractList$SubList$1"), (0, .class_ 211), (0, u "java/util/AbstractList$RandomAccessSpliterator")] 6

def k15c0 : Code := { maxStack := 2, maxLocals := 1, code := jdk_39_method_1_code, exceptionTable := #[], attributes := #[] }
def k15m0 : Method := { name := "<init>", desc := "()V", sig := { parameters := [], returnType := none }, accessFlags := 4, code := some k15c0 }
/-- java/util/AbstractList -/
def k15 : Class := { plain "java/util/AbstractList" (some 12) with
  accessFlags := 1057
  interfaces := #[14]
  cf := some (fileOf pool15 8 #[.nestMembers #[93, 98, 208, 210, 82, 77]] #[{ accessFlags := 4, nameIndex := 5, descriptorIndex := 6, attributes := #[] }] 1057 2 #[133] #[{ accessFlags := 132, nameIndex := 11, descriptorIndex := 12, attributes := #[] }])
  fields := #[{ name := "modCount", type := .int, accessFlags := 132, slot := 0, constantValue := 0 }]
  methods := #[k15m0]
  instanceTypes := #[.int]
  staticTypes := #[]
  resolved := Array.replicate 218 none
  statics := none }

def pool16 : Array CpInfo := pool [(1, .class_ 2), (0, u "java/util/RandomAccess"), (0, .class_ 4), (0, u "java/lang/Object")] 2

/-- java/util/RandomAccess -/
def k16 : Class := { plain "java/util/RandomAccess" (some 0) with
  accessFlags := 1537
  interfaces := #[]
  cf := some (fileOf pool16 1 #[] #[] 1537 3 #[] #[])
  fields := #[]
  methods := #[]
  instanceTypes := #[]
  staticTypes := #[]
  resolved := Array.replicate 7 none
  statics := none }

def pool17 : Array CpInfo := pool [(1, .class_ 2), (0, u "java/lang/Cloneable"), (0, .class_ 4), (0, u "java/lang/Object")] 2

/-- java/lang/Cloneable -/
def k17 : Class := { plain "java/lang/Cloneable" (some 0) with
  accessFlags := 1537
  interfaces := #[]
  cf := some (fileOf pool17 1 #[] #[] 1537 3 #[] #[])
  fields := #[]
  methods := #[]
  instanceTypes := #[]
  staticTypes := #[]
  resolved := Array.replicate 7 none
  statics := none }

def pool18 : Array CpInfo := pool [(1, .methodref 2 3), (0, .class_ 4), (0, .nameAndType 5 6), (0, u "java/util/AbstractList"), (0, u "<init>"), (0, u "()V"), (0, .class_ 8), (0, u "java/lang/Object"), (0, .fieldref 10 11), (0, .class_ 12), (0, .nameAndType 13 14), (0, u "java/util/ArrayList"), (0, u "elementData"), (0, u "[Ljava/lang/Object;"), (2, u "EMPTY_ELEMENTDATA"), (21, .fieldref 10 40), (0, .nameAndType 41 14), (0, u "DEFAULTCAPACITY_EMPTY_ELEMENTDATA"), (5, u "()[Ljava/lang/Object;"), (0, .fieldref 10 49), (0, .nameAndType 50 51), (0, u "size"), (0, u "I"), (11, .fieldref 10 64), (0, .nameAndType 65 51), (0, u "modCount"), (3, .methodref 10 70), (0, .nameAndType 71 72), (0, u "grow"), (0, u "(I)[Ljava/lang/Object;"), (6, .methodref 80 81), (0, .class_ 82), (0, .nameAndType 83 84), (0, u "java/lang/Math"), (0, u "max"), (0, u "(II)I"), (11, u "(Ljava/lang/Object;)Z"), (21, .methodref 119 120), (0, .class_ 121), (0, .nameAndType 122 84), (0, u "java/util/Objects"), (0, u "checkIndex"), (0, .methodref 10 124), (0, .nameAndType 13 125), (0, u "(I)Ljava/lang/Object;"), (3, .methodref 10 130), (0, .nameAndType 71 47), (0, .methodref 10 132), (0, .nameAndType 133 134), (0, u "add"), (0, u "(Ljava/lang/Object;[Ljava/lang/Object;I)V"), (13, .class_ 149), (0, u "java/util/List"), (36, u "()I"), (75, .class_ 263), (0, u "java/util/ArrayList$ListItr"), (3, .class_ 268), (0, u "java/util/ArrayList$Itr"), (7, .class_ 277), (0, u "java/util/ArrayList$SubList"), (12, .class_ 291), (0, u "java/util/ArrayList$ArrayListSpliterator"), (37, .class_ 330), (0, u "java/util/RandomAccess"), (0, .class_ 332), (0, u "java/lang/Cloneable"), (0, .class_ 334), (0, u "java/io/Serializable"), (0, u "serialVersionUID"), (0, u "J"), (3, u "DEFAULT_CAPACITY"), (40, u "get"), (118, .class_ 501), (0, u "java/util/ArrayList$SubList$2"), (0, .class_ 503), (0, u "java/util/ArrayList$SubList$1")] 5

def k18c0 : Code := { maxStack := 2, maxLocals := 1, code := jdk_38_method_2_code, exceptionTable := #[], attributes := #[] }
def k18m0 : Method := { name := "<init>", desc := "()V", sig := { parameters := [], returnType := none }, accessFlags := 1, code := some k18c0 }
def k18c1 : Code := { maxStack := 4, maxLocals := 4, code := jdk_38_method_6_code, exceptionTable := #[], attributes := #[] }
def k18m1 : Method := { name := "grow", desc := "(I)[Ljava/lang/Object;", sig := { parameters := [.int], returnType := some (.array (.object "java/lang/Object")) }, accessFlags := 2, code := some k18c1 }
def k18c2 : Code := { maxStack := 3, maxLocals := 1, code := jdk_38_method_7_code, exceptionTable := #[], attributes := #[] }
def k18m2 : Method := { name := "grow", desc := "()[Ljava/lang/Object;", sig := { parameters := [], returnType := some (.array (.object "java/lang/Object")) }, accessFlags := 2, code := some k18c2 }
def k18c3 : Code := { maxStack := 1, maxLocals := 1, code := jdk_38_method_8_code, exceptionTable := #[], attributes := #[] }
def k18m3 : Method := { name := "size", desc := "()I", sig := { parameters := [], returnType := some .int }, accessFlags := 1, code := some k18c3 }
def k18c4 : Code := { maxStack := 2, maxLocals := 2, code := jdk_38_method_18_code, exceptionTable := #[], attributes := #[] }
def k18m4 : Method := { name := "elementData", desc := "(I)Ljava/lang/Object;", sig := { parameters := [.int], returnType := some (.object "java/lang/Object") }, accessFlags := 0, code := some k18c4 }
def k18c5 : Code := { maxStack := 2, maxLocals := 2, code := jdk_38_method_20_code, exceptionTable := #[], attributes := #[] }
def k18m5 : Method := { name := "get", desc := "(I)Ljava/lang/Object;", sig := { parameters := [.int], returnType := some (.object "java/lang/Object") }, accessFlags := 1, code := some k18c5 }
def k18c6 : Code := { maxStack := 3, maxLocals := 4, code := jdk_38_method_24_code, exceptionTable := #[], attributes := #[] }
def k18m6 : Method := { name := "add", desc := "(Ljava/lang/Object;[Ljava/lang/Object;I)V", sig := { parameters := [(.object "java/lang/Object"), (.array (.object "java/lang/Object")), .int], returnType := none }, accessFlags := 2, code := some k18c6 }
def k18c7 : Code := { maxStack := 4, maxLocals := 2, code := jdk_38_method_25_code, exceptionTable := #[], attributes := #[] }
def k18m7 : Method := { name := "add", desc := "(Ljava/lang/Object;)Z", sig := { parameters := [(.object "java/lang/Object")], returnType := some .boolean }, accessFlags := 1, code := some k18c7 }
/-- java/util/ArrayList -/
def k18 : Class := { plain "java/util/ArrayList" (some 15) with
  accessFlags := 33
  interfaces := #[14, 16, 17, 3]
  cf := some (fileOf pool18 10 #[.nestMembers #[290, 276, 500, 502, 262, 267]] #[{ accessFlags := 1, nameIndex := 5, descriptorIndex := 6, attributes := #[] }, { accessFlags := 2, nameIndex := 71, descriptorIndex := 72, attributes := #[] }, { accessFlags := 2, nameIndex := 71, descriptorIndex := 47, attributes := #[] }, { accessFlags := 1, nameIndex := 50, descriptorIndex := 186, attributes := #[] }, { accessFlags := 0, nameIndex := 13, descriptorIndex := 125, attributes := #[] }, { accessFlags := 1, nameIndex := 381, descriptorIndex := 125, attributes := #[] }, { accessFlags := 2, nameIndex := 133, descriptorIndex := 134, attributes := #[] }, { accessFlags := 1, nameIndex := 133, descriptorIndex := 96, attributes := #[] }] 33 2 #[148, 329, 331, 333] #[{ accessFlags := 26, nameIndex := 335, descriptorIndex := 336, attributes := #[] }, { accessFlags := 26, nameIndex := 340, descriptorIndex := 51, attributes := #[] }, { accessFlags := 26, nameIndex := 17, descriptorIndex := 14, attributes := #[] }, { accessFlags := 26, nameIndex := 41, descriptorIndex := 14, attributes := #[] }, { accessFlags := 128, nameIndex := 13, descriptorIndex := 14, attributes := #[] }, { accessFlags := 2, nameIndex := 50, descriptorIndex := 51, attributes := #[] }])
  fields := #[{ name := "serialVersionUID", type := .long, accessFlags := 26, slot := 0, constantValue := 0 }, { name := "DEFAULT_CAPACITY", type := .int, accessFlags := 26, slot := 1, constantValue := 0 }, { name := "EMPTY_ELEMENTDATA", type := (.array (.object "java/lang/Object")), accessFlags := 26, slot := 2, constantValue := 0 }, { name := "DEFAULTCAPACITY_EMPTY_ELEMENTDATA", type := (.array (.object "java/lang/Object")), accessFlags := 26, slot := 3, constantValue := 0 }, { name := "elementData", type := (.array (.object "java/lang/Object")), accessFlags := 128, slot := 1, constantValue := 0 }, { name := "size", type := .int, accessFlags := 2, slot := 2, constantValue := 0 }]
  methods := #[k18m0, k18m1, k18m2, k18m3, k18m4, k18m5, k18m6, k18m7]
  instanceTypes := #[.int, (.array (.object "java/lang/Object")), .int]
  staticTypes := #[.long, .int, (.array (.object "java/lang/Object")), (.array (.object "java/lang/Object"))]
  resolved := Array.replicate 509 none
  statics := some 1 }

def pool19 : Array CpInfo := pool [(1, .methodref 2 3), (0, .class_ 4), (0, .nameAndType 5 6), (0, u "java/lang/Object"), (0, u "<init>"), (0, u "()V"), (0, .class_ 8), (0, u "java/util/ArrayList"), (0, .methodref 7 3), (0, .fieldref 11 12), (0, .class_ 13), (0, .nameAndType 14 15), (0, u "com/example/hashtory/hashtory/Arguments"), (0, u "positionals"), (0, u "Ljava/util/List;"), (0, .class_ 17), (0, u "java/util/HashMap"), (0, .methodref 16 3), (0, .fieldref 11 20), (0, .nameAndType 21 22), (0, u "options"), (0, u "Ljava/util/Map;"), (0, .interfaceMethodref 24 25), (0, .class_ 26), (0, .nameAndType 27 28), (0, u "java/util/List"), (0, u "size"), (0, u "()I"), (0, .interfaceMethodref 24 30), (0, .nameAndType 31 32), (0, u "get"), (0, u "(I)Ljava/lang/Object;"), (0, .class_ 34), (0, u "java/lang/String"), (0, .string 36), (0, u "--"), (0, .methodref 33 38), (0, .nameAndType 39 40), (0, u "startsWith"), (0, u "(Ljava/lang/String;)Z"), (0, .interfaceMethodref 24 42), (0, .nameAndType 43 44), (0, u "add"), (0, u "(Ljava/lang/Object;)Z"), (31, u "(Ljava/util/List;Ljava/util/Set;)V"), (7, u "(Ljava/util/List;I)Ljava/util/List;")] 28

def k19c0 : Code := { maxStack := 4, maxLocals := 5, code := prog_1_method_1_code, exceptionTable := #[], attributes := #[] }
def k19m0 : Method := { name := "<init>", desc := "(Ljava/util/List;Ljava/util/Set;)V", sig := { parameters := [(.object "java/util/List"), (.object "java/util/Set")], returnType := none }, accessFlags := 0, code := some k19c0 }
def k19c1 : Code := { maxStack := 5, maxLocals := 3, code := prog_1_method_4_code, exceptionTable := #[], attributes := #[] }
def k19m1 : Method := { name := "positionals", desc := "(Ljava/util/List;I)Ljava/util/List;", sig := { parameters := [(.object "java/util/List"), .int], returnType := some (.object "java/util/List") }, accessFlags := 0, code := some k19c1 }
/-- com/example/hashtory/hashtory/Arguments -/
def k19 : Class := { plain "com/example/hashtory/hashtory/Arguments" (some 0) with
  accessFlags := 48
  interfaces := #[]
  cf := some (fileOf pool19 11 #[] #[{ accessFlags := 0, nameIndex := 5, descriptorIndex := 76, attributes := #[] }, { accessFlags := 0, nameIndex := 14, descriptorIndex := 84, attributes := #[] }] 48 2 #[] #[{ accessFlags := 18, nameIndex := 14, descriptorIndex := 15, attributes := #[] }, { accessFlags := 18, nameIndex := 21, descriptorIndex := 22, attributes := #[] }])
  fields := #[{ name := "positionals", type := (.object "java/util/List"), accessFlags := 18, slot := 0, constantValue := 0 }, { name := "options", type := (.object "java/util/Map"), accessFlags := 18, slot := 1, constantValue := 0 }]
  methods := #[k19m0, k19m1]
  instanceTypes := #[(.object "java/util/List"), (.object "java/util/Map")]
  staticTypes := #[]
  resolved := Array.replicate 113 none
  statics := none }

def pool20 : Array CpInfo := pool [(2, .class_ 4), (1, u "java/util/Map"), (31, .class_ 37), (0, u "java/util/Map$Entry"), (55, .class_ 94), (0, u "java/lang/Object")] 168

/-- java/util/Map -/
def k20 : Class := { plain "java/util/Map" (some 0) with
  accessFlags := 1537
  interfaces := #[]
  cf := some (fileOf pool20 2 #[.nestMembers #[36]] #[] 1537 93 #[] #[])
  fields := #[]
  methods := #[]
  instanceTypes := #[]
  staticTypes := #[]
  resolved := Array.replicate 263 none
  statics := none }

def pool21 : Array CpInfo := pool [(1, .methodref 2 3), (0, .class_ 4), (0, .nameAndType 5 6), (0, u "java/lang/Object"), (0, u "<init>"), (0, u "()V"), (1, .class_ 10), (1, u "java/util/AbstractMap"), (42, .class_ 54), (0, u "java/util/Map"), (9, u "keySet"), (0, u "Ljava/util/Set;"), (0, .class_ 67), (0, u "java/util/AbstractMap$1"), (5, u "values"), (0, u "Ljava/util/Collection;"), (0, .class_ 76), (0, u "java/util/AbstractMap$2"), (104, .class_ 182), (0, u "java/util/AbstractMap$ViewCollection"), (0, .class_ 184), (0, u "java/util/AbstractMap$SimpleImmutableEntry"), (0, .class_ 186), (0, u "java/util/AbstractMap$SimpleEntry"), (0, .class_ 188), (0, u "java/util/AbstractMap$2$1"), (0, .class_ 190), (0, u "java/util/AbstractMap$1$1")] 5

def k21c0 : Code := { maxStack := 1, maxLocals := 1, code := jdk_71_method_1_code, exceptionTable := #[], attributes := #[] }
def k21m0 : Method := { name := "<init>", desc := "()V", sig := { parameters := [], returnType := none }, accessFlags := 4, code := some k21c0 }
/-- java/util/AbstractMap -/
def k21 : Class := { plain "java/util/AbstractMap" (some 0) with
  accessFlags := 1057
  interfaces := #[20]
  cf := some (fileOf pool21 8 #[.nestMembers #[181, 183, 185, 75, 187, 66, 189]] #[{ accessFlags := 4, nameIndex := 5, descriptorIndex := 6, attributes := #[] }] 1057 2 #[53] #[{ accessFlags := 128, nameIndex := 64, descriptorIndex := 65, attributes := #[] }, { accessFlags := 128, nameIndex := 73, descriptorIndex := 74, attributes := #[] }])
  fields := #[{ name := "keySet", type := (.object "java/util/Set"), accessFlags := 128, slot := 0, constantValue := 0 }, { name := "values", type := (.object "java/util/Collection"), accessFlags := 128, slot := 1, constantValue := 0 }]
  methods := #[k21m0]
  instanceTypes := #[(.object "java/util/Set"), (.object "java/util/Collection")]
  staticTypes := #[]
  resolved := Array.replicate 196 none
  statics := none }

def pool22 : Array CpInfo := pool [(40, .class_ 41), (0, u "java/util/HashMap"), (1, .methodref 44 45), (0, .class_ 46), (0, .nameAndType 47 48), (0, u "java/util/AbstractMap"), (0, u "<init>"), (0, u "()V"), (32, .fieldref 40 82), (0, .nameAndType 83 84), (0, u "loadFactor"), (0, u "F"), (5, u "threshold"), (0, u "I"), (0, .float 1061158912), (8, .class_ 103), (1, u "java/util/Map"), (0, u "size"), (2, u "table"), (0, u "[Ljava/util/HashMap$Node;"), (14, u "entrySet"), (39, .class_ 165), (1, u "java/util/HashMap$Node"), (14, .class_ 181), (0, u "java/util/HashMap$TreeNode"), (22, u "modCount"), (37, u "Ljava/util/Set;"), (0, .class_ 244), (0, u "java/util/HashMap$KeySet"), (18, .class_ 264), (0, u "java/util/HashMap$Values"), (3, .class_ 269), (0, u "java/util/HashMap$EntrySet"), (76, .class_ 348), (1, u "java/util/HashMap$UnsafeHolder"), (43, .class_ 393), (0, u "java/lang/Cloneable"), (0, .class_ 395), (0, u "java/io/Serializable"), (0, u "serialVersionUID"), (0, u "J"), (3, u "DEFAULT_INITIAL_CAPACITY"), (1, u "MAXIMUM_CAPACITY"), (0, u "DEFAULT_LOAD_FACTOR"), (0, u "TREEIFY_THRESHOLD"), (1, u "UNTREEIFY_THRESHOLD"), (1, u "MIN_TREEIFY_CAPACITY"), (186, .class_ 597), (0, u "java/util/HashMap$EntrySpliterator"), (0, .class_ 599), (0, u "java/util/HashMap$ValueSpliterator"), (0, .class_ 601), (0, u "java/util/HashMap$KeySpliterator"), (0, .class_ 603), (0, u "java/util/HashMap$HashMapSpliterator"), (0, .class_ 605), (0, u "java/util/HashMap$EntryIterator"), (0, .class_ 607), (0, u "java/util/HashMap$ValueIterator"), (0, .class_ 609), (0, u "java/util/HashMap$KeyIterator"), (0, .class_ 611), (0, u "java/util/HashMap$HashIterator")] 17

def k22c0 : Code := { maxStack := 2, maxLocals := 1, code := jdk_69_method_7_code, exceptionTable := #[], attributes := #[] }
def k22m0 : Method := { name := "<init>", desc := "()V", sig := { parameters := [], returnType := none }, accessFlags := 1, code := some k22c0 }
/-- java/util/HashMap -/
def k22 : Class := { plain "java/util/HashMap" (some 21) with
  accessFlags := 33
  interfaces := #[20, 17, 3]
  cf := some (fileOf pool22 40 #[.nestMembers #[180, 596, 598, 600, 602, 604, 606, 608, 610, 346, 268, 263, 243, 163]] #[{ accessFlags := 1, nameIndex := 47, descriptorIndex := 48, attributes := #[] }] 33 44 #[101, 392, 394] #[{ accessFlags := 26, nameIndex := 396, descriptorIndex := 397, attributes := #[] }, { accessFlags := 24, nameIndex := 401, descriptorIndex := 91, attributes := #[] }, { accessFlags := 24, nameIndex := 403, descriptorIndex := 91, attributes := #[] }, { accessFlags := 24, nameIndex := 404, descriptorIndex := 84, attributes := #[] }, { accessFlags := 24, nameIndex := 405, descriptorIndex := 91, attributes := #[] }, { accessFlags := 24, nameIndex := 407, descriptorIndex := 91, attributes := #[] }, { accessFlags := 24, nameIndex := 409, descriptorIndex := 91, attributes := #[] }, { accessFlags := 128, nameIndex := 107, descriptorIndex := 108, attributes := #[] }, { accessFlags := 128, nameIndex := 123, descriptorIndex := 242, attributes := #[] }, { accessFlags := 128, nameIndex := 104, descriptorIndex := 91, attributes := #[] }, { accessFlags := 128, nameIndex := 204, descriptorIndex := 91, attributes := #[] }, { accessFlags := 0, nameIndex := 90, descriptorIndex := 91, attributes := #[] }, { accessFlags := 16, nameIndex := 83, descriptorIndex := 84, attributes := #[] }])
  fields := #[{ name := "serialVersionUID", type := .long, accessFlags := 26, slot := 0, constantValue := 0 }, { name := "DEFAULT_INITIAL_CAPACITY", type := .int, accessFlags := 24, slot := 1, constantValue := 0 }, { name := "MAXIMUM_CAPACITY", type := .int, accessFlags := 24, slot := 2, constantValue := 0 }, { name := "DEFAULT_LOAD_FACTOR", type := .float, accessFlags := 24, slot := 3, constantValue := 0 }, { name := "TREEIFY_THRESHOLD", type := .int, accessFlags := 24, slot := 4, constantValue := 0 }, { name := "UNTREEIFY_THRESHOLD", type := .int, accessFlags := 24, slot := 5, constantValue := 0 }, { name := "MIN_TREEIFY_CAPACITY", type := .int, accessFlags := 24, slot := 6, constantValue := 0 }, { name := "table", type := (.array (.object "java/util/HashMap$Node")), accessFlags := 128, slot := 2, constantValue := 0 }, { name := "entrySet", type := (.object "java/util/Set"), accessFlags := 128, slot := 3, constantValue := 0 }, { name := "size", type := .int, accessFlags := 128, slot := 4, constantValue := 0 }, { name := "modCount", type := .int, accessFlags := 128, slot := 5, constantValue := 0 }, { name := "threshold", type := .int, accessFlags := 0, slot := 6, constantValue := 0 }, { name := "loadFactor", type := .float, accessFlags := 16, slot := 7, constantValue := 0 }]
  methods := #[k22m0]
  instanceTypes := #[(.object "java/util/Set"), (.object "java/util/Collection"), (.array (.object "java/util/HashMap$Node")), (.object "java/util/Set"), .int, .int, .int, .float]
  staticTypes := #[.long, .int, .int, .float, .int, .int, .int]
  resolved := Array.replicate 629 none
  statics := none }

def pool23 : Array CpInfo := pool [(2, .class_ 4), (1, u "java/lang/Object"), (0, u "<init>"), (0, u "()V"), (35, .class_ 44), (1, u "java/util/Objects"), (60, .methodref 106 107), (0, .class_ 108), (0, .nameAndType 109 110), (0, u "jdk/internal/util/Preconditions"), (0, u "checkIndex"), (0, u "(IILjava/util/function/BiFunction;)I"), (60, u "(II)I")] 12

def k23m0 : Method := { name := "<init>", desc := "()V", sig := { parameters := [], returnType := none }, accessFlags := 2, code := none }
def k23c1 : Code := { maxStack := 3, maxLocals := 2, code := jdk_31_method_17_code, exceptionTable := #[], attributes := #[] }
def k23m1 : Method := { name := "checkIndex", desc := "(II)I", sig := { parameters := [.int, .int], returnType := some .int }, accessFlags := 9, code := some k23c1 }
/-- java/util/Objects -/
def k23 : Class := { plain "java/util/Objects" (some 0) with
  accessFlags := 49
  interfaces := #[]
  cf := some (fileOf pool23 42 #[] #[{ accessFlags := 2, nameIndex := 5, descriptorIndex := 6, attributes := #[] }, { accessFlags := 9, nameIndex := 109, descriptorIndex := 171, attributes := #[] }] 49 2 #[] #[])
  fields := #[]
  methods := #[k23m0, k23m1]
  instanceTypes := #[]
  staticTypes := #[]
  resolved := Array.replicate 184 none
  statics := none }

def pool24 : Array CpInfo := pool [(2, .class_ 4), (1, u "java/lang/Object"), (0, u "<init>"), (0, u "()V"), (17, .class_ 26), (1, u "jdk/internal/util/Preconditions"), (6, u "checkIndex"), (21, .class_ 56), (0, u "jdk/internal/util/Preconditions$4"), (57, .class_ 115), (0, u "jdk/internal/util/Preconditions$1"), (7, u "SIOOBE_FORMATTER"), (0, u "Ljava/util/function/BiFunction;"), (0, .class_ 126), (0, u "jdk/internal/util/Preconditions$2"), (3, u "AIOOBE_FORMATTER"), (0, .class_ 132), (0, u "jdk/internal/util/Preconditions$3"), (3, u "IOOBE_FORMATTER"), (41, u "(IILjava/util/function/BiFunction;)I")] 15

def k24m0 : Method := { name := "<init>", desc := "()V", sig := { parameters := [], returnType := none }, accessFlags := 1, code := none }
def k24c1 : Code := { maxStack := 3, maxLocals := 3, code := jdk_41_method_11_code, exceptionTable := #[], attributes := #[] }
def k24m1 : Method := { name := "checkIndex", desc := "(IILjava/util/function/BiFunction;)I", sig := { parameters := [.int, .int, (.object "java/util/function/BiFunction")], returnType := some .int }, accessFlags := 9, code := some k24c1 }
/-- jdk/internal/util/Preconditions -/
def k24 : Class := { plain "jdk/internal/util/Preconditions" (some 0) with
  accessFlags := 33
  interfaces := #[]
  cf := some (fileOf pool24 24 #[.nestMembers #[55, 131, 125, 114]] #[{ accessFlags := 1, nameIndex := 5, descriptorIndex := 6, attributes := #[] }, { accessFlags := 9, nameIndex := 33, descriptorIndex := 178, attributes := #[] }] 33 2 #[] #[{ accessFlags := 25, nameIndex := 123, descriptorIndex := 124, attributes := #[] }, { accessFlags := 25, nameIndex := 130, descriptorIndex := 124, attributes := #[] }, { accessFlags := 25, nameIndex := 136, descriptorIndex := 124, attributes := #[] }])
  fields := #[{ name := "SIOOBE_FORMATTER", type := (.object "java/util/function/BiFunction"), accessFlags := 25, slot := 0, constantValue := 0 }, { name := "AIOOBE_FORMATTER", type := (.object "java/util/function/BiFunction"), accessFlags := 25, slot := 1, constantValue := 0 }, { name := "IOOBE_FORMATTER", type := (.object "java/util/function/BiFunction"), accessFlags := 25, slot := 2, constantValue := 0 }]
  methods := #[k24m0, k24m1]
  instanceTypes := #[]
  staticTypes := #[(.object "java/util/function/BiFunction"), (.object "java/util/function/BiFunction"), (.object "java/util/function/BiFunction")]
  resolved := Array.replicate 194 none
  statics := some 2 }

def pool25 : Array CpInfo := pool [(6, .class_ 8), (1, u "java/lang/Object"), (0, u "<init>"), (0, u "()V"), (1, .class_ 14), (1, u "java/lang/StringUTF16"), (29, .fieldref 12 45), (0, .nameAndType 46 47), (0, u "$assertionsDisabled"), (0, u "Z"), (11, .fieldref 12 60), (0, .nameAndType 61 62), (0, u "HI_BYTE_SHIFT"), (0, u "I"), (0, .fieldref 12 64), (0, .nameAndType 65 62), (0, u "LO_BYTE_SHIFT"), (45, .methodref 12 112), (0, .nameAndType 113 114), (0, u "putChar"), (0, u "([BII)V"), (6, u "toBytes"), (247, .class_ 371), (1, u "java/lang/StringUTF16$LinesSpliterator"), (58, u "MAX_LENGTH"), (44, u "(C)[B"), (151, .class_ 628), (0, u "java/lang/StringUTF16$CodePointsSpliterator"), (0, .class_ 630), (0, u "java/lang/StringUTF16$CharsSpliterator")] 4

def k25m0 : Method := { name := "<init>", desc := "()V", sig := { parameters := [], returnType := none }, accessFlags := 0, code := none }
def k25c1 : Code := { maxStack := 4, maxLocals := 3, code := jdk_52_method_4_code, exceptionTable := #[], attributes := #[] }
def k25m1 : Method := { name := "putChar", desc := "([BII)V", sig := { parameters := [(.array .byte), .int, .int], returnType := none }, accessFlags := 8, code := some k25c1 }
def k25c2 : Code := { maxStack := 3, maxLocals := 2, code := jdk_52_method_24_code, exceptionTable := #[], attributes := #[] }
def k25m2 : Method := { name := "toBytes", desc := "(C)[B", sig := { parameters := [.char], returnType := some (.array .byte) }, accessFlags := 9, code := some k25c2 }
/-- java/lang/StringUTF16 -/
def k25 : Class := { plain "java/lang/StringUTF16" (some 0) with
  accessFlags := 48
  interfaces := #[]
  cf := some (fileOf pool25 12 #[.nestMembers #[627, 629, 369]] #[{ accessFlags := 0, nameIndex := 9, descriptorIndex := 10, attributes := #[] }, { accessFlags := 8, nameIndex := 113, descriptorIndex := 114, attributes := #[] }, { accessFlags := 9, nameIndex := 121, descriptorIndex := 475, attributes := #[] }] 48 6 #[] #[{ accessFlags := 26, nameIndex := 61, descriptorIndex := 62, attributes := #[] }, { accessFlags := 26, nameIndex := 65, descriptorIndex := 62, attributes := #[] }, { accessFlags := 24, nameIndex := 430, descriptorIndex := 62, attributes := #[] }, { accessFlags := 4120, nameIndex := 46, descriptorIndex := 47, attributes := #[] }])
  fields := #[{ name := "HI_BYTE_SHIFT", type := .int, accessFlags := 26, slot := 0, constantValue := 0 }, { name := "LO_BYTE_SHIFT", type := .int, accessFlags := 26, slot := 1, constantValue := 0 }, { name := "MAX_LENGTH", type := .int, accessFlags := 24, slot := 2, constantValue := 0 }, { name := "$assertionsDisabled", type := .boolean, accessFlags := 4120, slot := 3, constantValue := 0 }]
  methods := #[k25m0, k25m1, k25m2]
  instanceTypes := #[]
  staticTypes := #[.int, .int, .int, .boolean]
  resolved := Array.replicate 635 none
  statics := some 3 }

def pool26 : Array CpInfo := pool [(9, u "<init>"), (6, .class_ 18), (1, u "java/lang/Object"), (0, u "()V"), (1, .class_ 23), (1, u "jdk/internal/util/ArraysSupport"), (0, u "LOG2_ARRAY_LONG_INDEX_SCALE"), (0, u "I"), (2, u "U"), (0, u "Ljdk/internal/misc/Unsafe;"), (8, u "BIG_ENDIAN"), (0, u "Z"), (8, u "LOG2_BYTE_BIT_SIZE"), (4, u "LOG2_ARRAY_INT_INDEX_SCALE"), (54, u "JLA"), (0, u "Ljdk/internal/access/JavaLangAccess;"), (11, u "LOG2_ARRAY_BOOLEAN_INDEX_SCALE"), (9, u "LOG2_ARRAY_BYTE_INDEX_SCALE"), (5, u "LOG2_ARRAY_CHAR_INDEX_SCALE"), (5, u "LOG2_ARRAY_SHORT_INDEX_SCALE"), (18, u "LOG2_ARRAY_FLOAT_INDEX_SCALE"), (24, u "LOG2_ARRAY_DOUBLE_INDEX_SCALE"), (89, u "T_BOOLEAN"), (2, u "T_CHAR"), (1, u "T_FLOAT"), (1, u "T_DOUBLE"), (1, u "T_BYTE"), (1, u "T_SHORT"), (1, u "T_INT"), (1, u "T_LONG"), (1, u "SOFT_MAX_ARRAY_LENGTH")] 83

def k26m0 : Method := { name := "<init>", desc := "()V", sig := { parameters := [], returnType := none }, accessFlags := 2, code := none }
/-- jdk/internal/util/ArraysSupport -/
def k26 : Class := { plain "jdk/internal/util/ArraysSupport" (some 0) with
  accessFlags := 33
  interfaces := #[]
  cf := some (fileOf pool26 21 #[] #[{ accessFlags := 2, nameIndex := 9, descriptorIndex := 19, attributes := #[] }] 33 16 #[] #[{ accessFlags := 24, nameIndex := 28, descriptorIndex := 29, attributes := #[] }, { accessFlags := 26, nameIndex := 38, descriptorIndex := 39, attributes := #[] }, { accessFlags := 25, nameIndex := 121, descriptorIndex := 25, attributes := #[] }, { accessFlags := 25, nameIndex := 131, descriptorIndex := 25, attributes := #[] }, { accessFlags := 25, nameIndex := 137, descriptorIndex := 25, attributes := #[] }, { accessFlags := 25, nameIndex := 143, descriptorIndex := 25, attributes := #[] }, { accessFlags := 25, nameIndex := 53, descriptorIndex := 25, attributes := #[] }, { accessFlags := 25, nameIndex := 24, descriptorIndex := 25, attributes := #[] }, { accessFlags := 25, nameIndex := 162, descriptorIndex := 25, attributes := #[] }, { accessFlags := 25, nameIndex := 187, descriptorIndex := 25, attributes := #[] }, { accessFlags := 26, nameIndex := 48, descriptorIndex := 25, attributes := #[] }, { accessFlags := 25, nameIndex := 277, descriptorIndex := 25, attributes := #[] }, { accessFlags := 25, nameIndex := 280, descriptorIndex := 25, attributes := #[] }, { accessFlags := 25, nameIndex := 282, descriptorIndex := 25, attributes := #[] }, { accessFlags := 25, nameIndex := 284, descriptorIndex := 25, attributes := #[] }, { accessFlags := 25, nameIndex := 286, descriptorIndex := 25, attributes := #[] }, { accessFlags := 25, nameIndex := 288, descriptorIndex := 25, attributes := #[] }, { accessFlags := 25, nameIndex := 290, descriptorIndex := 25, attributes := #[] }, { accessFlags := 25, nameIndex := 292, descriptorIndex := 25, attributes := #[] }, { accessFlags := 26, nameIndex := 108, descriptorIndex := 109, attributes := #[] }, { accessFlags := 25, nameIndex := 294, descriptorIndex := 25, attributes := #[] }])
  fields := #[{ name := "U", type := (.object "jdk/internal/misc/Unsafe"), accessFlags := 24, slot := 0, constantValue := 0 }, { name := "BIG_ENDIAN", type := .boolean, accessFlags := 26, slot := 1, constantValue := 0 }, { name := "LOG2_ARRAY_BOOLEAN_INDEX_SCALE", type := .int, accessFlags := 25, slot := 2, constantValue := 0 }, { name := "LOG2_ARRAY_BYTE_INDEX_SCALE", type := .int, accessFlags := 25, slot := 3, constantValue := 0 }, { name := "LOG2_ARRAY_CHAR_INDEX_SCALE", type := .int, accessFlags := 25, slot := 4, constantValue := 0 }, { name := "LOG2_ARRAY_SHORT_INDEX_SCALE", type := .int, accessFlags := 25, slot := 5, constantValue := 0 }, { name := "LOG2_ARRAY_INT_INDEX_SCALE", type := .int, accessFlags := 25, slot := 6, constantValue := 0 }, { name := "LOG2_ARRAY_LONG_INDEX_SCALE", type := .int, accessFlags := 25, slot := 7, constantValue := 0 }, { name := "LOG2_ARRAY_FLOAT_INDEX_SCALE", type := .int, accessFlags := 25, slot := 8, constantValue := 0 }, { name := "LOG2_ARRAY_DOUBLE_INDEX_SCALE", type := .int, accessFlags := 25, slot := 9, constantValue := 0 }, { name := "LOG2_BYTE_BIT_SIZE", type := .int, accessFlags := 26, slot := 10, constantValue := 0 }, { name := "T_BOOLEAN", type := .int, accessFlags := 25, slot := 11, constantValue := 0 }, { name := "T_CHAR", type := .int, accessFlags := 25, slot := 12, constantValue := 0 }, { name := "T_FLOAT", type := .int, accessFlags := 25, slot := 13, constantValue := 0 }, { name := "T_DOUBLE", type := .int, accessFlags := 25, slot := 14, constantValue := 0 }, { name := "T_BYTE", type := .int, accessFlags := 25, slot := 15, constantValue := 0 }, { name := "T_SHORT", type := .int, accessFlags := 25, slot := 16, constantValue := 0 }, { name := "T_INT", type := .int, accessFlags := 25, slot := 17, constantValue := 0 }, { name := "T_LONG", type := .int, accessFlags := 25, slot := 18, constantValue := 0 }, { name := "JLA", type := (.object "jdk/internal/access/JavaLangAccess"), accessFlags := 26, slot := 19, constantValue := 0 }, { name := "SOFT_MAX_ARRAY_LENGTH", type := .int, accessFlags := 25, slot := 20, constantValue := 0 }]
  methods := #[k26m0]
  instanceTypes := #[]
  staticTypes := #[(.object "jdk/internal/misc/Unsafe"), .boolean, .int, .int, .int, .int, .int, .int, .int, .int, .int, .int, .int, .int, .int, .int, .int, .int, .int, (.object "jdk/internal/access/JavaLangAccess"), .int]
  resolved := Array.replicate 378 none
  statics := none }

/-- the primitive byte -/
def k27 : Class := { plain "byte" none with kind := .primitive 'B', accessFlags := 0x411 }
/-- [B -/
def k28 : Class := { plain "[B" (some 0) with kind := .array 27 .byte, interfaces := #[17, 3], accessFlags := 1041 }

/-- the primitive int -/
def k29 : Class := { plain "int" none with kind := .primitive 'I', accessFlags := 0x411 }
/-- [I -/
def k30 : Class := { plain "[I" (some 0) with kind := .array 29 .int, interfaces := #[17, 3], accessFlags := 1041 }

/-- [Ljava/lang/Object; -/
def k31 : Class := { plain "[Ljava/lang/Object;" (some 0) with kind := .array 0 (.object "java/lang/Object"), interfaces := #[17, 3], accessFlags := 1041 }

def heap : Heap := #[{ cls := 8, slots := #[.long 0, .int 1, .null, .int 0, .null, .int 0, .int 0], vm := .statics 8 },
  { cls := 18, slots := #[.long 0, .int 0, .ref 4, .ref 5], vm := .statics 18 },
  { cls := 24, slots := #[.null, .null, .null], vm := .statics 24 },
  { cls := 25, slots := #[.int 0, .int 8, .int 0, .int 1], vm := .statics 25 },
  { cls := 31, slots := #[], vm := .none },
  { cls := 31, slots := #[], vm := .none }]
def classes : Array Class := #[k0, k1, k2, k3, k4, k5, k6, k7, k8, k9, k10, k11, k12, k13, k14, k15, k16, k17, k18, k19, k20, k21, k22, k23, k24, k25, k26, k27, k28, k29, k30, k31]
def interned : List (Array UInt16 × Addr) := []
def slotsUsed : Nat := 18
def theMethod : MethodId := ⟨1, 1⟩
def args0 : Array Value := #[.int 3, .int 4, .long 5]
def aboutOver (below : List Frame) : State where
  vm := { classes := classes, interned := interned.toArray }
  heap := heap
  slotsUsed := slotsUsed
  threads := #[{ frames := .invoking theMethod args0 :: below }]
def below0 : List Frame := [.native { method := ⟨0, 0⟩, args := #[] }]
def about1 : State := aboutOver below0
def p0 : Program := .bare "" "" ""
def e0 : Env := launch0.env 0 0 0
theorem w_frames : about1.frames = Frame.invoking theMethod args0 :: below0 := rfl
set_option maxRecDepth 65536 in
theorem w_args : argsFit about1.vm theMethod args0 = true := by decide +kernel
set_option maxRecDepth 65536 in
theorem w_heap : heapFits about1 = true := by decide +kernel
set_option maxRecDepth 65536 in
theorem w_runnable : about1.curStatus? = some .runnable := by decide +kernel
set_option maxRecDepth 65536 in
theorem w_alone : about1.alone = true := by decide +kernel
set_option maxRecDepth 65536 in
theorem w_named : about1.methodNamed? x = some theMethod := by decide +kernel
set_option maxRecDepth 65536 in
theorem w_hears : about1.hears theMethod below0 = true := by decide +kernel
set_option maxRecDepth 65536 in
theorem w_ripe : about1.ripe theMethod args0 below0 = true := by decide +kernel
theorem w_running : about1.status = .running := rfl
set_option maxRecDepth 65536 in
theorem w_room : about1.hasRoom e0.platform room_1 = true :=
  launch0.hasRoom_least _ room_1 (by decide +kernel) (by decide +kernel) (by decide +kernel) (by decide +kernel) (by decide +kernel) (by decide +kernel)
theorem allAtoms_all (ts : List Jvm.Cond) (a : Array Jvm.Value) (st : Jvm.State) : (allAtoms ts).before a st = ts.all (fun c => c.before a st) := by
  induction ts with
  | nil => rfl
  | cons c t ih =>
    show (Jvm.Cond.and c (allAtoms t)).before a st = _
    rw [Jvm.Cond.before_and, ih, List.all_cons]
def words1 : List Jvm.Cond := Jvm.Cond.code x code maxLocals ret :: tables_1
/-- a 'code' word, met by the world's own term for the bytes: nothing is compared byte by byte -/
theorem code_word {y : MethodName} {bytes : ByteArray} {mx : Nat} {rt : Option FieldType} {a : Array Value} {s : State} {m : MethodId} {meth : Method} {c : Code} (h1 : s.methodNamed? y = some m) (h2 : s.vm.method? m = some meth) (h3 : meth.code = some c) (h4 : c.code = bytes)
    (h5 : (c.maxLocals == mx && c.exceptionTable.isEmpty && decide (c.maxStack ≤ mostOperands) && decide (meth.sig.returnType = rt) && !meth.locks && decide (parseMethodDescriptor y.desc = some meth.sig)) = true) : (Jvm.Cond.code y bytes mx rt).before a s = true := by
  simp only [Bool.and_eq_true, beq_iff_eq, Bool.not_eq_true', decide_eq_true_eq] at h5
  obtain ⟨⟨⟨⟨⟨g1, g2⟩, g3⟩, g4⟩, g5⟩, g6⟩ := h5
  simp [Cond.before, Cond.holds, Cond.value, h1, h2, h3, h4, g1, g2, g3, g4, g5, g6]
def isCode : Jvm.Cond → Bool
  | .code _ _ _ _ => true
  | _ => false
theorem all_split {L : List Jvm.Cond} {P : Jvm.Cond → Bool} (h1 : L.all (fun c => isCode c || P c) = true) (h2 : ∀ c ∈ L.filter isCode, P c = true) : L.all P = true := by
  refine List.all_eq_true.mpr fun c hc => ?_
  have h := List.all_eq_true.mp h1 c hc
  rcases Bool.eq_false_or_eq_true (isCode c) with hi | hi
  · exact h2 c (List.mem_filter.mpr ⟨hc, hi⟩)
  · simpa [hi] using h
set_option maxRecDepth 65536 in
theorem w_c0 : (Jvm.Cond.code x code maxLocals ret).before args0 about1 = true := code_word (m := ⟨1, 1⟩) (meth := k1m1) (c := k1c1) (by decide +kernel) rfl rfl rfl (by decide +kernel)
set_option maxRecDepth 65536 in
theorem w_c1 : (Jvm.Cond.code ({ cls := "java/lang/Math", name := "min", desc := "(II)I" } : Jvm.MethodName) jdk_29_method_69_code (2 : Nat) (Option.some Jvm.ClassFile.FieldType.int)).before args0 about1 = true := code_word (m := ⟨2, 2⟩) (meth := k2m2) (c := k2c2) (by decide +kernel) rfl rfl rfl (by decide +kernel)
set_option maxRecDepth 65536 in
theorem w_c2 : (Jvm.Cond.code ({ cls := "java/lang/Math", name := "max", desc := "(II)I" } : Jvm.MethodName) jdk_29_method_65_code (2 : Nat) (Option.some Jvm.ClassFile.FieldType.int)).before args0 about1 = true := code_word (m := ⟨2, 1⟩) (meth := k2m1) (c := k2c1) (by decide +kernel) rfl rfl rfl (by decide +kernel)
set_option maxRecDepth 65536 in
theorem w_c3 : (Jvm.Cond.code ({ cls := "java/lang/String", name := "valueOf", desc := "(C)Ljava/lang/String;" } : Jvm.MethodName) jdk_42_method_139_code (1 : Nat) (Option.some (Jvm.ClassFile.FieldType.object "java/lang/String"))).before args0 about1 = true := code_word (m := ⟨8, 5⟩) (meth := k8m5) (c := k8c5) (by decide +kernel) rfl rfl rfl (by decide +kernel)
set_option maxRecDepth 65536 in
theorem w_c4 : (Jvm.Cond.code ({ cls := "java/lang/StringLatin1", name := "canEncode", desc := "(C)Z" } : Jvm.MethodName) jdk_43_method_3_code (1 : Nat) (Option.some Jvm.ClassFile.FieldType.boolean)).before args0 about1 = true := code_word (m := ⟨9, 1⟩) (meth := k9m1) (c := k9c1) (by decide +kernel) rfl rfl rfl (by decide +kernel)
set_option maxRecDepth 65536 in
theorem w_c5 : (Jvm.Cond.code ({ cls := "java/lang/StringLatin1", name := "toBytes", desc := "(C)[B" } : Jvm.MethodName) jdk_43_method_46_code (1 : Nat) (Option.some (Jvm.ClassFile.FieldType.array Jvm.ClassFile.FieldType.byte))).before args0 about1 = true := code_word (m := ⟨9, 2⟩) (meth := k9m2) (c := k9c2) (by decide +kernel) rfl rfl rfl (by decide +kernel)
set_option maxRecDepth 65536 in
theorem w_c6 : (Jvm.Cond.code ({ cls := "java/lang/String", name := "<init>", desc := "([BB)V" } : Jvm.MethodName) jdk_42_method_151_code (3 : Nat) (Option.none : Option Jvm.ClassFile.FieldType)).before args0 about1 = true := code_word (m := ⟨8, 6⟩) (meth := k8m6) (c := k8c6) (by decide +kernel) rfl rfl rfl (by decide +kernel)
set_option maxRecDepth 65536 in
theorem w_c7 : (Jvm.Cond.code ({ cls := "java/lang/Object", name := "<init>", desc := "()V" } : Jvm.MethodName) object_method_1_code (1 : Nat) (Option.none : Option Jvm.ClassFile.FieldType)).before args0 about1 = true := code_word (m := ⟨0, 0⟩) (meth := k0m0) (c := k0c0) (by decide +kernel) rfl rfl rfl (by decide +kernel)
set_option maxRecDepth 65536 in
theorem w_c8 : (Jvm.Cond.code ({ cls := "java/util/ArrayList", name := "<init>", desc := "()V" } : Jvm.MethodName) jdk_38_method_2_code (1 : Nat) (Option.none : Option Jvm.ClassFile.FieldType)).before args0 about1 = true := code_word (m := ⟨18, 0⟩) (meth := k18m0) (c := k18c0) (by decide +kernel) rfl rfl rfl (by decide +kernel)
set_option maxRecDepth 65536 in
theorem w_c9 : (Jvm.Cond.code ({ cls := "java/util/AbstractList", name := "<init>", desc := "()V" } : Jvm.MethodName) jdk_39_method_1_code (1 : Nat) (Option.none : Option Jvm.ClassFile.FieldType)).before args0 about1 = true := code_word (m := ⟨15, 0⟩) (meth := k15m0) (c := k15c0) (by decide +kernel) rfl rfl rfl (by decide +kernel)
set_option maxRecDepth 65536 in
theorem w_c10 : (Jvm.Cond.code ({ cls := "java/util/AbstractCollection", name := "<init>", desc := "()V" } : Jvm.MethodName) jdk_22_method_1_code (1 : Nat) (Option.none : Option Jvm.ClassFile.FieldType)).before args0 about1 = true := code_word (m := ⟨12, 0⟩) (meth := k12m0) (c := k12c0) (by decide +kernel) rfl rfl rfl (by decide +kernel)
set_option maxRecDepth 65536 in
theorem w_c11 : (Jvm.Cond.code ({ cls := "com/example/hashtory/hashtory/Arguments", name := "<init>", desc := "(Ljava/util/List;Ljava/util/Set;)V" } : Jvm.MethodName) prog_1_method_1_code (5 : Nat) (Option.none : Option Jvm.ClassFile.FieldType)).before args0 about1 = true := code_word (m := ⟨19, 0⟩) (meth := k19m0) (c := k19c0) (by decide +kernel) rfl rfl rfl (by decide +kernel)
set_option maxRecDepth 65536 in
theorem w_c12 : (Jvm.Cond.code ({ cls := "java/util/HashMap", name := "<init>", desc := "()V" } : Jvm.MethodName) jdk_69_method_7_code (1 : Nat) (Option.none : Option Jvm.ClassFile.FieldType)).before args0 about1 = true := code_word (m := ⟨22, 0⟩) (meth := k22m0) (c := k22c0) (by decide +kernel) rfl rfl rfl (by decide +kernel)
set_option maxRecDepth 65536 in
theorem w_c13 : (Jvm.Cond.code ({ cls := "java/util/AbstractMap", name := "<init>", desc := "()V" } : Jvm.MethodName) jdk_71_method_1_code (1 : Nat) (Option.none : Option Jvm.ClassFile.FieldType)).before args0 about1 = true := code_word (m := ⟨21, 0⟩) (meth := k21m0) (c := k21c0) (by decide +kernel) rfl rfl rfl (by decide +kernel)
set_option maxRecDepth 65536 in
theorem w_c14 : (Jvm.Cond.code ({ cls := "java/util/ArrayList", name := "size", desc := "()I" } : Jvm.MethodName) jdk_38_method_8_code (1 : Nat) (Option.some Jvm.ClassFile.FieldType.int)).before args0 about1 = true := code_word (m := ⟨18, 3⟩) (meth := k18m3) (c := k18c3) (by decide +kernel) rfl rfl rfl (by decide +kernel)
set_option maxRecDepth 65536 in
theorem w_c15 : (Jvm.Cond.code ({ cls := "com/example/hashtory/hashtory/Arguments", name := "positionals", desc := "(Ljava/util/List;I)Ljava/util/List;" } : Jvm.MethodName) prog_1_method_4_code (3 : Nat) (Option.some (Jvm.ClassFile.FieldType.object "java/util/List"))).before args0 about1 = true := code_word (m := ⟨19, 1⟩) (meth := k19m1) (c := k19c1) (by decide +kernel) rfl rfl rfl (by decide +kernel)
set_option maxRecDepth 65536 in
theorem w_c16 : (Jvm.Cond.code ({ cls := "java/util/ArrayList", name := "add", desc := "(Ljava/lang/Object;)Z" } : Jvm.MethodName) jdk_38_method_25_code (2 : Nat) (Option.some Jvm.ClassFile.FieldType.boolean)).before args0 about1 = true := code_word (m := ⟨18, 7⟩) (meth := k18m7) (c := k18c7) (by decide +kernel) rfl rfl rfl (by decide +kernel)
set_option maxRecDepth 65536 in
theorem w_c17 : (Jvm.Cond.code ({ cls := "java/util/ArrayList", name := "add", desc := "(Ljava/lang/Object;[Ljava/lang/Object;I)V" } : Jvm.MethodName) jdk_38_method_24_code (4 : Nat) (Option.none : Option Jvm.ClassFile.FieldType)).before args0 about1 = true := code_word (m := ⟨18, 6⟩) (meth := k18m6) (c := k18c6) (by decide +kernel) rfl rfl rfl (by decide +kernel)
set_option maxRecDepth 65536 in
theorem w_c18 : (Jvm.Cond.code ({ cls := "java/util/ArrayList", name := "grow", desc := "()[Ljava/lang/Object;" } : Jvm.MethodName) jdk_38_method_7_code (1 : Nat) (Option.some (Jvm.ClassFile.FieldType.array (Jvm.ClassFile.FieldType.object "java/lang/Object")))).before args0 about1 = true := code_word (m := ⟨18, 2⟩) (meth := k18m2) (c := k18c2) (by decide +kernel) rfl rfl rfl (by decide +kernel)
set_option maxRecDepth 65536 in
theorem w_c19 : (Jvm.Cond.code ({ cls := "java/util/ArrayList", name := "grow", desc := "(I)[Ljava/lang/Object;" } : Jvm.MethodName) jdk_38_method_6_code (4 : Nat) (Option.some (Jvm.ClassFile.FieldType.array (Jvm.ClassFile.FieldType.object "java/lang/Object")))).before args0 about1 = true := code_word (m := ⟨18, 1⟩) (meth := k18m1) (c := k18c1) (by decide +kernel) rfl rfl rfl (by decide +kernel)
set_option maxRecDepth 65536 in
theorem w_c20 : (Jvm.Cond.code ({ cls := "java/util/ArrayList", name := "get", desc := "(I)Ljava/lang/Object;" } : Jvm.MethodName) jdk_38_method_20_code (2 : Nat) (Option.some (Jvm.ClassFile.FieldType.object "java/lang/Object"))).before args0 about1 = true := code_word (m := ⟨18, 5⟩) (meth := k18m5) (c := k18c5) (by decide +kernel) rfl rfl rfl (by decide +kernel)
set_option maxRecDepth 65536 in
theorem w_c21 : (Jvm.Cond.code ({ cls := "java/util/Objects", name := "checkIndex", desc := "(II)I" } : Jvm.MethodName) jdk_31_method_17_code (2 : Nat) (Option.some Jvm.ClassFile.FieldType.int)).before args0 about1 = true := code_word (m := ⟨23, 1⟩) (meth := k23m1) (c := k23c1) (by decide +kernel) rfl rfl rfl (by decide +kernel)
set_option maxRecDepth 65536 in
theorem w_c22 : (Jvm.Cond.code ({ cls := "jdk/internal/util/Preconditions", name := "checkIndex", desc := "(IILjava/util/function/BiFunction;)I" } : Jvm.MethodName) jdk_41_method_11_code (3 : Nat) (Option.some Jvm.ClassFile.FieldType.int)).before args0 about1 = true := code_word (m := ⟨24, 1⟩) (meth := k24m1) (c := k24c1) (by decide +kernel) rfl rfl rfl (by decide +kernel)
set_option maxRecDepth 65536 in
theorem w_c23 : (Jvm.Cond.code ({ cls := "java/util/ArrayList", name := "elementData", desc := "(I)Ljava/lang/Object;" } : Jvm.MethodName) jdk_38_method_18_code (2 : Nat) (Option.some (Jvm.ClassFile.FieldType.object "java/lang/Object"))).before args0 about1 = true := code_word (m := ⟨18, 4⟩) (meth := k18m4) (c := k18c4) (by decide +kernel) rfl rfl rfl (by decide +kernel)
set_option maxRecDepth 65536 in
theorem w_c24 : (Jvm.Cond.code ({ cls := "java/lang/String", name := "startsWith", desc := "(Ljava/lang/String;)Z" } : Jvm.MethodName) jdk_42_method_76_code (2 : Nat) (Option.some Jvm.ClassFile.FieldType.boolean)).before args0 about1 = true := code_word (m := ⟨8, 4⟩) (meth := k8m4) (c := k8c4) (by decide +kernel) rfl rfl rfl (by decide +kernel)
set_option maxRecDepth 65536 in
theorem w_c25 : (Jvm.Cond.code ({ cls := "java/lang/String", name := "startsWith", desc := "(Ljava/lang/String;I)Z" } : Jvm.MethodName) jdk_42_method_75_code (8 : Nat) (Option.some Jvm.ClassFile.FieldType.boolean)).before args0 about1 = true := code_word (m := ⟨8, 3⟩) (meth := k8m3) (c := k8c3) (by decide +kernel) rfl rfl rfl (by decide +kernel)
set_option maxRecDepth 65536 in
theorem w_c26 : (Jvm.Cond.code ({ cls := "java/lang/String", name := "length", desc := "()I" } : Jvm.MethodName) jdk_42_method_54_code (1 : Nat) (Option.some Jvm.ClassFile.FieldType.int)).before args0 about1 = true := code_word (m := ⟨8, 1⟩) (meth := k8m1) (c := k8c1) (by decide +kernel) rfl rfl rfl (by decide +kernel)
set_option maxRecDepth 65536 in
theorem w_c27 : (Jvm.Cond.code ({ cls := "java/lang/String", name := "coder", desc := "()B" } : Jvm.MethodName) jdk_42_method_152_code (1 : Nat) (Option.some Jvm.ClassFile.FieldType.byte)).before args0 about1 = true := code_word (m := ⟨8, 7⟩) (meth := k8m7) (c := k8c7) (by decide +kernel) rfl rfl rfl (by decide +kernel)
set_option maxRecDepth 65536 in
theorem w_c28 : (Jvm.Cond.code ({ cls := "java/lang/String", name := "equals", desc := "(Ljava/lang/Object;)Z" } : Jvm.MethodName) jdk_42_method_66_code (3 : Nat) (Option.some Jvm.ClassFile.FieldType.boolean)).before args0 about1 = true := code_word (m := ⟨8, 2⟩) (meth := k8m2) (c := k8c2) (by decide +kernel) rfl rfl rfl (by decide +kernel)
set_option maxRecDepth 65536 in
theorem w_c29 : (Jvm.Cond.code ({ cls := "java/lang/StringUTF16", name := "toBytes", desc := "(C)[B" } : Jvm.MethodName) jdk_52_method_24_code (2 : Nat) (Option.some (Jvm.ClassFile.FieldType.array Jvm.ClassFile.FieldType.byte))).before args0 about1 = true := code_word (m := ⟨25, 2⟩) (meth := k25m2) (c := k25c2) (by decide +kernel) rfl rfl rfl (by decide +kernel)
set_option maxRecDepth 65536 in
theorem w_c30 : (Jvm.Cond.code ({ cls := "java/lang/StringUTF16", name := "putChar", desc := "([BII)V" } : Jvm.MethodName) jdk_52_method_4_code (3 : Nat) (Option.none : Option Jvm.ClassFile.FieldType)).before args0 about1 = true := code_word (m := ⟨25, 1⟩) (meth := k25m1) (c := k25c1) (by decide +kernel) rfl rfl rfl (by decide +kernel)
def codes1 : List Jvm.Cond := [Jvm.Cond.code x code maxLocals ret, Jvm.Cond.code ({ cls := "java/lang/Math", name := "min", desc := "(II)I" } : Jvm.MethodName) jdk_29_method_69_code (2 : Nat) (Option.some Jvm.ClassFile.FieldType.int), Jvm.Cond.code ({ cls := "java/lang/Math", name := "max", desc := "(II)I" } : Jvm.MethodName) jdk_29_method_65_code (2 : Nat) (Option.some Jvm.ClassFile.FieldType.int), Jvm.Cond.code ({ cls := "java/lang/String", name := "valueOf", desc := "(C)Ljava/lang/String;" } : Jvm.MethodName) jdk_42_method_139_code (1 : Nat) (Option.some (Jvm.ClassFile.FieldType.object "java/lang/String")), Jvm.Cond.code ({ cls := "java/lang/StringLatin1", name := "canEncode", desc := "(C)Z" } : Jvm.MethodName) jdk_43_method_3_code (1 : Nat) (Option.some Jvm.ClassFile.FieldType.boolean), Jvm.Cond.code ({ cls := "java/lang/StringLatin1", name := "toBytes", desc := "(C)[B" } : Jvm.MethodName) jdk_43_method_46_code (1 : Nat) (Option.some (Jvm.ClassFile.FieldType.array Jvm.ClassFile.FieldType.byte)), Jvm.Cond.code ({ cls := "java/lang/String", name := "<init>", desc := "([BB)V" } : Jvm.MethodName) jdk_42_method_151_code (3 : Nat) (Option.none : Option Jvm.ClassFile.FieldType), Jvm.Cond.code ({ cls := "java/lang/Object", name := "<init>", desc := "()V" } : Jvm.MethodName) object_method_1_code (1 : Nat) (Option.none : Option Jvm.ClassFile.FieldType), Jvm.Cond.code ({ cls := "java/util/ArrayList", name := "<init>", desc := "()V" } : Jvm.MethodName) jdk_38_method_2_code (1 : Nat) (Option.none : Option Jvm.ClassFile.FieldType), Jvm.Cond.code ({ cls := "java/util/AbstractList", name := "<init>", desc := "()V" } : Jvm.MethodName) jdk_39_method_1_code (1 : Nat) (Option.none : Option Jvm.ClassFile.FieldType), Jvm.Cond.code ({ cls := "java/util/AbstractCollection", name := "<init>", desc := "()V" } : Jvm.MethodName) jdk_22_method_1_code (1 : Nat) (Option.none : Option Jvm.ClassFile.FieldType), Jvm.Cond.code ({ cls := "com/example/hashtory/hashtory/Arguments", name := "<init>", desc := "(Ljava/util/List;Ljava/util/Set;)V" } : Jvm.MethodName) prog_1_method_1_code (5 : Nat) (Option.none : Option Jvm.ClassFile.FieldType), Jvm.Cond.code ({ cls := "java/util/HashMap", name := "<init>", desc := "()V" } : Jvm.MethodName) jdk_69_method_7_code (1 : Nat) (Option.none : Option Jvm.ClassFile.FieldType), Jvm.Cond.code ({ cls := "java/util/AbstractMap", name := "<init>", desc := "()V" } : Jvm.MethodName) jdk_71_method_1_code (1 : Nat) (Option.none : Option Jvm.ClassFile.FieldType), Jvm.Cond.code ({ cls := "java/util/ArrayList", name := "size", desc := "()I" } : Jvm.MethodName) jdk_38_method_8_code (1 : Nat) (Option.some Jvm.ClassFile.FieldType.int), Jvm.Cond.code ({ cls := "com/example/hashtory/hashtory/Arguments", name := "positionals", desc := "(Ljava/util/List;I)Ljava/util/List;" } : Jvm.MethodName) prog_1_method_4_code (3 : Nat) (Option.some (Jvm.ClassFile.FieldType.object "java/util/List")), Jvm.Cond.code ({ cls := "java/util/ArrayList", name := "add", desc := "(Ljava/lang/Object;)Z" } : Jvm.MethodName) jdk_38_method_25_code (2 : Nat) (Option.some Jvm.ClassFile.FieldType.boolean), Jvm.Cond.code ({ cls := "java/util/ArrayList", name := "add", desc := "(Ljava/lang/Object;[Ljava/lang/Object;I)V" } : Jvm.MethodName) jdk_38_method_24_code (4 : Nat) (Option.none : Option Jvm.ClassFile.FieldType), Jvm.Cond.code ({ cls := "java/util/ArrayList", name := "grow", desc := "()[Ljava/lang/Object;" } : Jvm.MethodName) jdk_38_method_7_code (1 : Nat) (Option.some (Jvm.ClassFile.FieldType.array (Jvm.ClassFile.FieldType.object "java/lang/Object"))), Jvm.Cond.code ({ cls := "java/util/ArrayList", name := "grow", desc := "(I)[Ljava/lang/Object;" } : Jvm.MethodName) jdk_38_method_6_code (4 : Nat) (Option.some (Jvm.ClassFile.FieldType.array (Jvm.ClassFile.FieldType.object "java/lang/Object"))), Jvm.Cond.code ({ cls := "java/util/ArrayList", name := "get", desc := "(I)Ljava/lang/Object;" } : Jvm.MethodName) jdk_38_method_20_code (2 : Nat) (Option.some (Jvm.ClassFile.FieldType.object "java/lang/Object")), Jvm.Cond.code ({ cls := "java/util/Objects", name := "checkIndex", desc := "(II)I" } : Jvm.MethodName) jdk_31_method_17_code (2 : Nat) (Option.some Jvm.ClassFile.FieldType.int), Jvm.Cond.code ({ cls := "jdk/internal/util/Preconditions", name := "checkIndex", desc := "(IILjava/util/function/BiFunction;)I" } : Jvm.MethodName) jdk_41_method_11_code (3 : Nat) (Option.some Jvm.ClassFile.FieldType.int), Jvm.Cond.code ({ cls := "java/util/ArrayList", name := "elementData", desc := "(I)Ljava/lang/Object;" } : Jvm.MethodName) jdk_38_method_18_code (2 : Nat) (Option.some (Jvm.ClassFile.FieldType.object "java/lang/Object")), Jvm.Cond.code ({ cls := "java/lang/String", name := "startsWith", desc := "(Ljava/lang/String;)Z" } : Jvm.MethodName) jdk_42_method_76_code (2 : Nat) (Option.some Jvm.ClassFile.FieldType.boolean), Jvm.Cond.code ({ cls := "java/lang/String", name := "startsWith", desc := "(Ljava/lang/String;I)Z" } : Jvm.MethodName) jdk_42_method_75_code (8 : Nat) (Option.some Jvm.ClassFile.FieldType.boolean), Jvm.Cond.code ({ cls := "java/lang/String", name := "length", desc := "()I" } : Jvm.MethodName) jdk_42_method_54_code (1 : Nat) (Option.some Jvm.ClassFile.FieldType.int), Jvm.Cond.code ({ cls := "java/lang/String", name := "coder", desc := "()B" } : Jvm.MethodName) jdk_42_method_152_code (1 : Nat) (Option.some Jvm.ClassFile.FieldType.byte), Jvm.Cond.code ({ cls := "java/lang/String", name := "equals", desc := "(Ljava/lang/Object;)Z" } : Jvm.MethodName) jdk_42_method_66_code (3 : Nat) (Option.some Jvm.ClassFile.FieldType.boolean), Jvm.Cond.code ({ cls := "java/lang/StringUTF16", name := "toBytes", desc := "(C)[B" } : Jvm.MethodName) jdk_52_method_24_code (2 : Nat) (Option.some (Jvm.ClassFile.FieldType.array Jvm.ClassFile.FieldType.byte)), Jvm.Cond.code ({ cls := "java/lang/StringUTF16", name := "putChar", desc := "([BII)V" } : Jvm.MethodName) jdk_52_method_4_code (3 : Nat) (Option.none : Option Jvm.ClassFile.FieldType)]
set_option maxRecDepth 65536 in
theorem codes_eq : words1.filter isCode = codes1 := rfl
theorem w_codes : ∀ c ∈ words1.filter isCode, c.before args0 about1 = true := by
  rw [codes_eq]
  intro c hc
  simp only [codes1, List.mem_cons, List.not_mem_nil, or_false] at hc
  rcases hc with rfl | rfl | rfl | rfl | rfl | rfl | rfl | rfl | rfl | rfl | rfl | rfl | rfl | rfl | rfl | rfl | rfl | rfl | rfl | rfl | rfl | rfl | rfl | rfl | rfl | rfl | rfl | rfl | rfl | rfl | rfl
  · exact w_c0
  · exact w_c1
  · exact w_c2
  · exact w_c3
  · exact w_c4
  · exact w_c5
  · exact w_c6
  · exact w_c7
  · exact w_c8
  · exact w_c9
  · exact w_c10
  · exact w_c11
  · exact w_c12
  · exact w_c13
  · exact w_c14
  · exact w_c15
  · exact w_c16
  · exact w_c17
  · exact w_c18
  · exact w_c19
  · exact w_c20
  · exact w_c21
  · exact w_c22
  · exact w_c23
  · exact w_c24
  · exact w_c25
  · exact w_c26
  · exact w_c27
  · exact w_c28
  · exact w_c29
  · exact w_c30
set_option maxRecDepth 65536 in
theorem w_t1 : (words1.take 24).all (fun c => isCode c || c.before args0 about1) = true := by decide +kernel
set_option maxRecDepth 65536 in
theorem w_t2 : ((words1.drop 24).take 24).all (fun c => isCode c || c.before args0 about1) = true := by decide +kernel
set_option maxRecDepth 65536 in
theorem w_t3 : (((words1.drop 24).drop 24).take 24).all (fun c => isCode c || c.before args0 about1) = true := by decide +kernel
set_option maxRecDepth 65536 in
theorem w_t4 : ((((words1.drop 24).drop 24).drop 24).take 24).all (fun c => isCode c || c.before args0 about1) = true := by decide +kernel
set_option maxRecDepth 65536 in
theorem w_t5 : (((((words1.drop 24).drop 24).drop 24).drop 24).take 24).all (fun c => isCode c || c.before args0 about1) = true := by decide +kernel
set_option maxRecDepth 65536 in
theorem w_t6 : ((((((words1.drop 24).drop 24).drop 24).drop 24).drop 24).take 24).all (fun c => isCode c || c.before args0 about1) = true := by decide +kernel
set_option maxRecDepth 65536 in
theorem w_t7 : (((((((words1.drop 24).drop 24).drop 24).drop 24).drop 24).drop 24).take 24).all (fun c => isCode c || c.before args0 about1) = true := by decide +kernel
set_option maxRecDepth 65536 in
theorem w_t8 : ((((((((words1.drop 24).drop 24).drop 24).drop 24).drop 24).drop 24).drop 24).take 24).all (fun c => isCode c || c.before args0 about1) = true := by decide +kernel
set_option maxRecDepth 65536 in
theorem w_t9 : ((((((((words1.drop 24).drop 24).drop 24).drop 24).drop 24).drop 24).drop 24).drop 24).all (fun c => isCode c || c.before args0 about1) = true := by decide +kernel
theorem w_tables : (allAtoms (Jvm.Cond.code x code maxLocals ret :: tables_1)).before args0 about1 = true := by
  rw [allAtoms_all]
  show words1.all (fun c => c.before args0 about1) = true
  refine all_split ?_ w_codes
  rw [← List.take_append_drop 24 words1, List.all_append, w_t1, ← List.take_append_drop 24 (words1.drop 24), List.all_append, w_t2, ← List.take_append_drop 24 ((words1.drop 24).drop 24), List.all_append, w_t3, ← List.take_append_drop 24 (((words1.drop 24).drop 24).drop 24), List.all_append, w_t4, ← List.take_append_drop 24 ((((words1.drop 24).drop 24).drop 24).drop 24), List.all_append, w_t5, ← List.take_append_drop 24 (((((words1.drop 24).drop 24).drop 24).drop 24).drop 24), List.all_append, w_t6, ← List.take_append_drop 24 ((((((words1.drop 24).drop 24).drop 24).drop 24).drop 24).drop 24), List.all_append, w_t7, ← List.take_append_drop 24 (((((((words1.drop 24).drop 24).drop 24).drop 24).drop 24).drop 24).drop 24), List.all_append, w_t8, w_t9]
  rfl
set_option maxRecDepth 65536 in
theorem w_rest : rest_1_c.before args0 about1 = true := by decide +kernel
set_option maxRecDepth 65536 in
theorem w_case : (Jvm.Cond.and given_1 narrow_1).before args0 about1 = true := by decide +kernel
set_option maxRecDepth 65536 in
theorem w_consts : constsHeld consts_1 about1 := Jvm.Lit.constsHeldB_iff.mp (by decide +kernel)
theorem w_applies : (headSpec (Jvm.Cond.code x code maxLocals ret :: tables_1) room_1).applies x e0.platform about1 = true :=
  (Spec.applies_iff w_frames).mpr ⟨w_running, w_runnable, w_alone, w_named, w_hears, w_ripe, w_room, w_tables⟩
theorem atStart : AtStart classFile x code maxLocals ret World_1 tables_1 room_1 Calls_1 rest_1 Pre_1 launch0 p0 e0 about1 theMethod args0 below0 :=
  ⟨lists_1, trivial, launch0.admits_env _ _ _, launch0.least_env, fairChoices_fair.cas, fairChoices_fair.clock, w_frames, w_args, w_heap, w_applies, ⟨w_consts, trivial⟩, w_rest, w_case⟩
end start1
theorem witness_1 : WitnessClaimed_1 := ⟨start1.p0, start1.e0, start1.about1, start1.theMethod, start1.args0, start1.below0, start1.atStart⟩
end Jvm.Pilot.@@N@@
