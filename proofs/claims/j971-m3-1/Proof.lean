import JvmDerived
import JvmDerived.Pilot.@@N@@Statement
import JvmDerived.Pilot.@@N@@Code
set_option linter.unusedVariables false
set_option linter.unusedSimpArgs false
namespace Jvm.Pilot.@@N@@
open Jvm Jvm.ClassFile Sem Op Lib Jvm.Free Jvm.Stand Jvm.LawKit Jvm.RoadKit Bundle Jvm.Pilot.@@N@@.Jvm.D

section Own
variable {p : Program} {l : Launch} {e : Env} {R : Room} {s : State} {m : MethodId} {args : Array Value} {below : List Frame} {meth : Method} {c : Code} {T : State} {locs : List Loc} {cells slots : Nat} {Qo : Option Value → Heap → List Loc → Prop} {C N : Nat}
/-- the run goes on from U to a return that answers Qo -/
def own_Done (p : Program) (e : Env) (below : List Frame) (s : State) (Qo : Option Value → Heap → List Loc → Prop) (C N : Nat) (U : State) : Prop :=
  ∃ s₂ o, Steps p.tables e below U s₂ ∧ s₂.status = .running ∧ Ended s₂ below o ∧ (∃ v L, o = .returned v ∧ Qo v s₂.heap L ∧ FrameEnd s o s₂ L C N)
theorem own_go {U U' : State} (h : ∀ t, Steps p.tables e below U' t → Steps p.tables e below U t) (d : own_Done p e below s Qo C N U') : own_Done p e below s Qo C N U := by
  obtain ⟨s₂, o, h1, h2⟩ := d
  exact ⟨s₂, o, h _ h1, h2⟩
theorem own_join {U U' : State} (h : own_Done p e below s Qo C N U' → own_Done p e below s Qo C N U) (d : own_Done p e below s Qo C N U') : own_Done p e below s Qo C N U := h d
theorem own_cell {T : State} {h : Heap} {a : Addr} {c : Cell} (e : T.heap = h) (q : h[a]? = some c) : T.heap[a]? = some c := by rw [e]; exact q
theorem own_sta_keep {Z : State} {h h' : Heap} {C n d : String} {v : Value} (F : Sta Z h C n d v) (K : Keep h h' []) : Sta Z h' C n d v := by
  obtain ⟨cf, i, k, f, st, cell, h1, h2, h3, h4, h5, r⟩ := F
  exact ⟨cf, i, k, f, st, cell, h1, h2, h3, h4, K.2.1 st cell h5 (fun q => nomatch q), r⟩
theorem own_at {c : Cell} {z j : Int32} {vs : List Value} {d v : Value} {i : Nat} (S : c.slots.size = z.toNatClampNeg) (H : Has c vs d) (q : ¬ j < 0 ∧ j < z) (hj : j.toNatClampNeg = i) (hv : vs.getD i d = v) : c.slots[j.toNatClampNeg]? = some v := by
  have h := inb_of S q
  rw [H _ (Nat.lt_of_not_le fun k => h (Or.inr k)), hj, hv]
/-- an array of ints, bytes, chars .. by what its places hold -/
def own_Arf (Z : State) (h : Heap) (a : Addr) (k : ClassId) (ty : FieldType) (n : Int32) (f : Int32 → Int32) : Prop :=
  ∃ c : Cell, Arr Z h a c ty ∧ c.cls = k ∧ c.slots.size = n.toNatClampNeg ∧ ¬ n < 0 ∧ ∀ j : Int32, ¬ j < 0 → j < n → c.slots[j.toNatClampNeg]? = some (.int (f j))
section Arf
variable {Z : State} {h h' : Heap} {a b : Addr} {k : ClassId} {ty : FieldType} {n : Int32} {f : Int32 → Int32}
theorem own_Arf.lt (F : own_Arf Z h a k ty n f) : a < h.size := by obtain ⟨c, A, -⟩ := F; exact A.lt
theorem own_Arf.ext (F : own_Arf Z h a k ty n f) (E : Ext h h') : own_Arf Z h' a k ty n f := by obtain ⟨c, A, r⟩ := F; exact ⟨c, A.ext E, r⟩
theorem own_Arf.other {sl : Nat} {v : Value} (F : own_Arf Z h b k ty n f) (W : Wr h h' a sl v) (q : b ≠ a) : own_Arf Z h' b k ty n f := by obtain ⟨c, A, r⟩ := F; exact ⟨c, A.other W q, r⟩
theorem own_Arf.keep {ws : List Addr} (F : own_Arf Z h a k ty n f) (K : Keep h h' ws) (q : a ∉ ws) : own_Arf Z h' a k ty n f := by obtain ⟨c, A, r⟩ := F; exact ⟨c, ⟨K.2.1 a c A.1 q, A.2⟩, r⟩
theorem own_Arf.new (A : Arr Z h a (newA k ty n) ty) (q : ¬ n < 0) (hd : defaultValue ty = .int 0) : own_Arf Z h a k ty n (fun _ => (0 : Int32)) :=
  ⟨_, A, rfl, sz_new _ _ _, q, fun j h1 h2 => by
    have h3 := inb_of (sz_new k ty n) (z := n) (j := j) ⟨h1, h2⟩
    rw [sz_new] at h3
    rw [get_new h3, hd]⟩
theorem own_Arf.set {c : Cell} {j v : Int32} (A : Arr Z h a c ty) (q1 : c.cls = k) (S : c.slots.size = n.toNatClampNeg) (q3 : ¬ n < 0) (H : ∀ j : Int32, ¬ j < 0 → j < n → c.slots[j.toNatClampNeg]? = some (.int (f j))) (hj : ¬ j < 0 ∧ j < n) (W : Wr h h' a j.toNatClampNeg (.int v)) :
    own_Arf Z h' a k ty n (fun i => if i = j then v else f i) :=
  ⟨c.setSlot j.toNatClampNeg (.int v), A.same W, q1, by rw [sz_set]; exact S, q3, fun i h1 h2 => by
    by_cases e : i = j
    · rw [get_hit (inb_of S hj) e]; simp only [if_pos e]
    · rw [get_miss hj.1 h1 e, H i h1 h2]; simp only [if_neg e]⟩
end Arf
theorem own_ret (X : Stand p l e R s m args below meth c T locs cells slots) {v : Option Value} {g : JFrame} (hlk : meth.locks = false) (hv : meth.sig.returnType = none → v = none) (hC : cells ≤ C) (hN : slots ≤ N)
    (st : ∀ fs, (∀ (f : JFrame) (acts : List Action), f.method = m → f.locked = none → f.entered = [] → (doReturn e (T.setTop f) acts v).1 = T.setFrames fs) → Steps p.tables e below (T.setTop g) (T.setFrames fs)) (hQ : Qo v T.heap locs) : own_Done p e below s Qo C N (T.setTop g) := by
  obtain ⟨fs, hr, hrun, hended, hW, hsame⟩ := X.leave (v := v) hv hlk
  exact ⟨_, _, st fs hr, hrun, hended, _, _, rfl, hQ, ⟨_, rfl⟩, hW, hsame.mono hC hN⟩
theorem own_retI (X : Stand p l e R s m args below meth c T locs cells slots) (hx : p.tables.exec = Jvm.exec) {pc : Nat} {Ls : Array Slot} {z : Int32} {rest : List Value} (hret : meth.sig.returnType = some .int) (hd : decode c.code pc = .ok (.ireturn, 1)) {fs : List Frame}
    (hl : ∀ (f : JFrame) (acts : List Action), f.method = m → f.locked = none → f.entered = [] → (doReturn e (T.setTop f) acts (some (.int z))).1 = T.setFrames fs) : Steps p.tables e below (T.setTop (mkF m pc Ls (.int z :: rest))) (T.setFrames fs) := by
  exact retOut X hx hret rfl (Or.inl ⟨rfl, Or.inl rfl, z, rfl⟩) hd hl
theorem own_retJ (X : Stand p l e R s m args below meth c T locs cells slots) (hx : p.tables.exec = Jvm.exec) {pc : Nat} {Ls : Array Slot} {z : Int64} {rest : List Value} (hret : meth.sig.returnType = some .long) (hd : decode c.code pc = .ok (.lreturn, 1)) {fs : List Frame}
    (hl : ∀ (f : JFrame) (acts : List Action), f.method = m → f.locked = none → f.entered = [] → (doReturn e (T.setTop f) acts (some (.long z))).1 = T.setFrames fs) : Steps p.tables e below (T.setTop (mkF m pc Ls (.long z :: rest))) (T.setFrames fs) := by
  exact retOut X hx hret rfl (Or.inr (Or.inl ⟨rfl, rfl, z, rfl⟩)) hd hl
theorem own_retR (X : Stand p l e R s m args below meth c T locs cells slots) (hx : p.tables.exec = Jvm.exec) {pc : Nat} {Ls : Array Slot} {w : Value} {t : FieldType} {rest : List Value} (hret : meth.sig.returnType = some t) (ht : t.isReference = true) (hw : w.isRef = true) (hn : narrow t w = w) (hd : decode c.code pc = .ok (.areturn, 1)) {fs : List Frame}
    (hl : ∀ (f : JFrame) (acts : List Action), f.method = m → f.locked = none → f.entered = [] → (doReturn e (T.setTop f) acts (some w)).1 = T.setFrames fs) : Steps p.tables e below (T.setTop (mkF m pc Ls (w :: rest))) (T.setFrames fs) := by
  exact retOut X hx hret hn (Or.inr (Or.inr (Or.inr (Or.inr ⟨rfl, ht, hw⟩)))) hd hl
/-- the same where Strings may be interned meanwhile -/
def own_DoneW (p : Program) (e : Env) (below : List Frame) (s : State) (Z : State) (EL : List (String × Nat)) (Qo : Option Value → Heap → List Loc → Prop) (C N : Nat) (U : State) : Prop :=
  ∃ s₂ o, Steps p.tables e below U s₂ ∧ s₂.status = .running ∧ Ended s₂ below o ∧ (∃ v L, o = .returned v ∧ Qo v s₂.heap L ∧ CHr Z EL s.vm s.heap s₂.vm s₂.heap ∧ ReturnedEndW s o s₂ L C N)
theorem own_goW {Z : State} {EL : List (String × Nat)} {U U' : State} (h : ∀ t, Steps p.tables e below U' t → Steps p.tables e below U t) (d : own_DoneW p e below s Z EL Qo C N U') : own_DoneW p e below s Z EL Qo C N U := by
  obtain ⟨s₂, o, h1, h2⟩ := d
  exact ⟨s₂, o, h _ h1, h2⟩
theorem own_joinW {Z : State} {EL : List (String × Nat)} {U U' : State} (h : own_DoneW p e below s Z EL Qo C N U' → own_DoneW p e below s Z EL Qo C N U) (d : own_DoneW p e below s Z EL Qo C N U') : own_DoneW p e below s Z EL Qo C N U := h d
theorem own_retW {Z : State} {EL : List (String × Nat)} {vm₁ : Vm} (X : Stand p l e R (s.setVm vm₁) m args below meth c T locs cells slots) {n : Nat} (hS : s.Since vm₁ n) (hn : n ≤ T.heap.size) (hC : CHr Z EL s.vm s.heap T.vm T.heap) {v : Option Value} {g : JFrame} (hlk : meth.locks = false) (hv : meth.sig.returnType = none → v = none) (hCc : cells ≤ C) (hN : slots ≤ N)
    (st : ∀ fs, (∀ (f : JFrame) (acts : List Action), f.method = m → f.locked = none → f.entered = [] → (doReturn e (T.setTop f) acts v).1 = T.setFrames fs) → Steps p.tables e below (T.setTop g) (T.setFrames fs)) (hQ : Qo v T.heap locs) : own_DoneW p e below s Z EL Qo C N (T.setTop g) := by
  obtain ⟨fs, hr, hrun, hended, hE⟩ := X.leaveW hS hn (v := v) hv hlk
  exact ⟨_, _, st fs hr, hrun, hended, _, _, rfl, hQ, hC, hE.1, hE.2.1, hE.2.2.1, hE.2.2.2.mono hCc hN⟩
end Own

theorem d4_0 : decode jdk_42_method_154_code 0 = .ok (.getstatic 38, 3) := by decide +kernel
theorem d4_3 : decode jdk_42_method_154_code 3 = .ok (.ifCond .eq 14, 3) := by decide +kernel
theorem d4_6 : decode jdk_42_method_154_code 6 = .ok (.aload_n 0, 1) := by decide +kernel
theorem d4_7 : decode jdk_42_method_154_code 7 = .ok (.getfield 15, 3) := by decide +kernel
theorem d4_10 : decode jdk_42_method_154_code 10 = .ok (.ifCond .ne 7, 3) := by decide +kernel
theorem d4_13 : decode jdk_42_method_154_code 13 = .ok (.iconst 1, 1) := by decide +kernel
theorem d4_14 : decode jdk_42_method_154_code 14 = .ok (.goto 4, 3) := by decide +kernel
theorem d4_18 : decode jdk_42_method_154_code 18 = .ok (.ireturn, 1) := by decide +kernel
theorem own_pn0 : plainName "java/lang/String" = true := by first | (simp [plainName, overriddenIn]; done) | decide +kernel
theorem own_ef4 (m : MethodId) (x0 : Addr) : entryFrame m #[(.ref x0)] 1 = mkF m 0 #[.val (.ref x0)] [] := by first | (simp [entryFrame, mkF, argsToLocals, Value.category]; done) | rfl
def Q4 (Z : State) (a0 : Addr) (cs : Int32) (h0 : Heap) (n0 : Nat) (v : Option Value) (h : Heap) (L : List Loc) : Prop := v = some (.int (1 : Int32)) ∧ Fr n0 L ∧ h = h0
set_option maxRecDepth 65536 in
set_option maxHeartbeats 40000000 in
theorem rm4 (l : Launch) (Z : State) (aw : Array Value) (hw : ∀ d ∈ tables_1, d.before aw Z = true) (ws : List Jvm.Cond) (a0 : Addr) (cs : Int32) (h0 : Heap) (n0 : Nat) (Z0 : n0 ≤ h0.size) (S_cs : Sta Z h0 "java/lang/String" "COMPACT_STRINGS" "Z" (.int cs)) (F_c : Fld Z h0 a0 "java/lang/String" "coder" "B" (.int (0 : Int32))) (hcs : ¬ (cs = (0 : Int32))) :
    MetFree l (⟨"java/lang/String", "isLatin1", "()Z"⟩ : MethodName) (head1 (Jvm.Cond.code (⟨"java/lang/String", "isLatin1", "()Z"⟩ : MethodName) jdk_42_method_154_code 1 (some .boolean) :: ws) ({ frames := 0, cells := 0, slots := 0, locals := 0 } : Room)) (fun a U => a = #[(.ref a0)] ∧ Z.Warmed39 U.vm ∧ U.heap = h0) (fun _ _ _ _ _ => True) (fun _ U o U' => ∃ v L, o = .returned v ∧ (Q4 Z a0 cs h0 n0) v U'.heap L ∧ FrameEnd U o U' L ({ frames := 0, cells := 0, slots := 0, locals := 0 } : Room).cells ({ frames := 0, cells := 0, slots := 0, locals := 0 } : Room).slots) := by
  refine MetFree.of_bodySF (plainFor_of_name own_pn0) hisR ?_
  intro p e s m args below meth c s₁ Bd hml0 hP hK
  obtain ⟨rfl, hZ, hh⟩ := hP
  have hx := Bd.exec
  have hby := Bd.bytes
  have hml : c.maxLocals = 1 := hml0
  have hown : s.vm.findClass "java/lang/String" = some m.cls := findClass_of_methodNamed Bd.named
  have hnm := (name_of_methodNamed Bd.named Bd.method).1
  have hlk : meth.locks = false := BodyLoose.notSynchronized (by assumption)
  have X0 : Stand p l e ({ frames := 0, cells := 0, slots := 0, locals := 0 } : Room) s m #[(.ref a0)] below meth c s₁ [] 0 0 := Stand.of_body Bd
  have e0 : s₁.heap = h0 := by rw [← hh, Bd.state]; rfl
  have N0 := Fr.nil n0
  show own_Done p e below s (Q4 Z a0 cs h0 n0) ({ frames := 0, cells := 0, slots := 0, locals := 0 } : Room).cells ({ frames := 0, cells := 0, slots := 0, locals := 0 } : Room).slots (s₁.setTop (entryFrame m #[(.ref a0)] 1))
  refine own_go (U' := s₁.setTop (mkF m 0 #[.val (.ref a0)] [])) (fun _ k => castTop (own_ef4 m a0) k) ?_
  obtain ⟨T1, X1, e1, st1⟩ := getS2 X0 hx hZ hown (host := "") (Or.inl (hw _ (List.mem_of_getElem? (i := 27) rfl))) Via.refl e0 S_cs (g := (mkF m 0 #[.val (.ref a0)] [])) rfl (hb hby d4_0)
  refine own_go (U' := T1.setTop (mkF m 3 #[.val (.ref a0)] [(.int cs)])) (fun _ k => st1 _ k) ?_
  refine own_go (U' := T1.setTop (mkF m 6 #[.val (.ref a0)] [])) (fun _ k => XS.ifNo X1.here hx rfl (hb hby d4_3) rfl ((if0 _ _).trans (feq hcs).1) k) ?_
  refine own_go (U' := T1.setTop (mkF m 7 #[.val (.ref a0)] [(.ref a0)])) (fun _ k => XS.aloadN X1.here hx rfl (hb hby d4_6) rfl rfl k) ?_
  obtain ⟨T2, X2, e2, st2⟩ := getF X1 hx hZ hown (host := "") (Or.inl (hw _ (List.mem_of_getElem? (i := 28) rfl))) Via.refl e1 F_c (g := (mkF m 7 #[.val (.ref a0)] [(.ref a0)])) rfl rfl (hb hby d4_7)
  refine own_go (U' := T2.setTop (mkF m 10 #[.val (.ref a0)] [(.int (0 : Int32))])) (fun _ k => st2 _ k) ?_
  refine own_go (U' := T2.setTop (mkF m 13 #[.val (.ref a0)] [])) (fun _ k => XS.ifNo X2.here hx rfl (hb hby d4_10) rfl ((if0 _ _).trans (teq (by decide : ((0 : Int32) = (0 : Int32)))).2) k) ?_
  refine own_go (U' := T2.setTop (mkF m 14 #[.val (.ref a0)] [(.int (1 : Int32))])) (fun _ k => XS.iconst X2.here hx rfl (hb hby d4_13) k) ?_
  refine own_go (U' := T2.setTop (mkF m 18 #[.val (.ref a0)] [(.int (1 : Int32))])) (fun _ k => XS.goto X2.here hx rfl (pc0 := 14) (pc' := 18) rfl (hb hby d4_14) (by decide) (by decide) k) ?_
  refine own_ret X2 (v := (some (.int (1 : Int32)))) hlk (fun h => by rw [Bd.returns] at h; cases h) (by decide) (by decide) (fun fs hr => retN X2 hx (t := .boolean) Bd.returns (by simp) (hb hby d4_18) hr) ?_
  show (Q4 Z a0 cs h0 n0) _ T2.heap _
  rw [e2]
  exact ⟨by first | rfl | decide, N0, rfl⟩
theorem d6_0 : decode jdk_42_method_152_code 0 = .ok (.getstatic 38, 3) := by decide +kernel
theorem d6_3 : decode jdk_42_method_152_code 3 = .ok (.ifCond .eq 10, 3) := by decide +kernel
theorem d6_6 : decode jdk_42_method_152_code 6 = .ok (.aload_n 0, 1) := by decide +kernel
theorem d6_7 : decode jdk_42_method_152_code 7 = .ok (.getfield 15, 3) := by decide +kernel
theorem d6_10 : decode jdk_42_method_152_code 10 = .ok (.goto 4, 3) := by decide +kernel
theorem d6_14 : decode jdk_42_method_152_code 14 = .ok (.ireturn, 1) := by decide +kernel
theorem own_ef6 (m : MethodId) (x0 : Addr) : entryFrame m #[(.ref x0)] 1 = mkF m 0 #[.val (.ref x0)] [] := by first | (simp [entryFrame, mkF, argsToLocals, Value.category]; done) | rfl
def Q6 (Z : State) (a0 : Addr) (cs : Int32) (h0 : Heap) (n0 : Nat) (v : Option Value) (h : Heap) (L : List Loc) : Prop := v = some (.int (0 : Int32)) ∧ Fr n0 L ∧ h = h0
set_option maxRecDepth 65536 in
set_option maxHeartbeats 40000000 in
theorem rm6 (l : Launch) (Z : State) (aw : Array Value) (hw : ∀ d ∈ tables_1, d.before aw Z = true) (ws : List Jvm.Cond) (a0 : Addr) (cs : Int32) (h0 : Heap) (n0 : Nat) (Z0 : n0 ≤ h0.size) (S_cs : Sta Z h0 "java/lang/String" "COMPACT_STRINGS" "Z" (.int cs)) (F_c : Fld Z h0 a0 "java/lang/String" "coder" "B" (.int (0 : Int32))) (hcs : ¬ (cs = (0 : Int32))) :
    MetFree l (⟨"java/lang/String", "coder", "()B"⟩ : MethodName) (head1 (Jvm.Cond.code (⟨"java/lang/String", "coder", "()B"⟩ : MethodName) jdk_42_method_152_code 1 (some .byte) :: ws) ({ frames := 0, cells := 0, slots := 0, locals := 0 } : Room)) (fun a U => a = #[(.ref a0)] ∧ Z.Warmed39 U.vm ∧ U.heap = h0) (fun _ _ _ _ _ => True) (fun _ U o U' => ∃ v L, o = .returned v ∧ (Q6 Z a0 cs h0 n0) v U'.heap L ∧ FrameEnd U o U' L ({ frames := 0, cells := 0, slots := 0, locals := 0 } : Room).cells ({ frames := 0, cells := 0, slots := 0, locals := 0 } : Room).slots) := by
  refine MetFree.of_bodySF (plainFor_of_name own_pn0) hisR ?_
  intro p e s m args below meth c s₁ Bd hml0 hP hK
  obtain ⟨rfl, hZ, hh⟩ := hP
  have hx := Bd.exec
  have hby := Bd.bytes
  have hml : c.maxLocals = 1 := hml0
  have hown : s.vm.findClass "java/lang/String" = some m.cls := findClass_of_methodNamed Bd.named
  have hnm := (name_of_methodNamed Bd.named Bd.method).1
  have hlk : meth.locks = false := BodyLoose.notSynchronized (by assumption)
  have X0 : Stand p l e ({ frames := 0, cells := 0, slots := 0, locals := 0 } : Room) s m #[(.ref a0)] below meth c s₁ [] 0 0 := Stand.of_body Bd
  have e0 : s₁.heap = h0 := by rw [← hh, Bd.state]; rfl
  have N0 := Fr.nil n0
  show own_Done p e below s (Q6 Z a0 cs h0 n0) ({ frames := 0, cells := 0, slots := 0, locals := 0 } : Room).cells ({ frames := 0, cells := 0, slots := 0, locals := 0 } : Room).slots (s₁.setTop (entryFrame m #[(.ref a0)] 1))
  refine own_go (U' := s₁.setTop (mkF m 0 #[.val (.ref a0)] [])) (fun _ k => castTop (own_ef6 m a0) k) ?_
  obtain ⟨T3, X3, e3, st3⟩ := getS2 X0 hx hZ hown (host := "") (Or.inl (hw _ (List.mem_of_getElem? (i := 27) rfl))) Via.refl e0 S_cs (g := (mkF m 0 #[.val (.ref a0)] [])) rfl (hb hby d6_0)
  refine own_go (U' := T3.setTop (mkF m 3 #[.val (.ref a0)] [(.int cs)])) (fun _ k => st3 _ k) ?_
  refine own_go (U' := T3.setTop (mkF m 6 #[.val (.ref a0)] [])) (fun _ k => XS.ifNo X3.here hx rfl (hb hby d6_3) rfl ((if0 _ _).trans (feq hcs).1) k) ?_
  refine own_go (U' := T3.setTop (mkF m 7 #[.val (.ref a0)] [(.ref a0)])) (fun _ k => XS.aloadN X3.here hx rfl (hb hby d6_6) rfl rfl k) ?_
  obtain ⟨T4, X4, e4, st4⟩ := getF X3 hx hZ hown (host := "") (Or.inl (hw _ (List.mem_of_getElem? (i := 28) rfl))) Via.refl e3 F_c (g := (mkF m 7 #[.val (.ref a0)] [(.ref a0)])) rfl rfl (hb hby d6_7)
  refine own_go (U' := T4.setTop (mkF m 10 #[.val (.ref a0)] [(.int (0 : Int32))])) (fun _ k => st4 _ k) ?_
  refine own_go (U' := T4.setTop (mkF m 14 #[.val (.ref a0)] [(.int (0 : Int32))])) (fun _ k => XS.goto X4.here hx rfl (pc0 := 10) (pc' := 14) rfl (hb hby d6_10) (by decide) (by decide) k) ?_
  refine own_ret X4 (v := (some (.int (nar .byte (0 : Int32))))) hlk (fun h => by rw [Bd.returns] at h; cases h) (by decide) (by decide) (fun fs hr => retN X4 hx (t := .byte) Bd.returns (by simp) (hb hby d6_14) hr) ?_
  show (Q6 Z a0 cs h0 n0) _ T4.heap _
  rw [e4]
  exact ⟨by first | rfl | decide, N0, rfl⟩
theorem d5_0 : decode jdk_42_method_54_code 0 = .ok (.aload_n 0, 1) := by decide +kernel
theorem d5_1 : decode jdk_42_method_54_code 1 = .ok (.getfield 9, 3) := by decide +kernel
theorem d5_4 : decode jdk_42_method_54_code 4 = .ok (.arraylength, 1) := by decide +kernel
theorem d5_5 : decode jdk_42_method_54_code 5 = .ok (.aload_n 0, 1) := by decide +kernel
theorem d5_6 : decode jdk_42_method_54_code 6 = .ok (.invokevirtual 335, 3) := by decide +kernel
theorem own_pd0 : parseMethodDescriptor "()B" = some ⟨[], some .byte⟩ := by decide +kernel
theorem d5_9 : decode jdk_42_method_54_code 9 = .ok (.ishr, 1) := by decide +kernel
theorem d5_10 : decode jdk_42_method_54_code 10 = .ok (.ireturn, 1) := by decide +kernel
theorem own_ef5 (m : MethodId) (x0 : Addr) : entryFrame m #[(.ref x0)] 1 = mkF m 0 #[.val (.ref x0)] [] := by first | (simp [entryFrame, mkF, argsToLocals, Value.category]; done) | rfl
def Q5 (Z : State) (a0 : Addr) (cs : Int32) (b : Addr) (k1 : ClassId) (h0 : Heap) (n0 : Nat) (v : Option Value) (h : Heap) (L : List Loc) : Prop := v = some (.int (15 : Int32)) ∧ Fr n0 L ∧ h = h0
set_option maxRecDepth 65536 in
set_option maxHeartbeats 40000000 in
theorem rm5 (l : Launch) (Z : State) (aw : Array Value) (hw : ∀ d ∈ tables_1, d.before aw Z = true) (ws : List Jvm.Cond) (a0 : Addr) (cs : Int32) (b : Addr) (k1 : ClassId) (h0 : Heap) (n0 : Nat) (Z0 : n0 ≤ h0.size) (S_cs : Sta Z h0 "java/lang/String" "COMPACT_STRINGS" "Z" (.int cs)) (E_s : Exa Z h0 a0 "java/lang/String") (F_c : Fld Z h0 a0 "java/lang/String" "coder" "B" (.int (0 : Int32))) (F_v : Fld Z h0 a0 "java/lang/String" "value" "[B" (.ref b)) (V_b : Arv Z h0 b k1 .byte (15 : Int32) [(.int (33 : Int32)), (.int (35 : Int32)), (.int (36 : Int32)), (.int (37 : Int32)), (.int (38 : Int32)), (.int (39 : Int32)), (.int (42 : Int32)), (.int (43 : Int32)), (.int (45 : Int32)), (.int (46 : Int32)), (.int (94 : Int32)), (.int (95 : Int32)), (.int (96 : Int32)), (.int (124 : Int32)), (.int (126 : Int32))] (.int (0 : Int32))) (hcs : ¬ (cs = (0 : Int32))) :
    MetFree l (⟨"java/lang/String", "length", "()I"⟩ : MethodName) (head1 (Jvm.Cond.code (⟨"java/lang/String", "length", "()I"⟩ : MethodName) jdk_42_method_54_code 1 (some .int) :: ws) ({ frames := 1, cells := 0, slots := 0, locals := 13 } : Room)) (fun a U => a = #[(.ref a0)] ∧ Z.Warmed39 U.vm ∧ U.heap = h0) (fun _ _ _ _ _ => True) (fun _ U o U' => ∃ v L, o = .returned v ∧ (Q5 Z a0 cs b k1 h0 n0) v U'.heap L ∧ FrameEnd U o U' L ({ frames := 1, cells := 0, slots := 0, locals := 13 } : Room).cells ({ frames := 1, cells := 0, slots := 0, locals := 13 } : Room).slots) := by
  refine MetFree.of_bodySF (plainFor_of_name own_pn0) hisR ?_
  intro p e s m args below meth c s₁ Bd hml0 hP hK
  obtain ⟨rfl, hZ, hh⟩ := hP
  have hx := Bd.exec
  have hby := Bd.bytes
  have hml : c.maxLocals = 1 := hml0
  have hown : s.vm.findClass "java/lang/String" = some m.cls := findClass_of_methodNamed Bd.named
  have hnm := (name_of_methodNamed Bd.named Bd.method).1
  have hlk : meth.locks = false := BodyLoose.notSynchronized (by assumption)
  have X0 : Stand p l e ({ frames := 1, cells := 0, slots := 0, locals := 13 } : Room) s m #[(.ref a0)] below meth c s₁ [] 0 0 := Stand.of_body Bd
  have e0 : s₁.heap = h0 := by rw [← hh, Bd.state]; rfl
  have N0 := Fr.nil n0
  show own_Done p e below s (Q5 Z a0 cs b k1 h0 n0) ({ frames := 1, cells := 0, slots := 0, locals := 13 } : Room).cells ({ frames := 1, cells := 0, slots := 0, locals := 13 } : Room).slots (s₁.setTop (entryFrame m #[(.ref a0)] 1))
  refine own_go (U' := s₁.setTop (mkF m 0 #[.val (.ref a0)] [])) (fun _ k => castTop (own_ef5 m a0) k) ?_
  refine own_go (U' := s₁.setTop (mkF m 1 #[.val (.ref a0)] [(.ref a0)])) (fun _ k => XS.aloadN X0.here hx rfl (hb hby d5_0) rfl rfl k) ?_
  obtain ⟨T5, X5, e5, st5⟩ := getF X0 hx hZ hown (host := "") (Or.inl (hw _ (List.mem_of_getElem? (i := 29) rfl))) Via.refl e0 F_v (g := (mkF m 1 #[.val (.ref a0)] [(.ref a0)])) rfl rfl (hb hby d5_1)
  refine own_go (U' := T5.setTop (mkF m 4 #[.val (.ref a0)] [(.ref b)])) (fun _ k => st5 _ k) ?_
  have V6 := V_b
  obtain ⟨cl6, Ar6, q6, S6, Ng6, Hh6, G6⟩ := V6
  have hl6 := len_of S6 Ng6
  refine own_go (U' := T5.setTop (mkF m 5 #[.val (.ref a0)] [(.int (15 : Int32))])) (fun _ k => X5.arraylength hx (own_cell e5 Ar6.1) (State.isArrayOf_alike hZ.alike Ar6.2.1) (g := (mkF m 4 #[.val (.ref a0)] [(.ref b)])) rfl rfl (hb hby d5_4) _ (by rw [hl6]; exact k)) ?_
  refine own_go (U' := T5.setTop (mkF m 6 #[.val (.ref a0)] [(.ref a0), (.int (15 : Int32))])) (fun _ k => XS.aloadN X5.here hx rfl (hb hby d5_5) rfl rfl k) ?_
  obtain ⟨cq7, kq7, q7a, q7b, q7c⟩ := isOf hZ e5 E_s
  obtain ⟨_, _, ⟨T7, L7, k7, n7⟩, -, X7, ⟨Lc7, hQ7, l7, y7, z7⟩, st7⟩ := X5.virtualBack hx (y := (⟨"java/lang/String", "coder", "()B"⟩ : MethodName)) (z := (⟨"java/lang/String", "coder", "()B"⟩ : MethodName)) hown (mvT hZ (hw _ (List.mem_of_getElem? (i := 35) rfl))) (mvT hZ (hw _ (List.mem_of_getElem? (i := 36) rfl))) (notFace_of_selects (args := #[]) (mvT hZ (hw _ (List.mem_of_getElem? (i := 38) rfl)))) (mvT hZ (hw _ (List.mem_of_getElem? (i := 38) rfl))) (mvT hZ (hw _ (List.mem_of_getElem? (i := 37) rfl))) (by decide) (backOf (W := 1) (rm6 l Z aw hw [] a0 cs h0 n0 Z0 S_cs F_c (by first | assumption | decide)) hZ (hw _ (List.mem_of_getElem? (i := 39) rfl)) (hw _ (List.mem_of_getElem? (i := 5) rfl)) (by decide) (by decide)) q7a q7c (g := (mkF m 6 #[.val (.ref a0)] [(.ref a0), (.int (15 : Int32))])) rfl (by rw [hml]; rfl) (Steps.refl _) (argsL := []) (rest := [(.int (15 : Int32))]) (lenOf own_pd0 rfl) rfl (by show 2 * 0 + _ ≤ _; exact Nat.le_of_eq rfl) (hb hby d5_6) (fun _ _ => ⟨rfl, e5, (by decide : 0 + 0 ≤ _), (by decide : 0 + 0 ≤ _)⟩)
  dsimp only [Pt.U, Pt.locs, Pt.cells, Pt.slots] at X7 l7 y7 z7 st7 hQ7
  subst l7 y7 z7
  obtain ⟨rfl, N7q, e7⟩ := hQ7
  have N7 := Fr.app N0 N7q
  refine own_go (U' := T7.setTop (mkF m 9 #[.val (.ref a0)] [(.int (0 : Int32)), (.int (15 : Int32))])) (fun _ k => st7.trans k) ?_
  refine own_go (U' := T7.setTop (mkF m 10 #[.val (.ref a0)] [(.int ((15 : Int32) >>> ((0 : Int32) &&& 31)))])) (fun _ k => XS.ishr X7.here hx rfl (hb hby d5_9) rfl k) ?_
  refine own_ret X7 (v := (some (.int ((15 : Int32) >>> ((0 : Int32) &&& 31))))) hlk (fun h => by rw [Bd.returns] at h; cases h) (by decide) (by decide) (fun fs hr => own_retI X7 hx Bd.returns (hb hby d5_10) hr) ?_
  show (Q5 Z a0 cs b k1 h0 n0) _ T7.heap _
  rw [e7]
  exact ⟨by first | rfl | decide, N7, rfl⟩
theorem d8_0 : decode jdk_43_method_4_code 0 = .ok (.iload_n 0, 1) := by decide +kernel
theorem d8_1 : decode jdk_43_method_4_code 1 = .ok (.ifCond .lt 14, 3) := by decide +kernel
theorem d8_15 : decode jdk_43_method_4_code 15 = .ok (.iconst 0, 1) := by decide +kernel
theorem d8_16 : decode jdk_43_method_4_code 16 = .ok (.ireturn, 1) := by decide +kernel
theorem d8_4 : decode jdk_43_method_4_code 4 = .ok (.iload_n 0, 1) := by decide +kernel
theorem d8_5 : decode jdk_43_method_4_code 5 = .ok (.sipush 255, 3) := by decide +kernel
theorem d8_8 : decode jdk_43_method_4_code 8 = .ok (.if_icmp .gt 7, 3) := by decide +kernel
theorem d8_11 : decode jdk_43_method_4_code 11 = .ok (.iconst 1, 1) := by decide +kernel
theorem d8_12 : decode jdk_43_method_4_code 12 = .ok (.goto 4, 3) := by decide +kernel
theorem own_pn1 : plainName "java/lang/StringLatin1" = true := by first | (simp [plainName, overriddenIn]; done) | decide +kernel
theorem own_ef8 (m : MethodId) (x0 : Int32) : entryFrame m #[(.int x0)] 1 = mkF m 0 #[.val (.int x0)] [] := by first | (simp [entryFrame, mkF, argsToLocals, Value.category]; done) | rfl
def f_8 (p0 : Int32) : Int32 := (if p0 < (0 : Int32) then (0 : Int32) else (if (255 : Int32) < p0 then (0 : Int32) else (1 : Int32)))
def Q8 (Z : State) (p0 : Int32) (h0 : Heap) (n0 : Nat) (v : Option Value) (h : Heap) (L : List Loc) : Prop := v = some (.int (f_8 p0)) ∧ Fr n0 L ∧ h = h0
set_option maxRecDepth 65536 in
set_option maxHeartbeats 40000000 in
theorem rm8 (l : Launch) (Z : State) (aw : Array Value) (hw : ∀ d ∈ tables_1, d.before aw Z = true) (ws : List Jvm.Cond) (p0 : Int32) (h0 : Heap) (n0 : Nat) (Z0 : n0 ≤ h0.size) :
    MetFree l (⟨"java/lang/StringLatin1", "canEncode", "(I)Z"⟩ : MethodName) (head1 (Jvm.Cond.code (⟨"java/lang/StringLatin1", "canEncode", "(I)Z"⟩ : MethodName) jdk_43_method_4_code 1 (some .boolean) :: ws) ({ frames := 0, cells := 0, slots := 0, locals := 0 } : Room)) (fun a U => a = #[(.int p0)] ∧ Z.Warmed39 U.vm ∧ U.heap = h0) (fun _ _ _ _ _ => True) (fun _ U o U' => ∃ v L, o = .returned v ∧ (Q8 Z p0 h0 n0) v U'.heap L ∧ FrameEnd U o U' L ({ frames := 0, cells := 0, slots := 0, locals := 0 } : Room).cells ({ frames := 0, cells := 0, slots := 0, locals := 0 } : Room).slots) := by
  refine MetFree.of_bodySF (plainFor_of_name own_pn1) hisR ?_
  intro p e s m args below meth c s₁ Bd hml0 hP hK
  obtain ⟨rfl, hZ, hh⟩ := hP
  have hx := Bd.exec
  have hby := Bd.bytes
  have hml : c.maxLocals = 1 := hml0
  have hown : s.vm.findClass "java/lang/StringLatin1" = some m.cls := findClass_of_methodNamed Bd.named
  have hnm := (name_of_methodNamed Bd.named Bd.method).1
  have hlk : meth.locks = false := BodyLoose.notSynchronized (by assumption)
  have X0 : Stand p l e ({ frames := 0, cells := 0, slots := 0, locals := 0 } : Room) s m #[(.int p0)] below meth c s₁ [] 0 0 := Stand.of_body Bd
  have e0 : s₁.heap = h0 := by rw [← hh, Bd.state]; rfl
  have N0 := Fr.nil n0
  show own_Done p e below s (Q8 Z p0 h0 n0) ({ frames := 0, cells := 0, slots := 0, locals := 0 } : Room).cells ({ frames := 0, cells := 0, slots := 0, locals := 0 } : Room).slots (s₁.setTop (entryFrame m #[(.int p0)] 1))
  refine own_go (U' := s₁.setTop (mkF m 0 #[.val (.int p0)] [])) (fun _ k => castTop (own_ef8 m p0) k) ?_
  refine own_go (U' := s₁.setTop (mkF m 1 #[.val (.int p0)] [(.int p0)])) (fun _ k => XS.iloadN X0.here hx rfl (hb hby d8_0) rfl k) ?_
  by_cases hc1_8 : p0 < (0 : Int32)
  · refine own_go (U' := s₁.setTop (mkF m 15 #[.val (.int p0)] [])) (fun _ k => XS.ifYes X0.here hx rfl (pc0 := 1) (pc' := 15) rfl (hb hby d8_1) rfl ((if0 _ _).trans (tlt hc1_8).1) (by decide) (by decide) k) ?_
    refine own_go (U' := s₁.setTop (mkF m 16 #[.val (.int p0)] [(.int (0 : Int32))])) (fun _ k => XS.iconst X0.here hx rfl (hb hby d8_15) k) ?_
    refine own_ret X0 (v := (some (.int (0 : Int32)))) hlk (fun h => by rw [Bd.returns] at h; cases h) (by decide) (by decide) (fun fs hr => retN X0 hx (t := .boolean) Bd.returns (by simp) (hb hby d8_16) hr) ?_
    show (Q8 Z p0 h0 n0) _ s₁.heap _
    rw [e0]
    exact ⟨by first | (simp only [f_8, if_pos hc1_8]; done) | rfl | (simp [f_8, if_pos hc1_8]; done), N0, rfl⟩
  · refine own_go (U' := s₁.setTop (mkF m 4 #[.val (.int p0)] [])) (fun _ k => XS.ifNo X0.here hx rfl (hb hby d8_1) rfl ((if0 _ _).trans (flt hc1_8).1) k) ?_
    refine own_go (U' := s₁.setTop (mkF m 5 #[.val (.int p0)] [(.int p0)])) (fun _ k => XS.iloadN X0.here hx rfl (hb hby d8_4) rfl k) ?_
    refine own_go (U' := s₁.setTop (mkF m 8 #[.val (.int p0)] [(.int (255 : Int32)), (.int p0)])) (fun _ k => XS.sipush X0.here hx rfl (hb hby d8_5) k) ?_
    by_cases hc8_9 : (255 : Int32) < p0
    · refine own_go (U' := s₁.setTop (mkF m 15 #[.val (.int p0)] [])) (fun _ k => XS.icmpYes X0.here hx rfl (pc0 := 8) (pc' := 15) rfl (hb hby d8_8) rfl (tlt hc8_9).2.2.1 (by decide) (by decide) k) ?_
      refine own_go (U' := s₁.setTop (mkF m 16 #[.val (.int p0)] [(.int (0 : Int32))])) (fun _ k => XS.iconst X0.here hx rfl (hb hby d8_15) k) ?_
      refine own_ret X0 (v := (some (.int (0 : Int32)))) hlk (fun h => by rw [Bd.returns] at h; cases h) (by decide) (by decide) (fun fs hr => retN X0 hx (t := .boolean) Bd.returns (by simp) (hb hby d8_16) hr) ?_
      show (Q8 Z p0 h0 n0) _ s₁.heap _
      rw [e0]
      exact ⟨by first | (simp only [f_8, if_neg hc1_8, if_pos hc8_9]; done) | rfl | (simp [f_8, if_neg hc1_8, if_pos hc8_9]; done), N0, rfl⟩
    · refine own_go (U' := s₁.setTop (mkF m 11 #[.val (.int p0)] [])) (fun _ k => XS.icmpNo X0.here hx rfl (hb hby d8_8) rfl (flt hc8_9).2.2.1 k) ?_
      refine own_go (U' := s₁.setTop (mkF m 12 #[.val (.int p0)] [(.int (1 : Int32))])) (fun _ k => XS.iconst X0.here hx rfl (hb hby d8_11) k) ?_
      refine own_go (U' := s₁.setTop (mkF m 16 #[.val (.int p0)] [(.int (1 : Int32))])) (fun _ k => XS.goto X0.here hx rfl (pc0 := 12) (pc' := 16) rfl (hb hby d8_12) (by decide) (by decide) k) ?_
      refine own_ret X0 (v := (some (.int (1 : Int32)))) hlk (fun h => by rw [Bd.returns] at h; cases h) (by decide) (by decide) (fun fs hr => retN X0 hx (t := .boolean) Bd.returns (by simp) (hb hby d8_16) hr) ?_
      show (Q8 Z p0 h0 n0) _ s₁.heap _
      rw [e0]
      exact ⟨by first | (simp only [f_8, if_neg hc1_8, if_neg hc8_9]; done) | rfl | (simp [f_8, if_neg hc1_8, if_neg hc8_9]; done), N0, rfl⟩
theorem d9_0 : decode jdk_29_method_65_code 0 = .ok (.iload_n 0, 1) := by decide +kernel
theorem d9_1 : decode jdk_29_method_65_code 1 = .ok (.iload_n 1, 1) := by decide +kernel
theorem d9_2 : decode jdk_29_method_65_code 2 = .ok (.if_icmp .lt 7, 3) := by decide +kernel
theorem d9_9 : decode jdk_29_method_65_code 9 = .ok (.iload_n 1, 1) := by decide +kernel
theorem d9_10 : decode jdk_29_method_65_code 10 = .ok (.ireturn, 1) := by decide +kernel
theorem d9_5 : decode jdk_29_method_65_code 5 = .ok (.iload_n 0, 1) := by decide +kernel
theorem d9_6 : decode jdk_29_method_65_code 6 = .ok (.goto 4, 3) := by decide +kernel
theorem own_ef9 (m : MethodId) (x0 : Int32) (x1 : Int32) : entryFrame m #[(.int x0), (.int x1)] 2 = mkF m 0 #[.val (.int x0), .val (.int x1)] [] := by first | (simp [entryFrame, mkF, argsToLocals, Value.category]; done) | rfl
def f_9 (p0 : Int32) (p1 : Int32) : Int32 := (if p0 < p1 then p1 else p0)
def Q9 (Z : State) (p0 : Int32) (p1 : Int32) (h0 : Heap) (n0 : Nat) (v : Option Value) (h : Heap) (L : List Loc) : Prop := v = some (.int (f_9 p0 p1)) ∧ Fr n0 L ∧ h = h0
set_option maxRecDepth 65536 in
set_option maxHeartbeats 40000000 in
theorem rm9 (l : Launch) (Z : State) (aw : Array Value) (hw : ∀ d ∈ tables_1, d.before aw Z = true) (ws : List Jvm.Cond) (p0 : Int32) (p1 : Int32) (h0 : Heap) (n0 : Nat) (Z0 : n0 ≤ h0.size) :
    MetFree l (⟨"java/lang/Math", "max", "(II)I"⟩ : MethodName) (head1 (Jvm.Cond.code (⟨"java/lang/Math", "max", "(II)I"⟩ : MethodName) jdk_29_method_65_code 2 (some .int) :: ws) ({ frames := 0, cells := 0, slots := 0, locals := 0 } : Room)) (fun a U => a = #[(.int p0), (.int p1)] ∧ Z.Warmed39 U.vm ∧ U.heap = h0) (fun _ _ _ _ _ => True) (fun _ U o U' => ∃ v L, o = .returned v ∧ (Q9 Z p0 p1 h0 n0) v U'.heap L ∧ FrameEnd U o U' L ({ frames := 0, cells := 0, slots := 0, locals := 0 } : Room).cells ({ frames := 0, cells := 0, slots := 0, locals := 0 } : Room).slots) := by
  refine MetFree.of_bodySF (Jvm.Free.JP.mathPlain rfl (by decide +kernel)) hisR ?_
  intro p e s m args below meth c s₁ Bd hml0 hP hK
  obtain ⟨rfl, hZ, hh⟩ := hP
  have hx := Bd.exec
  have hby := Bd.bytes
  have hml : c.maxLocals = 2 := hml0
  have hown : s.vm.findClass "java/lang/Math" = some m.cls := findClass_of_methodNamed Bd.named
  have hnm := (name_of_methodNamed Bd.named Bd.method).1
  have hlk : meth.locks = false := BodyLoose.notSynchronized (by assumption)
  have X0 : Stand p l e ({ frames := 0, cells := 0, slots := 0, locals := 0 } : Room) s m #[(.int p0), (.int p1)] below meth c s₁ [] 0 0 := Stand.of_body Bd
  have e0 : s₁.heap = h0 := by rw [← hh, Bd.state]; rfl
  have N0 := Fr.nil n0
  show own_Done p e below s (Q9 Z p0 p1 h0 n0) ({ frames := 0, cells := 0, slots := 0, locals := 0 } : Room).cells ({ frames := 0, cells := 0, slots := 0, locals := 0 } : Room).slots (s₁.setTop (entryFrame m #[(.int p0), (.int p1)] 2))
  refine own_go (U' := s₁.setTop (mkF m 0 #[.val (.int p0), .val (.int p1)] [])) (fun _ k => castTop (own_ef9 m p0 p1) k) ?_
  refine own_go (U' := s₁.setTop (mkF m 1 #[.val (.int p0), .val (.int p1)] [(.int p0)])) (fun _ k => XS.iloadN X0.here hx rfl (hb hby d9_0) rfl k) ?_
  refine own_go (U' := s₁.setTop (mkF m 2 #[.val (.int p0), .val (.int p1)] [(.int p1), (.int p0)])) (fun _ k => XS.iloadN X0.here hx rfl (hb hby d9_1) rfl k) ?_
  by_cases hc2_10 : p0 < p1
  · refine own_go (U' := s₁.setTop (mkF m 9 #[.val (.int p0), .val (.int p1)] [])) (fun _ k => XS.icmpYes X0.here hx rfl (pc0 := 2) (pc' := 9) rfl (hb hby d9_2) rfl (tlt hc2_10).1 (by decide) (by decide) k) ?_
    refine own_go (U' := s₁.setTop (mkF m 10 #[.val (.int p0), .val (.int p1)] [(.int p1)])) (fun _ k => XS.iloadN X0.here hx rfl (hb hby d9_9) rfl k) ?_
    refine own_ret X0 (v := (some (.int p1))) hlk (fun h => by rw [Bd.returns] at h; cases h) (by decide) (by decide) (fun fs hr => own_retI X0 hx Bd.returns (hb hby d9_10) hr) ?_
    show (Q9 Z p0 p1 h0 n0) _ s₁.heap _
    rw [e0]
    exact ⟨by first | (simp only [f_9, if_pos hc2_10]; done) | rfl | (simp [f_9, if_pos hc2_10]; done), N0, rfl⟩
  · refine own_go (U' := s₁.setTop (mkF m 5 #[.val (.int p0), .val (.int p1)] [])) (fun _ k => XS.icmpNo X0.here hx rfl (hb hby d9_2) rfl (flt hc2_10).1 k) ?_
    refine own_go (U' := s₁.setTop (mkF m 6 #[.val (.int p0), .val (.int p1)] [(.int p0)])) (fun _ k => XS.iloadN X0.here hx rfl (hb hby d9_5) rfl k) ?_
    refine own_go (U' := s₁.setTop (mkF m 10 #[.val (.int p0), .val (.int p1)] [(.int p0)])) (fun _ k => XS.goto X0.here hx rfl (pc0 := 6) (pc' := 10) rfl (hb hby d9_6) (by decide) (by decide) k) ?_
    refine own_ret X0 (v := (some (.int p0))) hlk (fun h => by rw [Bd.returns] at h; cases h) (by decide) (by decide) (fun fs hr => own_retI X0 hx Bd.returns (hb hby d9_10) hr) ?_
    show (Q9 Z p0 p1 h0 n0) _ s₁.heap _
    rw [e0]
    exact ⟨by first | (simp only [f_9, if_neg hc2_10]; done) | rfl | (simp [f_9, if_neg hc2_10]; done), N0, rfl⟩
theorem d10_0 : decode jdk_29_method_69_code 0 = .ok (.iload_n 0, 1) := by decide +kernel
theorem d10_1 : decode jdk_29_method_69_code 1 = .ok (.iload_n 1, 1) := by decide +kernel
theorem d10_2 : decode jdk_29_method_69_code 2 = .ok (.if_icmp .gt 7, 3) := by decide +kernel
theorem d10_9 : decode jdk_29_method_69_code 9 = .ok (.iload_n 1, 1) := by decide +kernel
theorem d10_10 : decode jdk_29_method_69_code 10 = .ok (.ireturn, 1) := by decide +kernel
theorem d10_5 : decode jdk_29_method_69_code 5 = .ok (.iload_n 0, 1) := by decide +kernel
theorem d10_6 : decode jdk_29_method_69_code 6 = .ok (.goto 4, 3) := by decide +kernel
theorem own_ef10 (m : MethodId) (x0 : Int32) (x1 : Int32) : entryFrame m #[(.int x0), (.int x1)] 2 = mkF m 0 #[.val (.int x0), .val (.int x1)] [] := by first | (simp [entryFrame, mkF, argsToLocals, Value.category]; done) | rfl
def f_10 (p0 : Int32) (p1 : Int32) : Int32 := (if p1 < p0 then p1 else p0)
def Q10 (Z : State) (p0 : Int32) (p1 : Int32) (h0 : Heap) (n0 : Nat) (v : Option Value) (h : Heap) (L : List Loc) : Prop := v = some (.int (f_10 p0 p1)) ∧ Fr n0 L ∧ h = h0
set_option maxRecDepth 65536 in
set_option maxHeartbeats 40000000 in
theorem rm10 (l : Launch) (Z : State) (aw : Array Value) (hw : ∀ d ∈ tables_1, d.before aw Z = true) (ws : List Jvm.Cond) (p0 : Int32) (p1 : Int32) (h0 : Heap) (n0 : Nat) (Z0 : n0 ≤ h0.size) :
    MetFree l (⟨"java/lang/Math", "min", "(II)I"⟩ : MethodName) (head1 (Jvm.Cond.code (⟨"java/lang/Math", "min", "(II)I"⟩ : MethodName) jdk_29_method_69_code 2 (some .int) :: ws) ({ frames := 0, cells := 0, slots := 0, locals := 0 } : Room)) (fun a U => a = #[(.int p0), (.int p1)] ∧ Z.Warmed39 U.vm ∧ U.heap = h0) (fun _ _ _ _ _ => True) (fun _ U o U' => ∃ v L, o = .returned v ∧ (Q10 Z p0 p1 h0 n0) v U'.heap L ∧ FrameEnd U o U' L ({ frames := 0, cells := 0, slots := 0, locals := 0 } : Room).cells ({ frames := 0, cells := 0, slots := 0, locals := 0 } : Room).slots) := by
  refine MetFree.of_bodySF (Jvm.Free.JP.mathPlain rfl (by decide +kernel)) hisR ?_
  intro p e s m args below meth c s₁ Bd hml0 hP hK
  obtain ⟨rfl, hZ, hh⟩ := hP
  have hx := Bd.exec
  have hby := Bd.bytes
  have hml : c.maxLocals = 2 := hml0
  have hown : s.vm.findClass "java/lang/Math" = some m.cls := findClass_of_methodNamed Bd.named
  have hnm := (name_of_methodNamed Bd.named Bd.method).1
  have hlk : meth.locks = false := BodyLoose.notSynchronized (by assumption)
  have X0 : Stand p l e ({ frames := 0, cells := 0, slots := 0, locals := 0 } : Room) s m #[(.int p0), (.int p1)] below meth c s₁ [] 0 0 := Stand.of_body Bd
  have e0 : s₁.heap = h0 := by rw [← hh, Bd.state]; rfl
  have N0 := Fr.nil n0
  show own_Done p e below s (Q10 Z p0 p1 h0 n0) ({ frames := 0, cells := 0, slots := 0, locals := 0 } : Room).cells ({ frames := 0, cells := 0, slots := 0, locals := 0 } : Room).slots (s₁.setTop (entryFrame m #[(.int p0), (.int p1)] 2))
  refine own_go (U' := s₁.setTop (mkF m 0 #[.val (.int p0), .val (.int p1)] [])) (fun _ k => castTop (own_ef10 m p0 p1) k) ?_
  refine own_go (U' := s₁.setTop (mkF m 1 #[.val (.int p0), .val (.int p1)] [(.int p0)])) (fun _ k => XS.iloadN X0.here hx rfl (hb hby d10_0) rfl k) ?_
  refine own_go (U' := s₁.setTop (mkF m 2 #[.val (.int p0), .val (.int p1)] [(.int p1), (.int p0)])) (fun _ k => XS.iloadN X0.here hx rfl (hb hby d10_1) rfl k) ?_
  by_cases hc2_11 : p1 < p0
  · refine own_go (U' := s₁.setTop (mkF m 9 #[.val (.int p0), .val (.int p1)] [])) (fun _ k => XS.icmpYes X0.here hx rfl (pc0 := 2) (pc' := 9) rfl (hb hby d10_2) rfl (tlt hc2_11).2.2.1 (by decide) (by decide) k) ?_
    refine own_go (U' := s₁.setTop (mkF m 10 #[.val (.int p0), .val (.int p1)] [(.int p1)])) (fun _ k => XS.iloadN X0.here hx rfl (hb hby d10_9) rfl k) ?_
    refine own_ret X0 (v := (some (.int p1))) hlk (fun h => by rw [Bd.returns] at h; cases h) (by decide) (by decide) (fun fs hr => own_retI X0 hx Bd.returns (hb hby d10_10) hr) ?_
    show (Q10 Z p0 p1 h0 n0) _ s₁.heap _
    rw [e0]
    exact ⟨by first | (simp only [f_10, if_pos hc2_11]; done) | rfl | (simp [f_10, if_pos hc2_11]; done), N0, rfl⟩
  · refine own_go (U' := s₁.setTop (mkF m 5 #[.val (.int p0), .val (.int p1)] [])) (fun _ k => XS.icmpNo X0.here hx rfl (hb hby d10_2) rfl (flt hc2_11).2.2.1 k) ?_
    refine own_go (U' := s₁.setTop (mkF m 6 #[.val (.int p0), .val (.int p1)] [(.int p0)])) (fun _ k => XS.iloadN X0.here hx rfl (hb hby d10_5) rfl k) ?_
    refine own_go (U' := s₁.setTop (mkF m 10 #[.val (.int p0), .val (.int p1)] [(.int p0)])) (fun _ k => XS.goto X0.here hx rfl (pc0 := 6) (pc' := 10) rfl (hb hby d10_6) (by decide) (by decide) k) ?_
    refine own_ret X0 (v := (some (.int p0))) hlk (fun h => by rw [Bd.returns] at h; cases h) (by decide) (by decide) (fun fs hr => own_retI X0 hx Bd.returns (hb hby d10_10) hr) ?_
    show (Q10 Z p0 p1 h0 n0) _ s₁.heap _
    rw [e0]
    exact ⟨by first | (simp only [f_10, if_neg hc2_11]; done) | rfl | (simp [f_10, if_neg hc2_11]; done), N0, rfl⟩
theorem d11_0 : decode jdk_43_method_23_code 0 = .ok (.iload_n 1, 1) := by decide +kernel
theorem d11_1 : decode jdk_43_method_23_code 1 = .ok (.i2b, 1) := by decide +kernel
theorem d11_2 : decode jdk_43_method_23_code 2 = .ok (.istore 4, 2) := by decide +kernel
theorem d11_4 : decode jdk_43_method_23_code 4 = .ok (.iload_n 2, 1) := by decide +kernel
theorem d11_5 : decode jdk_43_method_23_code 5 = .ok (.istore 5, 2) := by decide +kernel
theorem d11_7 : decode jdk_43_method_23_code 7 = .ok (.iload 5, 2) := by decide +kernel
theorem d11_9 : decode jdk_43_method_23_code 9 = .ok (.iload_n 3, 1) := by decide +kernel
theorem d11_10 : decode jdk_43_method_23_code 10 = .ok (.if_icmp .ge 21, 3) := by decide +kernel
theorem d11_13 : decode jdk_43_method_23_code 13 = .ok (.aload_n 0, 1) := by decide +kernel
theorem d11_14 : decode jdk_43_method_23_code 14 = .ok (.iload 5, 2) := by decide +kernel
theorem d11_16 : decode jdk_43_method_23_code 16 = .ok (.baload, 1) := by decide +kernel
theorem d11_17 : decode jdk_43_method_23_code 17 = .ok (.iload 4, 2) := by decide +kernel
theorem d11_19 : decode jdk_43_method_23_code 19 = .ok (.if_icmp .ne 6, 3) := by decide +kernel
theorem d11_22 : decode jdk_43_method_23_code 22 = .ok (.iload 5, 2) := by decide +kernel
theorem d11_24 : decode jdk_43_method_23_code 24 = .ok (.ireturn, 1) := by decide +kernel
theorem d11_25 : decode jdk_43_method_23_code 25 = .ok (.iinc 5 1, 3) := by decide +kernel
theorem d11_28 : decode jdk_43_method_23_code 28 = .ok (.goto (-21), 3) := by decide +kernel
theorem d11_31 : decode jdk_43_method_23_code 31 = .ok (.iconst (-1), 1) := by decide +kernel
theorem d11_32 : decode jdk_43_method_23_code 32 = .ok (.ireturn, 1) := by decide +kernel
theorem own_ef11 (m : MethodId) (x0 : Addr) (x1 : Int32) : entryFrame m #[(.ref x0), (.int x1), (.int (0 : Int32)), (.int (15 : Int32))] 6 = mkF m 0 #[.val (.ref x0), .val (.int x1), .val (.int (0 : Int32)), .val (.int (15 : Int32)), .unset, .unset] [] := by first | (simp [entryFrame, mkF, argsToLocals, Value.category]; done) | rfl
def f_11 (a0 : Addr) (p1 : Int32) (k1 : ClassId) : Int32 := (if (33 : Int32) = (p1.toInt8.toInt32) then (0 : Int32) else (if (35 : Int32) = (p1.toInt8.toInt32) then (1 : Int32) else (if (36 : Int32) = (p1.toInt8.toInt32) then (2 : Int32) else (if (37 : Int32) = (p1.toInt8.toInt32) then (3 : Int32) else (if (38 : Int32) = (p1.toInt8.toInt32) then (4 : Int32) else (if (39 : Int32) = (p1.toInt8.toInt32) then (5 : Int32) else (if (42 : Int32) = (p1.toInt8.toInt32) then (6 : Int32) else (if (43 : Int32) = (p1.toInt8.toInt32) then (7 : Int32) else (if (45 : Int32) = (p1.toInt8.toInt32) then (8 : Int32) else (if (46 : Int32) = (p1.toInt8.toInt32) then (9 : Int32) else (if (94 : Int32) = (p1.toInt8.toInt32) then (10 : Int32) else (if (95 : Int32) = (p1.toInt8.toInt32) then (11 : Int32) else (if (96 : Int32) = (p1.toInt8.toInt32) then (12 : Int32) else (if (124 : Int32) = (p1.toInt8.toInt32) then (13 : Int32) else (if (126 : Int32) = (p1.toInt8.toInt32) then (14 : Int32) else (-1 : Int32))))))))))))))))
def Q11 (Z : State) (a0 : Addr) (p1 : Int32) (k1 : ClassId) (h0 : Heap) (n0 : Nat) (v : Option Value) (h : Heap) (L : List Loc) : Prop := v = some (.int (f_11 a0 p1 k1)) ∧ Fr n0 L ∧ h = h0
set_option maxRecDepth 65536 in
set_option maxHeartbeats 40000000 in
theorem rm11 (l : Launch) (Z : State) (aw : Array Value) (hw : ∀ d ∈ tables_1, d.before aw Z = true) (ws : List Jvm.Cond) (a0 : Addr) (p1 : Int32) (k1 : ClassId) (h0 : Heap) (n0 : Nat) (Z0 : n0 ≤ h0.size) (V_b : Arv Z h0 a0 k1 .byte (15 : Int32) [(.int (33 : Int32)), (.int (35 : Int32)), (.int (36 : Int32)), (.int (37 : Int32)), (.int (38 : Int32)), (.int (39 : Int32)), (.int (42 : Int32)), (.int (43 : Int32)), (.int (45 : Int32)), (.int (46 : Int32)), (.int (94 : Int32)), (.int (95 : Int32)), (.int (96 : Int32)), (.int (124 : Int32)), (.int (126 : Int32))] (.int (0 : Int32))) :
    MetFree l (⟨"java/lang/StringLatin1", "indexOfChar", "([BIII)I"⟩ : MethodName) (head1 (Jvm.Cond.code (⟨"java/lang/StringLatin1", "indexOfChar", "([BIII)I"⟩ : MethodName) jdk_43_method_23_code 6 (some .int) :: ws) ({ frames := 0, cells := 0, slots := 0, locals := 0 } : Room)) (fun a U => a = #[(.ref a0), (.int p1), (.int (0 : Int32)), (.int (15 : Int32))] ∧ Z.Warmed39 U.vm ∧ U.heap = h0) (fun _ _ _ _ _ => True) (fun _ U o U' => ∃ v L, o = .returned v ∧ (Q11 Z a0 p1 k1 h0 n0) v U'.heap L ∧ FrameEnd U o U' L ({ frames := 0, cells := 0, slots := 0, locals := 0 } : Room).cells ({ frames := 0, cells := 0, slots := 0, locals := 0 } : Room).slots) := by
  refine MetFree.of_bodySF (plainFor_of_name own_pn1) hisR ?_
  intro p e s m args below meth c s₁ Bd hml0 hP hK
  obtain ⟨rfl, hZ, hh⟩ := hP
  have hx := Bd.exec
  have hby := Bd.bytes
  have hml : c.maxLocals = 6 := hml0
  have hown : s.vm.findClass "java/lang/StringLatin1" = some m.cls := findClass_of_methodNamed Bd.named
  have hnm := (name_of_methodNamed Bd.named Bd.method).1
  have hlk : meth.locks = false := BodyLoose.notSynchronized (by assumption)
  have X0 : Stand p l e ({ frames := 0, cells := 0, slots := 0, locals := 0 } : Room) s m #[(.ref a0), (.int p1), (.int (0 : Int32)), (.int (15 : Int32))] below meth c s₁ [] 0 0 := Stand.of_body Bd
  have e0 : s₁.heap = h0 := by rw [← hh, Bd.state]; rfl
  have N0 := Fr.nil n0
  show own_Done p e below s (Q11 Z a0 p1 k1 h0 n0) ({ frames := 0, cells := 0, slots := 0, locals := 0 } : Room).cells ({ frames := 0, cells := 0, slots := 0, locals := 0 } : Room).slots (s₁.setTop (entryFrame m #[(.ref a0), (.int p1), (.int (0 : Int32)), (.int (15 : Int32))] 6))
  refine own_go (U' := s₁.setTop (mkF m 0 #[.val (.ref a0), .val (.int p1), .val (.int (0 : Int32)), .val (.int (15 : Int32)), .unset, .unset] [])) (fun _ k => castTop (own_ef11 m a0 p1) k) ?_
  refine own_go (U' := s₁.setTop (mkF m 1 #[.val (.ref a0), .val (.int p1), .val (.int (0 : Int32)), .val (.int (15 : Int32)), .unset, .unset] [(.int p1)])) (fun _ k => XS.iloadN X0.here hx rfl (hb hby d11_0) rfl k) ?_
  refine own_go (U' := s₁.setTop (mkF m 2 #[.val (.ref a0), .val (.int p1), .val (.int (0 : Int32)), .val (.int (15 : Int32)), .unset, .unset] [(.int (p1.toInt8.toInt32))])) (fun _ k => XS.i2b X0.here hx rfl (hb hby d11_1) rfl k) ?_
  refine own_go (U' := s₁.setTop (mkF m 4 #[.val (.ref a0), .val (.int p1), .val (.int (0 : Int32)), .val (.int (15 : Int32)), .val (.int (p1.toInt8.toInt32)), .unset] [])) (fun _ k => XS.istore X0.here hx rfl (hb hby d11_2) rfl (l' := #[.val (.ref a0), .val (.int p1), .val (.int (0 : Int32)), .val (.int (15 : Int32)), .val (.int (p1.toInt8.toInt32)), .unset]) rfl k) ?_
  refine own_go (U' := s₁.setTop (mkF m 5 #[.val (.ref a0), .val (.int p1), .val (.int (0 : Int32)), .val (.int (15 : Int32)), .val (.int (p1.toInt8.toInt32)), .unset] [(.int (0 : Int32))])) (fun _ k => XS.iloadN X0.here hx rfl (hb hby d11_4) rfl k) ?_
  refine own_go (U' := s₁.setTop (mkF m 7 #[.val (.ref a0), .val (.int p1), .val (.int (0 : Int32)), .val (.int (15 : Int32)), .val (.int (p1.toInt8.toInt32)), .val (.int (0 : Int32))] [])) (fun _ k => XS.istore X0.here hx rfl (hb hby d11_5) rfl (l' := #[.val (.ref a0), .val (.int p1), .val (.int (0 : Int32)), .val (.int (15 : Int32)), .val (.int (p1.toInt8.toInt32)), .val (.int (0 : Int32))]) rfl k) ?_
  refine own_go (U' := s₁.setTop (mkF m 9 #[.val (.ref a0), .val (.int p1), .val (.int (0 : Int32)), .val (.int (15 : Int32)), .val (.int (p1.toInt8.toInt32)), .val (.int (0 : Int32))] [(.int (0 : Int32))])) (fun _ k => XS.iload X0.here hx rfl (hb hby d11_7) rfl k) ?_
  refine own_go (U' := s₁.setTop (mkF m 10 #[.val (.ref a0), .val (.int p1), .val (.int (0 : Int32)), .val (.int (15 : Int32)), .val (.int (p1.toInt8.toInt32)), .val (.int (0 : Int32))] [(.int (15 : Int32)), (.int (0 : Int32))])) (fun _ k => XS.iloadN X0.here hx rfl (hb hby d11_9) rfl k) ?_
  refine own_go (U' := s₁.setTop (mkF m 13 #[.val (.ref a0), .val (.int p1), .val (.int (0 : Int32)), .val (.int (15 : Int32)), .val (.int (p1.toInt8.toInt32)), .val (.int (0 : Int32))] [])) (fun _ k => XS.icmpNo X0.here hx rfl (hb hby d11_10) rfl (tlt (by decide : ((0 : Int32) < (15 : Int32)))).2.1 k) ?_
  refine own_go (U' := s₁.setTop (mkF m 14 #[.val (.ref a0), .val (.int p1), .val (.int (0 : Int32)), .val (.int (15 : Int32)), .val (.int (p1.toInt8.toInt32)), .val (.int (0 : Int32))] [(.ref a0)])) (fun _ k => XS.aloadN X0.here hx rfl (hb hby d11_13) rfl rfl k) ?_
  refine own_go (U' := s₁.setTop (mkF m 16 #[.val (.ref a0), .val (.int p1), .val (.int (0 : Int32)), .val (.int (15 : Int32)), .val (.int (p1.toInt8.toInt32)), .val (.int (0 : Int32))] [(.int (0 : Int32)), (.ref a0)])) (fun _ k => XS.iload X0.here hx rfl (hb hby d11_14) rfl k) ?_
  have V12 := V_b
  obtain ⟨cl12, Ar12, q12, S12, Ng12, Hh12, G12⟩ := V12
  have hj12 : ¬ (0 : Int32) < 0 ∧ (0 : Int32) < (15 : Int32) := ⟨by decide, by decide⟩
  have hat12 := own_at S12 Hh12 hj12 (i := 0) (v := (.int (33 : Int32))) rfl rfl
  refine own_go (U' := s₁.setTop (mkF m 17 #[.val (.ref a0), .val (.int p1), .val (.int (0 : Int32)), .val (.int (15 : Int32)), .val (.int (p1.toInt8.toInt32)), .val (.int (0 : Int32))] [(.int (33 : Int32))])) (fun _ k => X0.baloadBytes hx (j := (0 : Int32)) (v := (.int (33 : Int32))) (own_cell e0 Ar12.1) (State.isArrayOf_alike hZ.alike Ar12.2.1) Ar12.2.2 (inb_of S12 hj12) hat12 (g := (mkF m 16 #[.val (.ref a0), .val (.int p1), .val (.int (0 : Int32)), .val (.int (15 : Int32)), .val (.int (p1.toInt8.toInt32)), .val (.int (0 : Int32))] [(.int (0 : Int32)), (.ref a0)])) rfl rfl (hb hby d11_16) _ k) ?_
  refine own_go (U' := s₁.setTop (mkF m 19 #[.val (.ref a0), .val (.int p1), .val (.int (0 : Int32)), .val (.int (15 : Int32)), .val (.int (p1.toInt8.toInt32)), .val (.int (0 : Int32))] [(.int (p1.toInt8.toInt32)), (.int (33 : Int32))])) (fun _ k => XS.iload X0.here hx rfl (hb hby d11_17) rfl k) ?_
  by_cases hc19_13 : (33 : Int32) = (p1.toInt8.toInt32)
  · refine own_go (U' := s₁.setTop (mkF m 22 #[.val (.ref a0), .val (.int p1), .val (.int (0 : Int32)), .val (.int (15 : Int32)), .val (.int (p1.toInt8.toInt32)), .val (.int (0 : Int32))] [])) (fun _ k => XS.icmpNo X0.here hx rfl (hb hby d11_19) rfl (teq hc19_13).2 k) ?_
    refine own_go (U' := s₁.setTop (mkF m 24 #[.val (.ref a0), .val (.int p1), .val (.int (0 : Int32)), .val (.int (15 : Int32)), .val (.int (p1.toInt8.toInt32)), .val (.int (0 : Int32))] [(.int (0 : Int32))])) (fun _ k => XS.iload X0.here hx rfl (hb hby d11_22) rfl k) ?_
    refine own_ret X0 (v := (some (.int (0 : Int32)))) hlk (fun h => by rw [Bd.returns] at h; cases h) (by decide) (by decide) (fun fs hr => own_retI X0 hx Bd.returns (hb hby d11_24) hr) ?_
    show (Q11 Z a0 p1 k1 h0 n0) _ s₁.heap _
    rw [e0]
    exact ⟨by first | (simp only [f_11, if_pos hc19_13]; done) | rfl | (simp [f_11, if_pos hc19_13]; done), N0, rfl⟩
  · refine own_go (U' := s₁.setTop (mkF m 25 #[.val (.ref a0), .val (.int p1), .val (.int (0 : Int32)), .val (.int (15 : Int32)), .val (.int (p1.toInt8.toInt32)), .val (.int (0 : Int32))] [])) (fun _ k => XS.icmpYes X0.here hx rfl (pc0 := 19) (pc' := 25) rfl (hb hby d11_19) rfl (feq hc19_13).2 (by decide) (by decide) k) ?_
    refine own_go (U' := s₁.setTop (mkF m 28 #[.val (.ref a0), .val (.int p1), .val (.int (0 : Int32)), .val (.int (15 : Int32)), .val (.int (p1.toInt8.toInt32)), .val (.int (1 : Int32))] [])) (fun _ k => XS.iinc X0.here hx rfl (hb hby d11_25) rfl (l' := #[.val (.ref a0), .val (.int p1), .val (.int (0 : Int32)), .val (.int (15 : Int32)), .val (.int (p1.toInt8.toInt32)), .val (.int (1 : Int32))]) rfl k) ?_
    refine own_go (U' := s₁.setTop (mkF m 7 #[.val (.ref a0), .val (.int p1), .val (.int (0 : Int32)), .val (.int (15 : Int32)), .val (.int (p1.toInt8.toInt32)), .val (.int (1 : Int32))] [])) (fun _ k => XS.goto X0.here hx rfl (pc0 := 28) (pc' := 7) rfl (hb hby d11_28) (by decide) (by decide) k) ?_
    refine own_go (U' := s₁.setTop (mkF m 9 #[.val (.ref a0), .val (.int p1), .val (.int (0 : Int32)), .val (.int (15 : Int32)), .val (.int (p1.toInt8.toInt32)), .val (.int (1 : Int32))] [(.int (1 : Int32))])) (fun _ k => XS.iload X0.here hx rfl (hb hby d11_7) rfl k) ?_
    refine own_go (U' := s₁.setTop (mkF m 10 #[.val (.ref a0), .val (.int p1), .val (.int (0 : Int32)), .val (.int (15 : Int32)), .val (.int (p1.toInt8.toInt32)), .val (.int (1 : Int32))] [(.int (15 : Int32)), (.int (1 : Int32))])) (fun _ k => XS.iloadN X0.here hx rfl (hb hby d11_9) rfl k) ?_
    refine own_go (U' := s₁.setTop (mkF m 13 #[.val (.ref a0), .val (.int p1), .val (.int (0 : Int32)), .val (.int (15 : Int32)), .val (.int (p1.toInt8.toInt32)), .val (.int (1 : Int32))] [])) (fun _ k => XS.icmpNo X0.here hx rfl (hb hby d11_10) rfl (tlt (by decide : ((1 : Int32) < (15 : Int32)))).2.1 k) ?_
    refine own_go (U' := s₁.setTop (mkF m 14 #[.val (.ref a0), .val (.int p1), .val (.int (0 : Int32)), .val (.int (15 : Int32)), .val (.int (p1.toInt8.toInt32)), .val (.int (1 : Int32))] [(.ref a0)])) (fun _ k => XS.aloadN X0.here hx rfl (hb hby d11_13) rfl rfl k) ?_
    refine own_go (U' := s₁.setTop (mkF m 16 #[.val (.ref a0), .val (.int p1), .val (.int (0 : Int32)), .val (.int (15 : Int32)), .val (.int (p1.toInt8.toInt32)), .val (.int (1 : Int32))] [(.int (1 : Int32)), (.ref a0)])) (fun _ k => XS.iload X0.here hx rfl (hb hby d11_14) rfl k) ?_
    have V14 := V_b
    obtain ⟨cl14, Ar14, q14, S14, Ng14, Hh14, G14⟩ := V14
    have hj14 : ¬ (1 : Int32) < 0 ∧ (1 : Int32) < (15 : Int32) := ⟨by decide, by decide⟩
    have hat14 := own_at S14 Hh14 hj14 (i := 1) (v := (.int (35 : Int32))) rfl rfl
    refine own_go (U' := s₁.setTop (mkF m 17 #[.val (.ref a0), .val (.int p1), .val (.int (0 : Int32)), .val (.int (15 : Int32)), .val (.int (p1.toInt8.toInt32)), .val (.int (1 : Int32))] [(.int (35 : Int32))])) (fun _ k => X0.baloadBytes hx (j := (1 : Int32)) (v := (.int (35 : Int32))) (own_cell e0 Ar14.1) (State.isArrayOf_alike hZ.alike Ar14.2.1) Ar14.2.2 (inb_of S14 hj14) hat14 (g := (mkF m 16 #[.val (.ref a0), .val (.int p1), .val (.int (0 : Int32)), .val (.int (15 : Int32)), .val (.int (p1.toInt8.toInt32)), .val (.int (1 : Int32))] [(.int (1 : Int32)), (.ref a0)])) rfl rfl (hb hby d11_16) _ k) ?_
    refine own_go (U' := s₁.setTop (mkF m 19 #[.val (.ref a0), .val (.int p1), .val (.int (0 : Int32)), .val (.int (15 : Int32)), .val (.int (p1.toInt8.toInt32)), .val (.int (1 : Int32))] [(.int (p1.toInt8.toInt32)), (.int (35 : Int32))])) (fun _ k => XS.iload X0.here hx rfl (hb hby d11_17) rfl k) ?_
    by_cases hc19_15 : (35 : Int32) = (p1.toInt8.toInt32)
    · refine own_go (U' := s₁.setTop (mkF m 22 #[.val (.ref a0), .val (.int p1), .val (.int (0 : Int32)), .val (.int (15 : Int32)), .val (.int (p1.toInt8.toInt32)), .val (.int (1 : Int32))] [])) (fun _ k => XS.icmpNo X0.here hx rfl (hb hby d11_19) rfl (teq hc19_15).2 k) ?_
      refine own_go (U' := s₁.setTop (mkF m 24 #[.val (.ref a0), .val (.int p1), .val (.int (0 : Int32)), .val (.int (15 : Int32)), .val (.int (p1.toInt8.toInt32)), .val (.int (1 : Int32))] [(.int (1 : Int32))])) (fun _ k => XS.iload X0.here hx rfl (hb hby d11_22) rfl k) ?_
      refine own_ret X0 (v := (some (.int (1 : Int32)))) hlk (fun h => by rw [Bd.returns] at h; cases h) (by decide) (by decide) (fun fs hr => own_retI X0 hx Bd.returns (hb hby d11_24) hr) ?_
      show (Q11 Z a0 p1 k1 h0 n0) _ s₁.heap _
      rw [e0]
      exact ⟨by first | (simp only [f_11, if_neg hc19_13, if_pos hc19_15]; done) | rfl | (simp [f_11, if_neg hc19_13, if_pos hc19_15]; done), N0, rfl⟩
    · refine own_go (U' := s₁.setTop (mkF m 25 #[.val (.ref a0), .val (.int p1), .val (.int (0 : Int32)), .val (.int (15 : Int32)), .val (.int (p1.toInt8.toInt32)), .val (.int (1 : Int32))] [])) (fun _ k => XS.icmpYes X0.here hx rfl (pc0 := 19) (pc' := 25) rfl (hb hby d11_19) rfl (feq hc19_15).2 (by decide) (by decide) k) ?_
      refine own_go (U' := s₁.setTop (mkF m 28 #[.val (.ref a0), .val (.int p1), .val (.int (0 : Int32)), .val (.int (15 : Int32)), .val (.int (p1.toInt8.toInt32)), .val (.int (2 : Int32))] [])) (fun _ k => XS.iinc X0.here hx rfl (hb hby d11_25) rfl (l' := #[.val (.ref a0), .val (.int p1), .val (.int (0 : Int32)), .val (.int (15 : Int32)), .val (.int (p1.toInt8.toInt32)), .val (.int (2 : Int32))]) rfl k) ?_
      refine own_go (U' := s₁.setTop (mkF m 7 #[.val (.ref a0), .val (.int p1), .val (.int (0 : Int32)), .val (.int (15 : Int32)), .val (.int (p1.toInt8.toInt32)), .val (.int (2 : Int32))] [])) (fun _ k => XS.goto X0.here hx rfl (pc0 := 28) (pc' := 7) rfl (hb hby d11_28) (by decide) (by decide) k) ?_
      refine own_go (U' := s₁.setTop (mkF m 9 #[.val (.ref a0), .val (.int p1), .val (.int (0 : Int32)), .val (.int (15 : Int32)), .val (.int (p1.toInt8.toInt32)), .val (.int (2 : Int32))] [(.int (2 : Int32))])) (fun _ k => XS.iload X0.here hx rfl (hb hby d11_7) rfl k) ?_
      refine own_go (U' := s₁.setTop (mkF m 10 #[.val (.ref a0), .val (.int p1), .val (.int (0 : Int32)), .val (.int (15 : Int32)), .val (.int (p1.toInt8.toInt32)), .val (.int (2 : Int32))] [(.int (15 : Int32)), (.int (2 : Int32))])) (fun _ k => XS.iloadN X0.here hx rfl (hb hby d11_9) rfl k) ?_
      refine own_go (U' := s₁.setTop (mkF m 13 #[.val (.ref a0), .val (.int p1), .val (.int (0 : Int32)), .val (.int (15 : Int32)), .val (.int (p1.toInt8.toInt32)), .val (.int (2 : Int32))] [])) (fun _ k => XS.icmpNo X0.here hx rfl (hb hby d11_10) rfl (tlt (by decide : ((2 : Int32) < (15 : Int32)))).2.1 k) ?_
      refine own_go (U' := s₁.setTop (mkF m 14 #[.val (.ref a0), .val (.int p1), .val (.int (0 : Int32)), .val (.int (15 : Int32)), .val (.int (p1.toInt8.toInt32)), .val (.int (2 : Int32))] [(.ref a0)])) (fun _ k => XS.aloadN X0.here hx rfl (hb hby d11_13) rfl rfl k) ?_
      refine own_go (U' := s₁.setTop (mkF m 16 #[.val (.ref a0), .val (.int p1), .val (.int (0 : Int32)), .val (.int (15 : Int32)), .val (.int (p1.toInt8.toInt32)), .val (.int (2 : Int32))] [(.int (2 : Int32)), (.ref a0)])) (fun _ k => XS.iload X0.here hx rfl (hb hby d11_14) rfl k) ?_
      have V16 := V_b
      obtain ⟨cl16, Ar16, q16, S16, Ng16, Hh16, G16⟩ := V16
      have hj16 : ¬ (2 : Int32) < 0 ∧ (2 : Int32) < (15 : Int32) := ⟨by decide, by decide⟩
      have hat16 := own_at S16 Hh16 hj16 (i := 2) (v := (.int (36 : Int32))) rfl rfl
      refine own_go (U' := s₁.setTop (mkF m 17 #[.val (.ref a0), .val (.int p1), .val (.int (0 : Int32)), .val (.int (15 : Int32)), .val (.int (p1.toInt8.toInt32)), .val (.int (2 : Int32))] [(.int (36 : Int32))])) (fun _ k => X0.baloadBytes hx (j := (2 : Int32)) (v := (.int (36 : Int32))) (own_cell e0 Ar16.1) (State.isArrayOf_alike hZ.alike Ar16.2.1) Ar16.2.2 (inb_of S16 hj16) hat16 (g := (mkF m 16 #[.val (.ref a0), .val (.int p1), .val (.int (0 : Int32)), .val (.int (15 : Int32)), .val (.int (p1.toInt8.toInt32)), .val (.int (2 : Int32))] [(.int (2 : Int32)), (.ref a0)])) rfl rfl (hb hby d11_16) _ k) ?_
      refine own_go (U' := s₁.setTop (mkF m 19 #[.val (.ref a0), .val (.int p1), .val (.int (0 : Int32)), .val (.int (15 : Int32)), .val (.int (p1.toInt8.toInt32)), .val (.int (2 : Int32))] [(.int (p1.toInt8.toInt32)), (.int (36 : Int32))])) (fun _ k => XS.iload X0.here hx rfl (hb hby d11_17) rfl k) ?_
      by_cases hc19_17 : (36 : Int32) = (p1.toInt8.toInt32)
      · refine own_go (U' := s₁.setTop (mkF m 22 #[.val (.ref a0), .val (.int p1), .val (.int (0 : Int32)), .val (.int (15 : Int32)), .val (.int (p1.toInt8.toInt32)), .val (.int (2 : Int32))] [])) (fun _ k => XS.icmpNo X0.here hx rfl (hb hby d11_19) rfl (teq hc19_17).2 k) ?_
        refine own_go (U' := s₁.setTop (mkF m 24 #[.val (.ref a0), .val (.int p1), .val (.int (0 : Int32)), .val (.int (15 : Int32)), .val (.int (p1.toInt8.toInt32)), .val (.int (2 : Int32))] [(.int (2 : Int32))])) (fun _ k => XS.iload X0.here hx rfl (hb hby d11_22) rfl k) ?_
        refine own_ret X0 (v := (some (.int (2 : Int32)))) hlk (fun h => by rw [Bd.returns] at h; cases h) (by decide) (by decide) (fun fs hr => own_retI X0 hx Bd.returns (hb hby d11_24) hr) ?_
        show (Q11 Z a0 p1 k1 h0 n0) _ s₁.heap _
        rw [e0]
        exact ⟨by first | (simp only [f_11, if_neg hc19_13, if_neg hc19_15, if_pos hc19_17]; done) | rfl | (simp [f_11, if_neg hc19_13, if_neg hc19_15, if_pos hc19_17]; done), N0, rfl⟩
      · refine own_go (U' := s₁.setTop (mkF m 25 #[.val (.ref a0), .val (.int p1), .val (.int (0 : Int32)), .val (.int (15 : Int32)), .val (.int (p1.toInt8.toInt32)), .val (.int (2 : Int32))] [])) (fun _ k => XS.icmpYes X0.here hx rfl (pc0 := 19) (pc' := 25) rfl (hb hby d11_19) rfl (feq hc19_17).2 (by decide) (by decide) k) ?_
        refine own_go (U' := s₁.setTop (mkF m 28 #[.val (.ref a0), .val (.int p1), .val (.int (0 : Int32)), .val (.int (15 : Int32)), .val (.int (p1.toInt8.toInt32)), .val (.int (3 : Int32))] [])) (fun _ k => XS.iinc X0.here hx rfl (hb hby d11_25) rfl (l' := #[.val (.ref a0), .val (.int p1), .val (.int (0 : Int32)), .val (.int (15 : Int32)), .val (.int (p1.toInt8.toInt32)), .val (.int (3 : Int32))]) rfl k) ?_
        refine own_go (U' := s₁.setTop (mkF m 7 #[.val (.ref a0), .val (.int p1), .val (.int (0 : Int32)), .val (.int (15 : Int32)), .val (.int (p1.toInt8.toInt32)), .val (.int (3 : Int32))] [])) (fun _ k => XS.goto X0.here hx rfl (pc0 := 28) (pc' := 7) rfl (hb hby d11_28) (by decide) (by decide) k) ?_
        refine own_go (U' := s₁.setTop (mkF m 9 #[.val (.ref a0), .val (.int p1), .val (.int (0 : Int32)), .val (.int (15 : Int32)), .val (.int (p1.toInt8.toInt32)), .val (.int (3 : Int32))] [(.int (3 : Int32))])) (fun _ k => XS.iload X0.here hx rfl (hb hby d11_7) rfl k) ?_
        refine own_go (U' := s₁.setTop (mkF m 10 #[.val (.ref a0), .val (.int p1), .val (.int (0 : Int32)), .val (.int (15 : Int32)), .val (.int (p1.toInt8.toInt32)), .val (.int (3 : Int32))] [(.int (15 : Int32)), (.int (3 : Int32))])) (fun _ k => XS.iloadN X0.here hx rfl (hb hby d11_9) rfl k) ?_
        refine own_go (U' := s₁.setTop (mkF m 13 #[.val (.ref a0), .val (.int p1), .val (.int (0 : Int32)), .val (.int (15 : Int32)), .val (.int (p1.toInt8.toInt32)), .val (.int (3 : Int32))] [])) (fun _ k => XS.icmpNo X0.here hx rfl (hb hby d11_10) rfl (tlt (by decide : ((3 : Int32) < (15 : Int32)))).2.1 k) ?_
        refine own_go (U' := s₁.setTop (mkF m 14 #[.val (.ref a0), .val (.int p1), .val (.int (0 : Int32)), .val (.int (15 : Int32)), .val (.int (p1.toInt8.toInt32)), .val (.int (3 : Int32))] [(.ref a0)])) (fun _ k => XS.aloadN X0.here hx rfl (hb hby d11_13) rfl rfl k) ?_
        refine own_go (U' := s₁.setTop (mkF m 16 #[.val (.ref a0), .val (.int p1), .val (.int (0 : Int32)), .val (.int (15 : Int32)), .val (.int (p1.toInt8.toInt32)), .val (.int (3 : Int32))] [(.int (3 : Int32)), (.ref a0)])) (fun _ k => XS.iload X0.here hx rfl (hb hby d11_14) rfl k) ?_
        have V18 := V_b
        obtain ⟨cl18, Ar18, q18, S18, Ng18, Hh18, G18⟩ := V18
        have hj18 : ¬ (3 : Int32) < 0 ∧ (3 : Int32) < (15 : Int32) := ⟨by decide, by decide⟩
        have hat18 := own_at S18 Hh18 hj18 (i := 3) (v := (.int (37 : Int32))) rfl rfl
        refine own_go (U' := s₁.setTop (mkF m 17 #[.val (.ref a0), .val (.int p1), .val (.int (0 : Int32)), .val (.int (15 : Int32)), .val (.int (p1.toInt8.toInt32)), .val (.int (3 : Int32))] [(.int (37 : Int32))])) (fun _ k => X0.baloadBytes hx (j := (3 : Int32)) (v := (.int (37 : Int32))) (own_cell e0 Ar18.1) (State.isArrayOf_alike hZ.alike Ar18.2.1) Ar18.2.2 (inb_of S18 hj18) hat18 (g := (mkF m 16 #[.val (.ref a0), .val (.int p1), .val (.int (0 : Int32)), .val (.int (15 : Int32)), .val (.int (p1.toInt8.toInt32)), .val (.int (3 : Int32))] [(.int (3 : Int32)), (.ref a0)])) rfl rfl (hb hby d11_16) _ k) ?_
        refine own_go (U' := s₁.setTop (mkF m 19 #[.val (.ref a0), .val (.int p1), .val (.int (0 : Int32)), .val (.int (15 : Int32)), .val (.int (p1.toInt8.toInt32)), .val (.int (3 : Int32))] [(.int (p1.toInt8.toInt32)), (.int (37 : Int32))])) (fun _ k => XS.iload X0.here hx rfl (hb hby d11_17) rfl k) ?_
        by_cases hc19_19 : (37 : Int32) = (p1.toInt8.toInt32)
        · refine own_go (U' := s₁.setTop (mkF m 22 #[.val (.ref a0), .val (.int p1), .val (.int (0 : Int32)), .val (.int (15 : Int32)), .val (.int (p1.toInt8.toInt32)), .val (.int (3 : Int32))] [])) (fun _ k => XS.icmpNo X0.here hx rfl (hb hby d11_19) rfl (teq hc19_19).2 k) ?_
          refine own_go (U' := s₁.setTop (mkF m 24 #[.val (.ref a0), .val (.int p1), .val (.int (0 : Int32)), .val (.int (15 : Int32)), .val (.int (p1.toInt8.toInt32)), .val (.int (3 : Int32))] [(.int (3 : Int32))])) (fun _ k => XS.iload X0.here hx rfl (hb hby d11_22) rfl k) ?_
          refine own_ret X0 (v := (some (.int (3 : Int32)))) hlk (fun h => by rw [Bd.returns] at h; cases h) (by decide) (by decide) (fun fs hr => own_retI X0 hx Bd.returns (hb hby d11_24) hr) ?_
          show (Q11 Z a0 p1 k1 h0 n0) _ s₁.heap _
          rw [e0]
          exact ⟨by first | (simp only [f_11, if_neg hc19_13, if_neg hc19_15, if_neg hc19_17, if_pos hc19_19]; done) | rfl | (simp [f_11, if_neg hc19_13, if_neg hc19_15, if_neg hc19_17, if_pos hc19_19]; done), N0, rfl⟩
        · refine own_go (U' := s₁.setTop (mkF m 25 #[.val (.ref a0), .val (.int p1), .val (.int (0 : Int32)), .val (.int (15 : Int32)), .val (.int (p1.toInt8.toInt32)), .val (.int (3 : Int32))] [])) (fun _ k => XS.icmpYes X0.here hx rfl (pc0 := 19) (pc' := 25) rfl (hb hby d11_19) rfl (feq hc19_19).2 (by decide) (by decide) k) ?_
          refine own_go (U' := s₁.setTop (mkF m 28 #[.val (.ref a0), .val (.int p1), .val (.int (0 : Int32)), .val (.int (15 : Int32)), .val (.int (p1.toInt8.toInt32)), .val (.int (4 : Int32))] [])) (fun _ k => XS.iinc X0.here hx rfl (hb hby d11_25) rfl (l' := #[.val (.ref a0), .val (.int p1), .val (.int (0 : Int32)), .val (.int (15 : Int32)), .val (.int (p1.toInt8.toInt32)), .val (.int (4 : Int32))]) rfl k) ?_
          refine own_go (U' := s₁.setTop (mkF m 7 #[.val (.ref a0), .val (.int p1), .val (.int (0 : Int32)), .val (.int (15 : Int32)), .val (.int (p1.toInt8.toInt32)), .val (.int (4 : Int32))] [])) (fun _ k => XS.goto X0.here hx rfl (pc0 := 28) (pc' := 7) rfl (hb hby d11_28) (by decide) (by decide) k) ?_
          refine own_go (U' := s₁.setTop (mkF m 9 #[.val (.ref a0), .val (.int p1), .val (.int (0 : Int32)), .val (.int (15 : Int32)), .val (.int (p1.toInt8.toInt32)), .val (.int (4 : Int32))] [(.int (4 : Int32))])) (fun _ k => XS.iload X0.here hx rfl (hb hby d11_7) rfl k) ?_
          refine own_go (U' := s₁.setTop (mkF m 10 #[.val (.ref a0), .val (.int p1), .val (.int (0 : Int32)), .val (.int (15 : Int32)), .val (.int (p1.toInt8.toInt32)), .val (.int (4 : Int32))] [(.int (15 : Int32)), (.int (4 : Int32))])) (fun _ k => XS.iloadN X0.here hx rfl (hb hby d11_9) rfl k) ?_
          refine own_go (U' := s₁.setTop (mkF m 13 #[.val (.ref a0), .val (.int p1), .val (.int (0 : Int32)), .val (.int (15 : Int32)), .val (.int (p1.toInt8.toInt32)), .val (.int (4 : Int32))] [])) (fun _ k => XS.icmpNo X0.here hx rfl (hb hby d11_10) rfl (tlt (by decide : ((4 : Int32) < (15 : Int32)))).2.1 k) ?_
          refine own_go (U' := s₁.setTop (mkF m 14 #[.val (.ref a0), .val (.int p1), .val (.int (0 : Int32)), .val (.int (15 : Int32)), .val (.int (p1.toInt8.toInt32)), .val (.int (4 : Int32))] [(.ref a0)])) (fun _ k => XS.aloadN X0.here hx rfl (hb hby d11_13) rfl rfl k) ?_
          refine own_go (U' := s₁.setTop (mkF m 16 #[.val (.ref a0), .val (.int p1), .val (.int (0 : Int32)), .val (.int (15 : Int32)), .val (.int (p1.toInt8.toInt32)), .val (.int (4 : Int32))] [(.int (4 : Int32)), (.ref a0)])) (fun _ k => XS.iload X0.here hx rfl (hb hby d11_14) rfl k) ?_
          have V20 := V_b
          obtain ⟨cl20, Ar20, q20, S20, Ng20, Hh20, G20⟩ := V20
          have hj20 : ¬ (4 : Int32) < 0 ∧ (4 : Int32) < (15 : Int32) := ⟨by decide, by decide⟩
          have hat20 := own_at S20 Hh20 hj20 (i := 4) (v := (.int (38 : Int32))) rfl rfl
          refine own_go (U' := s₁.setTop (mkF m 17 #[.val (.ref a0), .val (.int p1), .val (.int (0 : Int32)), .val (.int (15 : Int32)), .val (.int (p1.toInt8.toInt32)), .val (.int (4 : Int32))] [(.int (38 : Int32))])) (fun _ k => X0.baloadBytes hx (j := (4 : Int32)) (v := (.int (38 : Int32))) (own_cell e0 Ar20.1) (State.isArrayOf_alike hZ.alike Ar20.2.1) Ar20.2.2 (inb_of S20 hj20) hat20 (g := (mkF m 16 #[.val (.ref a0), .val (.int p1), .val (.int (0 : Int32)), .val (.int (15 : Int32)), .val (.int (p1.toInt8.toInt32)), .val (.int (4 : Int32))] [(.int (4 : Int32)), (.ref a0)])) rfl rfl (hb hby d11_16) _ k) ?_
          refine own_go (U' := s₁.setTop (mkF m 19 #[.val (.ref a0), .val (.int p1), .val (.int (0 : Int32)), .val (.int (15 : Int32)), .val (.int (p1.toInt8.toInt32)), .val (.int (4 : Int32))] [(.int (p1.toInt8.toInt32)), (.int (38 : Int32))])) (fun _ k => XS.iload X0.here hx rfl (hb hby d11_17) rfl k) ?_
          by_cases hc19_21 : (38 : Int32) = (p1.toInt8.toInt32)
          · refine own_go (U' := s₁.setTop (mkF m 22 #[.val (.ref a0), .val (.int p1), .val (.int (0 : Int32)), .val (.int (15 : Int32)), .val (.int (p1.toInt8.toInt32)), .val (.int (4 : Int32))] [])) (fun _ k => XS.icmpNo X0.here hx rfl (hb hby d11_19) rfl (teq hc19_21).2 k) ?_
            refine own_go (U' := s₁.setTop (mkF m 24 #[.val (.ref a0), .val (.int p1), .val (.int (0 : Int32)), .val (.int (15 : Int32)), .val (.int (p1.toInt8.toInt32)), .val (.int (4 : Int32))] [(.int (4 : Int32))])) (fun _ k => XS.iload X0.here hx rfl (hb hby d11_22) rfl k) ?_
            refine own_ret X0 (v := (some (.int (4 : Int32)))) hlk (fun h => by rw [Bd.returns] at h; cases h) (by decide) (by decide) (fun fs hr => own_retI X0 hx Bd.returns (hb hby d11_24) hr) ?_
            show (Q11 Z a0 p1 k1 h0 n0) _ s₁.heap _
            rw [e0]
            exact ⟨by first | (simp only [f_11, if_neg hc19_13, if_neg hc19_15, if_neg hc19_17, if_neg hc19_19, if_pos hc19_21]; done) | rfl | (simp [f_11, if_neg hc19_13, if_neg hc19_15, if_neg hc19_17, if_neg hc19_19, if_pos hc19_21]; done), N0, rfl⟩
          · refine own_go (U' := s₁.setTop (mkF m 25 #[.val (.ref a0), .val (.int p1), .val (.int (0 : Int32)), .val (.int (15 : Int32)), .val (.int (p1.toInt8.toInt32)), .val (.int (4 : Int32))] [])) (fun _ k => XS.icmpYes X0.here hx rfl (pc0 := 19) (pc' := 25) rfl (hb hby d11_19) rfl (feq hc19_21).2 (by decide) (by decide) k) ?_
            refine own_go (U' := s₁.setTop (mkF m 28 #[.val (.ref a0), .val (.int p1), .val (.int (0 : Int32)), .val (.int (15 : Int32)), .val (.int (p1.toInt8.toInt32)), .val (.int (5 : Int32))] [])) (fun _ k => XS.iinc X0.here hx rfl (hb hby d11_25) rfl (l' := #[.val (.ref a0), .val (.int p1), .val (.int (0 : Int32)), .val (.int (15 : Int32)), .val (.int (p1.toInt8.toInt32)), .val (.int (5 : Int32))]) rfl k) ?_
            refine own_go (U' := s₁.setTop (mkF m 7 #[.val (.ref a0), .val (.int p1), .val (.int (0 : Int32)), .val (.int (15 : Int32)), .val (.int (p1.toInt8.toInt32)), .val (.int (5 : Int32))] [])) (fun _ k => XS.goto X0.here hx rfl (pc0 := 28) (pc' := 7) rfl (hb hby d11_28) (by decide) (by decide) k) ?_
            refine own_go (U' := s₁.setTop (mkF m 9 #[.val (.ref a0), .val (.int p1), .val (.int (0 : Int32)), .val (.int (15 : Int32)), .val (.int (p1.toInt8.toInt32)), .val (.int (5 : Int32))] [(.int (5 : Int32))])) (fun _ k => XS.iload X0.here hx rfl (hb hby d11_7) rfl k) ?_
            refine own_go (U' := s₁.setTop (mkF m 10 #[.val (.ref a0), .val (.int p1), .val (.int (0 : Int32)), .val (.int (15 : Int32)), .val (.int (p1.toInt8.toInt32)), .val (.int (5 : Int32))] [(.int (15 : Int32)), (.int (5 : Int32))])) (fun _ k => XS.iloadN X0.here hx rfl (hb hby d11_9) rfl k) ?_
            refine own_go (U' := s₁.setTop (mkF m 13 #[.val (.ref a0), .val (.int p1), .val (.int (0 : Int32)), .val (.int (15 : Int32)), .val (.int (p1.toInt8.toInt32)), .val (.int (5 : Int32))] [])) (fun _ k => XS.icmpNo X0.here hx rfl (hb hby d11_10) rfl (tlt (by decide : ((5 : Int32) < (15 : Int32)))).2.1 k) ?_
            refine own_go (U' := s₁.setTop (mkF m 14 #[.val (.ref a0), .val (.int p1), .val (.int (0 : Int32)), .val (.int (15 : Int32)), .val (.int (p1.toInt8.toInt32)), .val (.int (5 : Int32))] [(.ref a0)])) (fun _ k => XS.aloadN X0.here hx rfl (hb hby d11_13) rfl rfl k) ?_
            refine own_go (U' := s₁.setTop (mkF m 16 #[.val (.ref a0), .val (.int p1), .val (.int (0 : Int32)), .val (.int (15 : Int32)), .val (.int (p1.toInt8.toInt32)), .val (.int (5 : Int32))] [(.int (5 : Int32)), (.ref a0)])) (fun _ k => XS.iload X0.here hx rfl (hb hby d11_14) rfl k) ?_
            have V22 := V_b
            obtain ⟨cl22, Ar22, q22, S22, Ng22, Hh22, G22⟩ := V22
            have hj22 : ¬ (5 : Int32) < 0 ∧ (5 : Int32) < (15 : Int32) := ⟨by decide, by decide⟩
            have hat22 := own_at S22 Hh22 hj22 (i := 5) (v := (.int (39 : Int32))) rfl rfl
            refine own_go (U' := s₁.setTop (mkF m 17 #[.val (.ref a0), .val (.int p1), .val (.int (0 : Int32)), .val (.int (15 : Int32)), .val (.int (p1.toInt8.toInt32)), .val (.int (5 : Int32))] [(.int (39 : Int32))])) (fun _ k => X0.baloadBytes hx (j := (5 : Int32)) (v := (.int (39 : Int32))) (own_cell e0 Ar22.1) (State.isArrayOf_alike hZ.alike Ar22.2.1) Ar22.2.2 (inb_of S22 hj22) hat22 (g := (mkF m 16 #[.val (.ref a0), .val (.int p1), .val (.int (0 : Int32)), .val (.int (15 : Int32)), .val (.int (p1.toInt8.toInt32)), .val (.int (5 : Int32))] [(.int (5 : Int32)), (.ref a0)])) rfl rfl (hb hby d11_16) _ k) ?_
            refine own_go (U' := s₁.setTop (mkF m 19 #[.val (.ref a0), .val (.int p1), .val (.int (0 : Int32)), .val (.int (15 : Int32)), .val (.int (p1.toInt8.toInt32)), .val (.int (5 : Int32))] [(.int (p1.toInt8.toInt32)), (.int (39 : Int32))])) (fun _ k => XS.iload X0.here hx rfl (hb hby d11_17) rfl k) ?_
            by_cases hc19_23 : (39 : Int32) = (p1.toInt8.toInt32)
            · refine own_go (U' := s₁.setTop (mkF m 22 #[.val (.ref a0), .val (.int p1), .val (.int (0 : Int32)), .val (.int (15 : Int32)), .val (.int (p1.toInt8.toInt32)), .val (.int (5 : Int32))] [])) (fun _ k => XS.icmpNo X0.here hx rfl (hb hby d11_19) rfl (teq hc19_23).2 k) ?_
              refine own_go (U' := s₁.setTop (mkF m 24 #[.val (.ref a0), .val (.int p1), .val (.int (0 : Int32)), .val (.int (15 : Int32)), .val (.int (p1.toInt8.toInt32)), .val (.int (5 : Int32))] [(.int (5 : Int32))])) (fun _ k => XS.iload X0.here hx rfl (hb hby d11_22) rfl k) ?_
              refine own_ret X0 (v := (some (.int (5 : Int32)))) hlk (fun h => by rw [Bd.returns] at h; cases h) (by decide) (by decide) (fun fs hr => own_retI X0 hx Bd.returns (hb hby d11_24) hr) ?_
              show (Q11 Z a0 p1 k1 h0 n0) _ s₁.heap _
              rw [e0]
              exact ⟨by first | (simp only [f_11, if_neg hc19_13, if_neg hc19_15, if_neg hc19_17, if_neg hc19_19, if_neg hc19_21, if_pos hc19_23]; done) | rfl | (simp [f_11, if_neg hc19_13, if_neg hc19_15, if_neg hc19_17, if_neg hc19_19, if_neg hc19_21, if_pos hc19_23]; done), N0, rfl⟩
            · refine own_go (U' := s₁.setTop (mkF m 25 #[.val (.ref a0), .val (.int p1), .val (.int (0 : Int32)), .val (.int (15 : Int32)), .val (.int (p1.toInt8.toInt32)), .val (.int (5 : Int32))] [])) (fun _ k => XS.icmpYes X0.here hx rfl (pc0 := 19) (pc' := 25) rfl (hb hby d11_19) rfl (feq hc19_23).2 (by decide) (by decide) k) ?_
              refine own_go (U' := s₁.setTop (mkF m 28 #[.val (.ref a0), .val (.int p1), .val (.int (0 : Int32)), .val (.int (15 : Int32)), .val (.int (p1.toInt8.toInt32)), .val (.int (6 : Int32))] [])) (fun _ k => XS.iinc X0.here hx rfl (hb hby d11_25) rfl (l' := #[.val (.ref a0), .val (.int p1), .val (.int (0 : Int32)), .val (.int (15 : Int32)), .val (.int (p1.toInt8.toInt32)), .val (.int (6 : Int32))]) rfl k) ?_
              refine own_go (U' := s₁.setTop (mkF m 7 #[.val (.ref a0), .val (.int p1), .val (.int (0 : Int32)), .val (.int (15 : Int32)), .val (.int (p1.toInt8.toInt32)), .val (.int (6 : Int32))] [])) (fun _ k => XS.goto X0.here hx rfl (pc0 := 28) (pc' := 7) rfl (hb hby d11_28) (by decide) (by decide) k) ?_
              refine own_go (U' := s₁.setTop (mkF m 9 #[.val (.ref a0), .val (.int p1), .val (.int (0 : Int32)), .val (.int (15 : Int32)), .val (.int (p1.toInt8.toInt32)), .val (.int (6 : Int32))] [(.int (6 : Int32))])) (fun _ k => XS.iload X0.here hx rfl (hb hby d11_7) rfl k) ?_
              refine own_go (U' := s₁.setTop (mkF m 10 #[.val (.ref a0), .val (.int p1), .val (.int (0 : Int32)), .val (.int (15 : Int32)), .val (.int (p1.toInt8.toInt32)), .val (.int (6 : Int32))] [(.int (15 : Int32)), (.int (6 : Int32))])) (fun _ k => XS.iloadN X0.here hx rfl (hb hby d11_9) rfl k) ?_
              refine own_go (U' := s₁.setTop (mkF m 13 #[.val (.ref a0), .val (.int p1), .val (.int (0 : Int32)), .val (.int (15 : Int32)), .val (.int (p1.toInt8.toInt32)), .val (.int (6 : Int32))] [])) (fun _ k => XS.icmpNo X0.here hx rfl (hb hby d11_10) rfl (tlt (by decide : ((6 : Int32) < (15 : Int32)))).2.1 k) ?_
              refine own_go (U' := s₁.setTop (mkF m 14 #[.val (.ref a0), .val (.int p1), .val (.int (0 : Int32)), .val (.int (15 : Int32)), .val (.int (p1.toInt8.toInt32)), .val (.int (6 : Int32))] [(.ref a0)])) (fun _ k => XS.aloadN X0.here hx rfl (hb hby d11_13) rfl rfl k) ?_
              refine own_go (U' := s₁.setTop (mkF m 16 #[.val (.ref a0), .val (.int p1), .val (.int (0 : Int32)), .val (.int (15 : Int32)), .val (.int (p1.toInt8.toInt32)), .val (.int (6 : Int32))] [(.int (6 : Int32)), (.ref a0)])) (fun _ k => XS.iload X0.here hx rfl (hb hby d11_14) rfl k) ?_
              have V24 := V_b
              obtain ⟨cl24, Ar24, q24, S24, Ng24, Hh24, G24⟩ := V24
              have hj24 : ¬ (6 : Int32) < 0 ∧ (6 : Int32) < (15 : Int32) := ⟨by decide, by decide⟩
              have hat24 := own_at S24 Hh24 hj24 (i := 6) (v := (.int (42 : Int32))) rfl rfl
              refine own_go (U' := s₁.setTop (mkF m 17 #[.val (.ref a0), .val (.int p1), .val (.int (0 : Int32)), .val (.int (15 : Int32)), .val (.int (p1.toInt8.toInt32)), .val (.int (6 : Int32))] [(.int (42 : Int32))])) (fun _ k => X0.baloadBytes hx (j := (6 : Int32)) (v := (.int (42 : Int32))) (own_cell e0 Ar24.1) (State.isArrayOf_alike hZ.alike Ar24.2.1) Ar24.2.2 (inb_of S24 hj24) hat24 (g := (mkF m 16 #[.val (.ref a0), .val (.int p1), .val (.int (0 : Int32)), .val (.int (15 : Int32)), .val (.int (p1.toInt8.toInt32)), .val (.int (6 : Int32))] [(.int (6 : Int32)), (.ref a0)])) rfl rfl (hb hby d11_16) _ k) ?_
              refine own_go (U' := s₁.setTop (mkF m 19 #[.val (.ref a0), .val (.int p1), .val (.int (0 : Int32)), .val (.int (15 : Int32)), .val (.int (p1.toInt8.toInt32)), .val (.int (6 : Int32))] [(.int (p1.toInt8.toInt32)), (.int (42 : Int32))])) (fun _ k => XS.iload X0.here hx rfl (hb hby d11_17) rfl k) ?_
              by_cases hc19_25 : (42 : Int32) = (p1.toInt8.toInt32)
              · refine own_go (U' := s₁.setTop (mkF m 22 #[.val (.ref a0), .val (.int p1), .val (.int (0 : Int32)), .val (.int (15 : Int32)), .val (.int (p1.toInt8.toInt32)), .val (.int (6 : Int32))] [])) (fun _ k => XS.icmpNo X0.here hx rfl (hb hby d11_19) rfl (teq hc19_25).2 k) ?_
                refine own_go (U' := s₁.setTop (mkF m 24 #[.val (.ref a0), .val (.int p1), .val (.int (0 : Int32)), .val (.int (15 : Int32)), .val (.int (p1.toInt8.toInt32)), .val (.int (6 : Int32))] [(.int (6 : Int32))])) (fun _ k => XS.iload X0.here hx rfl (hb hby d11_22) rfl k) ?_
                refine own_ret X0 (v := (some (.int (6 : Int32)))) hlk (fun h => by rw [Bd.returns] at h; cases h) (by decide) (by decide) (fun fs hr => own_retI X0 hx Bd.returns (hb hby d11_24) hr) ?_
                show (Q11 Z a0 p1 k1 h0 n0) _ s₁.heap _
                rw [e0]
                exact ⟨by first | (simp only [f_11, if_neg hc19_13, if_neg hc19_15, if_neg hc19_17, if_neg hc19_19, if_neg hc19_21, if_neg hc19_23, if_pos hc19_25]; done) | rfl | (simp [f_11, if_neg hc19_13, if_neg hc19_15, if_neg hc19_17, if_neg hc19_19, if_neg hc19_21, if_neg hc19_23, if_pos hc19_25]; done), N0, rfl⟩
              · refine own_go (U' := s₁.setTop (mkF m 25 #[.val (.ref a0), .val (.int p1), .val (.int (0 : Int32)), .val (.int (15 : Int32)), .val (.int (p1.toInt8.toInt32)), .val (.int (6 : Int32))] [])) (fun _ k => XS.icmpYes X0.here hx rfl (pc0 := 19) (pc' := 25) rfl (hb hby d11_19) rfl (feq hc19_25).2 (by decide) (by decide) k) ?_
                refine own_go (U' := s₁.setTop (mkF m 28 #[.val (.ref a0), .val (.int p1), .val (.int (0 : Int32)), .val (.int (15 : Int32)), .val (.int (p1.toInt8.toInt32)), .val (.int (7 : Int32))] [])) (fun _ k => XS.iinc X0.here hx rfl (hb hby d11_25) rfl (l' := #[.val (.ref a0), .val (.int p1), .val (.int (0 : Int32)), .val (.int (15 : Int32)), .val (.int (p1.toInt8.toInt32)), .val (.int (7 : Int32))]) rfl k) ?_
                refine own_go (U' := s₁.setTop (mkF m 7 #[.val (.ref a0), .val (.int p1), .val (.int (0 : Int32)), .val (.int (15 : Int32)), .val (.int (p1.toInt8.toInt32)), .val (.int (7 : Int32))] [])) (fun _ k => XS.goto X0.here hx rfl (pc0 := 28) (pc' := 7) rfl (hb hby d11_28) (by decide) (by decide) k) ?_
                refine own_go (U' := s₁.setTop (mkF m 9 #[.val (.ref a0), .val (.int p1), .val (.int (0 : Int32)), .val (.int (15 : Int32)), .val (.int (p1.toInt8.toInt32)), .val (.int (7 : Int32))] [(.int (7 : Int32))])) (fun _ k => XS.iload X0.here hx rfl (hb hby d11_7) rfl k) ?_
                refine own_go (U' := s₁.setTop (mkF m 10 #[.val (.ref a0), .val (.int p1), .val (.int (0 : Int32)), .val (.int (15 : Int32)), .val (.int (p1.toInt8.toInt32)), .val (.int (7 : Int32))] [(.int (15 : Int32)), (.int (7 : Int32))])) (fun _ k => XS.iloadN X0.here hx rfl (hb hby d11_9) rfl k) ?_
                refine own_go (U' := s₁.setTop (mkF m 13 #[.val (.ref a0), .val (.int p1), .val (.int (0 : Int32)), .val (.int (15 : Int32)), .val (.int (p1.toInt8.toInt32)), .val (.int (7 : Int32))] [])) (fun _ k => XS.icmpNo X0.here hx rfl (hb hby d11_10) rfl (tlt (by decide : ((7 : Int32) < (15 : Int32)))).2.1 k) ?_
                refine own_go (U' := s₁.setTop (mkF m 14 #[.val (.ref a0), .val (.int p1), .val (.int (0 : Int32)), .val (.int (15 : Int32)), .val (.int (p1.toInt8.toInt32)), .val (.int (7 : Int32))] [(.ref a0)])) (fun _ k => XS.aloadN X0.here hx rfl (hb hby d11_13) rfl rfl k) ?_
                refine own_go (U' := s₁.setTop (mkF m 16 #[.val (.ref a0), .val (.int p1), .val (.int (0 : Int32)), .val (.int (15 : Int32)), .val (.int (p1.toInt8.toInt32)), .val (.int (7 : Int32))] [(.int (7 : Int32)), (.ref a0)])) (fun _ k => XS.iload X0.here hx rfl (hb hby d11_14) rfl k) ?_
                have V26 := V_b
                obtain ⟨cl26, Ar26, q26, S26, Ng26, Hh26, G26⟩ := V26
                have hj26 : ¬ (7 : Int32) < 0 ∧ (7 : Int32) < (15 : Int32) := ⟨by decide, by decide⟩
                have hat26 := own_at S26 Hh26 hj26 (i := 7) (v := (.int (43 : Int32))) rfl rfl
                refine own_go (U' := s₁.setTop (mkF m 17 #[.val (.ref a0), .val (.int p1), .val (.int (0 : Int32)), .val (.int (15 : Int32)), .val (.int (p1.toInt8.toInt32)), .val (.int (7 : Int32))] [(.int (43 : Int32))])) (fun _ k => X0.baloadBytes hx (j := (7 : Int32)) (v := (.int (43 : Int32))) (own_cell e0 Ar26.1) (State.isArrayOf_alike hZ.alike Ar26.2.1) Ar26.2.2 (inb_of S26 hj26) hat26 (g := (mkF m 16 #[.val (.ref a0), .val (.int p1), .val (.int (0 : Int32)), .val (.int (15 : Int32)), .val (.int (p1.toInt8.toInt32)), .val (.int (7 : Int32))] [(.int (7 : Int32)), (.ref a0)])) rfl rfl (hb hby d11_16) _ k) ?_
                refine own_go (U' := s₁.setTop (mkF m 19 #[.val (.ref a0), .val (.int p1), .val (.int (0 : Int32)), .val (.int (15 : Int32)), .val (.int (p1.toInt8.toInt32)), .val (.int (7 : Int32))] [(.int (p1.toInt8.toInt32)), (.int (43 : Int32))])) (fun _ k => XS.iload X0.here hx rfl (hb hby d11_17) rfl k) ?_
                by_cases hc19_27 : (43 : Int32) = (p1.toInt8.toInt32)
                · refine own_go (U' := s₁.setTop (mkF m 22 #[.val (.ref a0), .val (.int p1), .val (.int (0 : Int32)), .val (.int (15 : Int32)), .val (.int (p1.toInt8.toInt32)), .val (.int (7 : Int32))] [])) (fun _ k => XS.icmpNo X0.here hx rfl (hb hby d11_19) rfl (teq hc19_27).2 k) ?_
                  refine own_go (U' := s₁.setTop (mkF m 24 #[.val (.ref a0), .val (.int p1), .val (.int (0 : Int32)), .val (.int (15 : Int32)), .val (.int (p1.toInt8.toInt32)), .val (.int (7 : Int32))] [(.int (7 : Int32))])) (fun _ k => XS.iload X0.here hx rfl (hb hby d11_22) rfl k) ?_
                  refine own_ret X0 (v := (some (.int (7 : Int32)))) hlk (fun h => by rw [Bd.returns] at h; cases h) (by decide) (by decide) (fun fs hr => own_retI X0 hx Bd.returns (hb hby d11_24) hr) ?_
                  show (Q11 Z a0 p1 k1 h0 n0) _ s₁.heap _
                  rw [e0]
                  exact ⟨by first | (simp only [f_11, if_neg hc19_13, if_neg hc19_15, if_neg hc19_17, if_neg hc19_19, if_neg hc19_21, if_neg hc19_23, if_neg hc19_25, if_pos hc19_27]; done) | rfl | (simp [f_11, if_neg hc19_13, if_neg hc19_15, if_neg hc19_17, if_neg hc19_19, if_neg hc19_21, if_neg hc19_23, if_neg hc19_25, if_pos hc19_27]; done), N0, rfl⟩
                · refine own_go (U' := s₁.setTop (mkF m 25 #[.val (.ref a0), .val (.int p1), .val (.int (0 : Int32)), .val (.int (15 : Int32)), .val (.int (p1.toInt8.toInt32)), .val (.int (7 : Int32))] [])) (fun _ k => XS.icmpYes X0.here hx rfl (pc0 := 19) (pc' := 25) rfl (hb hby d11_19) rfl (feq hc19_27).2 (by decide) (by decide) k) ?_
                  refine own_go (U' := s₁.setTop (mkF m 28 #[.val (.ref a0), .val (.int p1), .val (.int (0 : Int32)), .val (.int (15 : Int32)), .val (.int (p1.toInt8.toInt32)), .val (.int (8 : Int32))] [])) (fun _ k => XS.iinc X0.here hx rfl (hb hby d11_25) rfl (l' := #[.val (.ref a0), .val (.int p1), .val (.int (0 : Int32)), .val (.int (15 : Int32)), .val (.int (p1.toInt8.toInt32)), .val (.int (8 : Int32))]) rfl k) ?_
                  refine own_go (U' := s₁.setTop (mkF m 7 #[.val (.ref a0), .val (.int p1), .val (.int (0 : Int32)), .val (.int (15 : Int32)), .val (.int (p1.toInt8.toInt32)), .val (.int (8 : Int32))] [])) (fun _ k => XS.goto X0.here hx rfl (pc0 := 28) (pc' := 7) rfl (hb hby d11_28) (by decide) (by decide) k) ?_
                  refine own_go (U' := s₁.setTop (mkF m 9 #[.val (.ref a0), .val (.int p1), .val (.int (0 : Int32)), .val (.int (15 : Int32)), .val (.int (p1.toInt8.toInt32)), .val (.int (8 : Int32))] [(.int (8 : Int32))])) (fun _ k => XS.iload X0.here hx rfl (hb hby d11_7) rfl k) ?_
                  refine own_go (U' := s₁.setTop (mkF m 10 #[.val (.ref a0), .val (.int p1), .val (.int (0 : Int32)), .val (.int (15 : Int32)), .val (.int (p1.toInt8.toInt32)), .val (.int (8 : Int32))] [(.int (15 : Int32)), (.int (8 : Int32))])) (fun _ k => XS.iloadN X0.here hx rfl (hb hby d11_9) rfl k) ?_
                  refine own_go (U' := s₁.setTop (mkF m 13 #[.val (.ref a0), .val (.int p1), .val (.int (0 : Int32)), .val (.int (15 : Int32)), .val (.int (p1.toInt8.toInt32)), .val (.int (8 : Int32))] [])) (fun _ k => XS.icmpNo X0.here hx rfl (hb hby d11_10) rfl (tlt (by decide : ((8 : Int32) < (15 : Int32)))).2.1 k) ?_
                  refine own_go (U' := s₁.setTop (mkF m 14 #[.val (.ref a0), .val (.int p1), .val (.int (0 : Int32)), .val (.int (15 : Int32)), .val (.int (p1.toInt8.toInt32)), .val (.int (8 : Int32))] [(.ref a0)])) (fun _ k => XS.aloadN X0.here hx rfl (hb hby d11_13) rfl rfl k) ?_
                  refine own_go (U' := s₁.setTop (mkF m 16 #[.val (.ref a0), .val (.int p1), .val (.int (0 : Int32)), .val (.int (15 : Int32)), .val (.int (p1.toInt8.toInt32)), .val (.int (8 : Int32))] [(.int (8 : Int32)), (.ref a0)])) (fun _ k => XS.iload X0.here hx rfl (hb hby d11_14) rfl k) ?_
                  have V28 := V_b
                  obtain ⟨cl28, Ar28, q28, S28, Ng28, Hh28, G28⟩ := V28
                  have hj28 : ¬ (8 : Int32) < 0 ∧ (8 : Int32) < (15 : Int32) := ⟨by decide, by decide⟩
                  have hat28 := own_at S28 Hh28 hj28 (i := 8) (v := (.int (45 : Int32))) rfl rfl
                  refine own_go (U' := s₁.setTop (mkF m 17 #[.val (.ref a0), .val (.int p1), .val (.int (0 : Int32)), .val (.int (15 : Int32)), .val (.int (p1.toInt8.toInt32)), .val (.int (8 : Int32))] [(.int (45 : Int32))])) (fun _ k => X0.baloadBytes hx (j := (8 : Int32)) (v := (.int (45 : Int32))) (own_cell e0 Ar28.1) (State.isArrayOf_alike hZ.alike Ar28.2.1) Ar28.2.2 (inb_of S28 hj28) hat28 (g := (mkF m 16 #[.val (.ref a0), .val (.int p1), .val (.int (0 : Int32)), .val (.int (15 : Int32)), .val (.int (p1.toInt8.toInt32)), .val (.int (8 : Int32))] [(.int (8 : Int32)), (.ref a0)])) rfl rfl (hb hby d11_16) _ k) ?_
                  refine own_go (U' := s₁.setTop (mkF m 19 #[.val (.ref a0), .val (.int p1), .val (.int (0 : Int32)), .val (.int (15 : Int32)), .val (.int (p1.toInt8.toInt32)), .val (.int (8 : Int32))] [(.int (p1.toInt8.toInt32)), (.int (45 : Int32))])) (fun _ k => XS.iload X0.here hx rfl (hb hby d11_17) rfl k) ?_
                  by_cases hc19_29 : (45 : Int32) = (p1.toInt8.toInt32)
                  · refine own_go (U' := s₁.setTop (mkF m 22 #[.val (.ref a0), .val (.int p1), .val (.int (0 : Int32)), .val (.int (15 : Int32)), .val (.int (p1.toInt8.toInt32)), .val (.int (8 : Int32))] [])) (fun _ k => XS.icmpNo X0.here hx rfl (hb hby d11_19) rfl (teq hc19_29).2 k) ?_
                    refine own_go (U' := s₁.setTop (mkF m 24 #[.val (.ref a0), .val (.int p1), .val (.int (0 : Int32)), .val (.int (15 : Int32)), .val (.int (p1.toInt8.toInt32)), .val (.int (8 : Int32))] [(.int (8 : Int32))])) (fun _ k => XS.iload X0.here hx rfl (hb hby d11_22) rfl k) ?_
                    refine own_ret X0 (v := (some (.int (8 : Int32)))) hlk (fun h => by rw [Bd.returns] at h; cases h) (by decide) (by decide) (fun fs hr => own_retI X0 hx Bd.returns (hb hby d11_24) hr) ?_
                    show (Q11 Z a0 p1 k1 h0 n0) _ s₁.heap _
                    rw [e0]
                    exact ⟨by first | (simp only [f_11, if_neg hc19_13, if_neg hc19_15, if_neg hc19_17, if_neg hc19_19, if_neg hc19_21, if_neg hc19_23, if_neg hc19_25, if_neg hc19_27, if_pos hc19_29]; done) | rfl | (simp [f_11, if_neg hc19_13, if_neg hc19_15, if_neg hc19_17, if_neg hc19_19, if_neg hc19_21, if_neg hc19_23, if_neg hc19_25, if_neg hc19_27, if_pos hc19_29]; done), N0, rfl⟩
                  · refine own_go (U' := s₁.setTop (mkF m 25 #[.val (.ref a0), .val (.int p1), .val (.int (0 : Int32)), .val (.int (15 : Int32)), .val (.int (p1.toInt8.toInt32)), .val (.int (8 : Int32))] [])) (fun _ k => XS.icmpYes X0.here hx rfl (pc0 := 19) (pc' := 25) rfl (hb hby d11_19) rfl (feq hc19_29).2 (by decide) (by decide) k) ?_
                    refine own_go (U' := s₁.setTop (mkF m 28 #[.val (.ref a0), .val (.int p1), .val (.int (0 : Int32)), .val (.int (15 : Int32)), .val (.int (p1.toInt8.toInt32)), .val (.int (9 : Int32))] [])) (fun _ k => XS.iinc X0.here hx rfl (hb hby d11_25) rfl (l' := #[.val (.ref a0), .val (.int p1), .val (.int (0 : Int32)), .val (.int (15 : Int32)), .val (.int (p1.toInt8.toInt32)), .val (.int (9 : Int32))]) rfl k) ?_
                    refine own_go (U' := s₁.setTop (mkF m 7 #[.val (.ref a0), .val (.int p1), .val (.int (0 : Int32)), .val (.int (15 : Int32)), .val (.int (p1.toInt8.toInt32)), .val (.int (9 : Int32))] [])) (fun _ k => XS.goto X0.here hx rfl (pc0 := 28) (pc' := 7) rfl (hb hby d11_28) (by decide) (by decide) k) ?_
                    refine own_go (U' := s₁.setTop (mkF m 9 #[.val (.ref a0), .val (.int p1), .val (.int (0 : Int32)), .val (.int (15 : Int32)), .val (.int (p1.toInt8.toInt32)), .val (.int (9 : Int32))] [(.int (9 : Int32))])) (fun _ k => XS.iload X0.here hx rfl (hb hby d11_7) rfl k) ?_
                    refine own_go (U' := s₁.setTop (mkF m 10 #[.val (.ref a0), .val (.int p1), .val (.int (0 : Int32)), .val (.int (15 : Int32)), .val (.int (p1.toInt8.toInt32)), .val (.int (9 : Int32))] [(.int (15 : Int32)), (.int (9 : Int32))])) (fun _ k => XS.iloadN X0.here hx rfl (hb hby d11_9) rfl k) ?_
                    refine own_go (U' := s₁.setTop (mkF m 13 #[.val (.ref a0), .val (.int p1), .val (.int (0 : Int32)), .val (.int (15 : Int32)), .val (.int (p1.toInt8.toInt32)), .val (.int (9 : Int32))] [])) (fun _ k => XS.icmpNo X0.here hx rfl (hb hby d11_10) rfl (tlt (by decide : ((9 : Int32) < (15 : Int32)))).2.1 k) ?_
                    refine own_go (U' := s₁.setTop (mkF m 14 #[.val (.ref a0), .val (.int p1), .val (.int (0 : Int32)), .val (.int (15 : Int32)), .val (.int (p1.toInt8.toInt32)), .val (.int (9 : Int32))] [(.ref a0)])) (fun _ k => XS.aloadN X0.here hx rfl (hb hby d11_13) rfl rfl k) ?_
                    refine own_go (U' := s₁.setTop (mkF m 16 #[.val (.ref a0), .val (.int p1), .val (.int (0 : Int32)), .val (.int (15 : Int32)), .val (.int (p1.toInt8.toInt32)), .val (.int (9 : Int32))] [(.int (9 : Int32)), (.ref a0)])) (fun _ k => XS.iload X0.here hx rfl (hb hby d11_14) rfl k) ?_
                    have V30 := V_b
                    obtain ⟨cl30, Ar30, q30, S30, Ng30, Hh30, G30⟩ := V30
                    have hj30 : ¬ (9 : Int32) < 0 ∧ (9 : Int32) < (15 : Int32) := ⟨by decide, by decide⟩
                    have hat30 := own_at S30 Hh30 hj30 (i := 9) (v := (.int (46 : Int32))) rfl rfl
                    refine own_go (U' := s₁.setTop (mkF m 17 #[.val (.ref a0), .val (.int p1), .val (.int (0 : Int32)), .val (.int (15 : Int32)), .val (.int (p1.toInt8.toInt32)), .val (.int (9 : Int32))] [(.int (46 : Int32))])) (fun _ k => X0.baloadBytes hx (j := (9 : Int32)) (v := (.int (46 : Int32))) (own_cell e0 Ar30.1) (State.isArrayOf_alike hZ.alike Ar30.2.1) Ar30.2.2 (inb_of S30 hj30) hat30 (g := (mkF m 16 #[.val (.ref a0), .val (.int p1), .val (.int (0 : Int32)), .val (.int (15 : Int32)), .val (.int (p1.toInt8.toInt32)), .val (.int (9 : Int32))] [(.int (9 : Int32)), (.ref a0)])) rfl rfl (hb hby d11_16) _ k) ?_
                    refine own_go (U' := s₁.setTop (mkF m 19 #[.val (.ref a0), .val (.int p1), .val (.int (0 : Int32)), .val (.int (15 : Int32)), .val (.int (p1.toInt8.toInt32)), .val (.int (9 : Int32))] [(.int (p1.toInt8.toInt32)), (.int (46 : Int32))])) (fun _ k => XS.iload X0.here hx rfl (hb hby d11_17) rfl k) ?_
                    by_cases hc19_31 : (46 : Int32) = (p1.toInt8.toInt32)
                    · refine own_go (U' := s₁.setTop (mkF m 22 #[.val (.ref a0), .val (.int p1), .val (.int (0 : Int32)), .val (.int (15 : Int32)), .val (.int (p1.toInt8.toInt32)), .val (.int (9 : Int32))] [])) (fun _ k => XS.icmpNo X0.here hx rfl (hb hby d11_19) rfl (teq hc19_31).2 k) ?_
                      refine own_go (U' := s₁.setTop (mkF m 24 #[.val (.ref a0), .val (.int p1), .val (.int (0 : Int32)), .val (.int (15 : Int32)), .val (.int (p1.toInt8.toInt32)), .val (.int (9 : Int32))] [(.int (9 : Int32))])) (fun _ k => XS.iload X0.here hx rfl (hb hby d11_22) rfl k) ?_
                      refine own_ret X0 (v := (some (.int (9 : Int32)))) hlk (fun h => by rw [Bd.returns] at h; cases h) (by decide) (by decide) (fun fs hr => own_retI X0 hx Bd.returns (hb hby d11_24) hr) ?_
                      show (Q11 Z a0 p1 k1 h0 n0) _ s₁.heap _
                      rw [e0]
                      exact ⟨by first | (simp only [f_11, if_neg hc19_13, if_neg hc19_15, if_neg hc19_17, if_neg hc19_19, if_neg hc19_21, if_neg hc19_23, if_neg hc19_25, if_neg hc19_27, if_neg hc19_29, if_pos hc19_31]; done) | rfl | (simp [f_11, if_neg hc19_13, if_neg hc19_15, if_neg hc19_17, if_neg hc19_19, if_neg hc19_21, if_neg hc19_23, if_neg hc19_25, if_neg hc19_27, if_neg hc19_29, if_pos hc19_31]; done), N0, rfl⟩
                    · refine own_go (U' := s₁.setTop (mkF m 25 #[.val (.ref a0), .val (.int p1), .val (.int (0 : Int32)), .val (.int (15 : Int32)), .val (.int (p1.toInt8.toInt32)), .val (.int (9 : Int32))] [])) (fun _ k => XS.icmpYes X0.here hx rfl (pc0 := 19) (pc' := 25) rfl (hb hby d11_19) rfl (feq hc19_31).2 (by decide) (by decide) k) ?_
                      refine own_go (U' := s₁.setTop (mkF m 28 #[.val (.ref a0), .val (.int p1), .val (.int (0 : Int32)), .val (.int (15 : Int32)), .val (.int (p1.toInt8.toInt32)), .val (.int (10 : Int32))] [])) (fun _ k => XS.iinc X0.here hx rfl (hb hby d11_25) rfl (l' := #[.val (.ref a0), .val (.int p1), .val (.int (0 : Int32)), .val (.int (15 : Int32)), .val (.int (p1.toInt8.toInt32)), .val (.int (10 : Int32))]) rfl k) ?_
                      refine own_go (U' := s₁.setTop (mkF m 7 #[.val (.ref a0), .val (.int p1), .val (.int (0 : Int32)), .val (.int (15 : Int32)), .val (.int (p1.toInt8.toInt32)), .val (.int (10 : Int32))] [])) (fun _ k => XS.goto X0.here hx rfl (pc0 := 28) (pc' := 7) rfl (hb hby d11_28) (by decide) (by decide) k) ?_
                      refine own_go (U' := s₁.setTop (mkF m 9 #[.val (.ref a0), .val (.int p1), .val (.int (0 : Int32)), .val (.int (15 : Int32)), .val (.int (p1.toInt8.toInt32)), .val (.int (10 : Int32))] [(.int (10 : Int32))])) (fun _ k => XS.iload X0.here hx rfl (hb hby d11_7) rfl k) ?_
                      refine own_go (U' := s₁.setTop (mkF m 10 #[.val (.ref a0), .val (.int p1), .val (.int (0 : Int32)), .val (.int (15 : Int32)), .val (.int (p1.toInt8.toInt32)), .val (.int (10 : Int32))] [(.int (15 : Int32)), (.int (10 : Int32))])) (fun _ k => XS.iloadN X0.here hx rfl (hb hby d11_9) rfl k) ?_
                      refine own_go (U' := s₁.setTop (mkF m 13 #[.val (.ref a0), .val (.int p1), .val (.int (0 : Int32)), .val (.int (15 : Int32)), .val (.int (p1.toInt8.toInt32)), .val (.int (10 : Int32))] [])) (fun _ k => XS.icmpNo X0.here hx rfl (hb hby d11_10) rfl (tlt (by decide : ((10 : Int32) < (15 : Int32)))).2.1 k) ?_
                      refine own_go (U' := s₁.setTop (mkF m 14 #[.val (.ref a0), .val (.int p1), .val (.int (0 : Int32)), .val (.int (15 : Int32)), .val (.int (p1.toInt8.toInt32)), .val (.int (10 : Int32))] [(.ref a0)])) (fun _ k => XS.aloadN X0.here hx rfl (hb hby d11_13) rfl rfl k) ?_
                      refine own_go (U' := s₁.setTop (mkF m 16 #[.val (.ref a0), .val (.int p1), .val (.int (0 : Int32)), .val (.int (15 : Int32)), .val (.int (p1.toInt8.toInt32)), .val (.int (10 : Int32))] [(.int (10 : Int32)), (.ref a0)])) (fun _ k => XS.iload X0.here hx rfl (hb hby d11_14) rfl k) ?_
                      have V32 := V_b
                      obtain ⟨cl32, Ar32, q32, S32, Ng32, Hh32, G32⟩ := V32
                      have hj32 : ¬ (10 : Int32) < 0 ∧ (10 : Int32) < (15 : Int32) := ⟨by decide, by decide⟩
                      have hat32 := own_at S32 Hh32 hj32 (i := 10) (v := (.int (94 : Int32))) rfl rfl
                      refine own_go (U' := s₁.setTop (mkF m 17 #[.val (.ref a0), .val (.int p1), .val (.int (0 : Int32)), .val (.int (15 : Int32)), .val (.int (p1.toInt8.toInt32)), .val (.int (10 : Int32))] [(.int (94 : Int32))])) (fun _ k => X0.baloadBytes hx (j := (10 : Int32)) (v := (.int (94 : Int32))) (own_cell e0 Ar32.1) (State.isArrayOf_alike hZ.alike Ar32.2.1) Ar32.2.2 (inb_of S32 hj32) hat32 (g := (mkF m 16 #[.val (.ref a0), .val (.int p1), .val (.int (0 : Int32)), .val (.int (15 : Int32)), .val (.int (p1.toInt8.toInt32)), .val (.int (10 : Int32))] [(.int (10 : Int32)), (.ref a0)])) rfl rfl (hb hby d11_16) _ k) ?_
                      refine own_go (U' := s₁.setTop (mkF m 19 #[.val (.ref a0), .val (.int p1), .val (.int (0 : Int32)), .val (.int (15 : Int32)), .val (.int (p1.toInt8.toInt32)), .val (.int (10 : Int32))] [(.int (p1.toInt8.toInt32)), (.int (94 : Int32))])) (fun _ k => XS.iload X0.here hx rfl (hb hby d11_17) rfl k) ?_
                      by_cases hc19_33 : (94 : Int32) = (p1.toInt8.toInt32)
                      · refine own_go (U' := s₁.setTop (mkF m 22 #[.val (.ref a0), .val (.int p1), .val (.int (0 : Int32)), .val (.int (15 : Int32)), .val (.int (p1.toInt8.toInt32)), .val (.int (10 : Int32))] [])) (fun _ k => XS.icmpNo X0.here hx rfl (hb hby d11_19) rfl (teq hc19_33).2 k) ?_
                        refine own_go (U' := s₁.setTop (mkF m 24 #[.val (.ref a0), .val (.int p1), .val (.int (0 : Int32)), .val (.int (15 : Int32)), .val (.int (p1.toInt8.toInt32)), .val (.int (10 : Int32))] [(.int (10 : Int32))])) (fun _ k => XS.iload X0.here hx rfl (hb hby d11_22) rfl k) ?_
                        refine own_ret X0 (v := (some (.int (10 : Int32)))) hlk (fun h => by rw [Bd.returns] at h; cases h) (by decide) (by decide) (fun fs hr => own_retI X0 hx Bd.returns (hb hby d11_24) hr) ?_
                        show (Q11 Z a0 p1 k1 h0 n0) _ s₁.heap _
                        rw [e0]
                        exact ⟨by first | (simp only [f_11, if_neg hc19_13, if_neg hc19_15, if_neg hc19_17, if_neg hc19_19, if_neg hc19_21, if_neg hc19_23, if_neg hc19_25, if_neg hc19_27, if_neg hc19_29, if_neg hc19_31, if_pos hc19_33]; done) | rfl | (simp [f_11, if_neg hc19_13, if_neg hc19_15, if_neg hc19_17, if_neg hc19_19, if_neg hc19_21, if_neg hc19_23, if_neg hc19_25, if_neg hc19_27, if_neg hc19_29, if_neg hc19_31, if_pos hc19_33]; done), N0, rfl⟩
                      · refine own_go (U' := s₁.setTop (mkF m 25 #[.val (.ref a0), .val (.int p1), .val (.int (0 : Int32)), .val (.int (15 : Int32)), .val (.int (p1.toInt8.toInt32)), .val (.int (10 : Int32))] [])) (fun _ k => XS.icmpYes X0.here hx rfl (pc0 := 19) (pc' := 25) rfl (hb hby d11_19) rfl (feq hc19_33).2 (by decide) (by decide) k) ?_
                        refine own_go (U' := s₁.setTop (mkF m 28 #[.val (.ref a0), .val (.int p1), .val (.int (0 : Int32)), .val (.int (15 : Int32)), .val (.int (p1.toInt8.toInt32)), .val (.int (11 : Int32))] [])) (fun _ k => XS.iinc X0.here hx rfl (hb hby d11_25) rfl (l' := #[.val (.ref a0), .val (.int p1), .val (.int (0 : Int32)), .val (.int (15 : Int32)), .val (.int (p1.toInt8.toInt32)), .val (.int (11 : Int32))]) rfl k) ?_
                        refine own_go (U' := s₁.setTop (mkF m 7 #[.val (.ref a0), .val (.int p1), .val (.int (0 : Int32)), .val (.int (15 : Int32)), .val (.int (p1.toInt8.toInt32)), .val (.int (11 : Int32))] [])) (fun _ k => XS.goto X0.here hx rfl (pc0 := 28) (pc' := 7) rfl (hb hby d11_28) (by decide) (by decide) k) ?_
                        refine own_go (U' := s₁.setTop (mkF m 9 #[.val (.ref a0), .val (.int p1), .val (.int (0 : Int32)), .val (.int (15 : Int32)), .val (.int (p1.toInt8.toInt32)), .val (.int (11 : Int32))] [(.int (11 : Int32))])) (fun _ k => XS.iload X0.here hx rfl (hb hby d11_7) rfl k) ?_
                        refine own_go (U' := s₁.setTop (mkF m 10 #[.val (.ref a0), .val (.int p1), .val (.int (0 : Int32)), .val (.int (15 : Int32)), .val (.int (p1.toInt8.toInt32)), .val (.int (11 : Int32))] [(.int (15 : Int32)), (.int (11 : Int32))])) (fun _ k => XS.iloadN X0.here hx rfl (hb hby d11_9) rfl k) ?_
                        refine own_go (U' := s₁.setTop (mkF m 13 #[.val (.ref a0), .val (.int p1), .val (.int (0 : Int32)), .val (.int (15 : Int32)), .val (.int (p1.toInt8.toInt32)), .val (.int (11 : Int32))] [])) (fun _ k => XS.icmpNo X0.here hx rfl (hb hby d11_10) rfl (tlt (by decide : ((11 : Int32) < (15 : Int32)))).2.1 k) ?_
                        refine own_go (U' := s₁.setTop (mkF m 14 #[.val (.ref a0), .val (.int p1), .val (.int (0 : Int32)), .val (.int (15 : Int32)), .val (.int (p1.toInt8.toInt32)), .val (.int (11 : Int32))] [(.ref a0)])) (fun _ k => XS.aloadN X0.here hx rfl (hb hby d11_13) rfl rfl k) ?_
                        refine own_go (U' := s₁.setTop (mkF m 16 #[.val (.ref a0), .val (.int p1), .val (.int (0 : Int32)), .val (.int (15 : Int32)), .val (.int (p1.toInt8.toInt32)), .val (.int (11 : Int32))] [(.int (11 : Int32)), (.ref a0)])) (fun _ k => XS.iload X0.here hx rfl (hb hby d11_14) rfl k) ?_
                        have V34 := V_b
                        obtain ⟨cl34, Ar34, q34, S34, Ng34, Hh34, G34⟩ := V34
                        have hj34 : ¬ (11 : Int32) < 0 ∧ (11 : Int32) < (15 : Int32) := ⟨by decide, by decide⟩
                        have hat34 := own_at S34 Hh34 hj34 (i := 11) (v := (.int (95 : Int32))) rfl rfl
                        refine own_go (U' := s₁.setTop (mkF m 17 #[.val (.ref a0), .val (.int p1), .val (.int (0 : Int32)), .val (.int (15 : Int32)), .val (.int (p1.toInt8.toInt32)), .val (.int (11 : Int32))] [(.int (95 : Int32))])) (fun _ k => X0.baloadBytes hx (j := (11 : Int32)) (v := (.int (95 : Int32))) (own_cell e0 Ar34.1) (State.isArrayOf_alike hZ.alike Ar34.2.1) Ar34.2.2 (inb_of S34 hj34) hat34 (g := (mkF m 16 #[.val (.ref a0), .val (.int p1), .val (.int (0 : Int32)), .val (.int (15 : Int32)), .val (.int (p1.toInt8.toInt32)), .val (.int (11 : Int32))] [(.int (11 : Int32)), (.ref a0)])) rfl rfl (hb hby d11_16) _ k) ?_
                        refine own_go (U' := s₁.setTop (mkF m 19 #[.val (.ref a0), .val (.int p1), .val (.int (0 : Int32)), .val (.int (15 : Int32)), .val (.int (p1.toInt8.toInt32)), .val (.int (11 : Int32))] [(.int (p1.toInt8.toInt32)), (.int (95 : Int32))])) (fun _ k => XS.iload X0.here hx rfl (hb hby d11_17) rfl k) ?_
                        by_cases hc19_35 : (95 : Int32) = (p1.toInt8.toInt32)
                        · refine own_go (U' := s₁.setTop (mkF m 22 #[.val (.ref a0), .val (.int p1), .val (.int (0 : Int32)), .val (.int (15 : Int32)), .val (.int (p1.toInt8.toInt32)), .val (.int (11 : Int32))] [])) (fun _ k => XS.icmpNo X0.here hx rfl (hb hby d11_19) rfl (teq hc19_35).2 k) ?_
                          refine own_go (U' := s₁.setTop (mkF m 24 #[.val (.ref a0), .val (.int p1), .val (.int (0 : Int32)), .val (.int (15 : Int32)), .val (.int (p1.toInt8.toInt32)), .val (.int (11 : Int32))] [(.int (11 : Int32))])) (fun _ k => XS.iload X0.here hx rfl (hb hby d11_22) rfl k) ?_
                          refine own_ret X0 (v := (some (.int (11 : Int32)))) hlk (fun h => by rw [Bd.returns] at h; cases h) (by decide) (by decide) (fun fs hr => own_retI X0 hx Bd.returns (hb hby d11_24) hr) ?_
                          show (Q11 Z a0 p1 k1 h0 n0) _ s₁.heap _
                          rw [e0]
                          exact ⟨by first | (simp only [f_11, if_neg hc19_13, if_neg hc19_15, if_neg hc19_17, if_neg hc19_19, if_neg hc19_21, if_neg hc19_23, if_neg hc19_25, if_neg hc19_27, if_neg hc19_29, if_neg hc19_31, if_neg hc19_33, if_pos hc19_35]; done) | rfl | (simp [f_11, if_neg hc19_13, if_neg hc19_15, if_neg hc19_17, if_neg hc19_19, if_neg hc19_21, if_neg hc19_23, if_neg hc19_25, if_neg hc19_27, if_neg hc19_29, if_neg hc19_31, if_neg hc19_33, if_pos hc19_35]; done), N0, rfl⟩
                        · refine own_go (U' := s₁.setTop (mkF m 25 #[.val (.ref a0), .val (.int p1), .val (.int (0 : Int32)), .val (.int (15 : Int32)), .val (.int (p1.toInt8.toInt32)), .val (.int (11 : Int32))] [])) (fun _ k => XS.icmpYes X0.here hx rfl (pc0 := 19) (pc' := 25) rfl (hb hby d11_19) rfl (feq hc19_35).2 (by decide) (by decide) k) ?_
                          refine own_go (U' := s₁.setTop (mkF m 28 #[.val (.ref a0), .val (.int p1), .val (.int (0 : Int32)), .val (.int (15 : Int32)), .val (.int (p1.toInt8.toInt32)), .val (.int (12 : Int32))] [])) (fun _ k => XS.iinc X0.here hx rfl (hb hby d11_25) rfl (l' := #[.val (.ref a0), .val (.int p1), .val (.int (0 : Int32)), .val (.int (15 : Int32)), .val (.int (p1.toInt8.toInt32)), .val (.int (12 : Int32))]) rfl k) ?_
                          refine own_go (U' := s₁.setTop (mkF m 7 #[.val (.ref a0), .val (.int p1), .val (.int (0 : Int32)), .val (.int (15 : Int32)), .val (.int (p1.toInt8.toInt32)), .val (.int (12 : Int32))] [])) (fun _ k => XS.goto X0.here hx rfl (pc0 := 28) (pc' := 7) rfl (hb hby d11_28) (by decide) (by decide) k) ?_
                          refine own_go (U' := s₁.setTop (mkF m 9 #[.val (.ref a0), .val (.int p1), .val (.int (0 : Int32)), .val (.int (15 : Int32)), .val (.int (p1.toInt8.toInt32)), .val (.int (12 : Int32))] [(.int (12 : Int32))])) (fun _ k => XS.iload X0.here hx rfl (hb hby d11_7) rfl k) ?_
                          refine own_go (U' := s₁.setTop (mkF m 10 #[.val (.ref a0), .val (.int p1), .val (.int (0 : Int32)), .val (.int (15 : Int32)), .val (.int (p1.toInt8.toInt32)), .val (.int (12 : Int32))] [(.int (15 : Int32)), (.int (12 : Int32))])) (fun _ k => XS.iloadN X0.here hx rfl (hb hby d11_9) rfl k) ?_
                          refine own_go (U' := s₁.setTop (mkF m 13 #[.val (.ref a0), .val (.int p1), .val (.int (0 : Int32)), .val (.int (15 : Int32)), .val (.int (p1.toInt8.toInt32)), .val (.int (12 : Int32))] [])) (fun _ k => XS.icmpNo X0.here hx rfl (hb hby d11_10) rfl (tlt (by decide : ((12 : Int32) < (15 : Int32)))).2.1 k) ?_
                          refine own_go (U' := s₁.setTop (mkF m 14 #[.val (.ref a0), .val (.int p1), .val (.int (0 : Int32)), .val (.int (15 : Int32)), .val (.int (p1.toInt8.toInt32)), .val (.int (12 : Int32))] [(.ref a0)])) (fun _ k => XS.aloadN X0.here hx rfl (hb hby d11_13) rfl rfl k) ?_
                          refine own_go (U' := s₁.setTop (mkF m 16 #[.val (.ref a0), .val (.int p1), .val (.int (0 : Int32)), .val (.int (15 : Int32)), .val (.int (p1.toInt8.toInt32)), .val (.int (12 : Int32))] [(.int (12 : Int32)), (.ref a0)])) (fun _ k => XS.iload X0.here hx rfl (hb hby d11_14) rfl k) ?_
                          have V36 := V_b
                          obtain ⟨cl36, Ar36, q36, S36, Ng36, Hh36, G36⟩ := V36
                          have hj36 : ¬ (12 : Int32) < 0 ∧ (12 : Int32) < (15 : Int32) := ⟨by decide, by decide⟩
                          have hat36 := own_at S36 Hh36 hj36 (i := 12) (v := (.int (96 : Int32))) rfl rfl
                          refine own_go (U' := s₁.setTop (mkF m 17 #[.val (.ref a0), .val (.int p1), .val (.int (0 : Int32)), .val (.int (15 : Int32)), .val (.int (p1.toInt8.toInt32)), .val (.int (12 : Int32))] [(.int (96 : Int32))])) (fun _ k => X0.baloadBytes hx (j := (12 : Int32)) (v := (.int (96 : Int32))) (own_cell e0 Ar36.1) (State.isArrayOf_alike hZ.alike Ar36.2.1) Ar36.2.2 (inb_of S36 hj36) hat36 (g := (mkF m 16 #[.val (.ref a0), .val (.int p1), .val (.int (0 : Int32)), .val (.int (15 : Int32)), .val (.int (p1.toInt8.toInt32)), .val (.int (12 : Int32))] [(.int (12 : Int32)), (.ref a0)])) rfl rfl (hb hby d11_16) _ k) ?_
                          refine own_go (U' := s₁.setTop (mkF m 19 #[.val (.ref a0), .val (.int p1), .val (.int (0 : Int32)), .val (.int (15 : Int32)), .val (.int (p1.toInt8.toInt32)), .val (.int (12 : Int32))] [(.int (p1.toInt8.toInt32)), (.int (96 : Int32))])) (fun _ k => XS.iload X0.here hx rfl (hb hby d11_17) rfl k) ?_
                          by_cases hc19_37 : (96 : Int32) = (p1.toInt8.toInt32)
                          · refine own_go (U' := s₁.setTop (mkF m 22 #[.val (.ref a0), .val (.int p1), .val (.int (0 : Int32)), .val (.int (15 : Int32)), .val (.int (p1.toInt8.toInt32)), .val (.int (12 : Int32))] [])) (fun _ k => XS.icmpNo X0.here hx rfl (hb hby d11_19) rfl (teq hc19_37).2 k) ?_
                            refine own_go (U' := s₁.setTop (mkF m 24 #[.val (.ref a0), .val (.int p1), .val (.int (0 : Int32)), .val (.int (15 : Int32)), .val (.int (p1.toInt8.toInt32)), .val (.int (12 : Int32))] [(.int (12 : Int32))])) (fun _ k => XS.iload X0.here hx rfl (hb hby d11_22) rfl k) ?_
                            refine own_ret X0 (v := (some (.int (12 : Int32)))) hlk (fun h => by rw [Bd.returns] at h; cases h) (by decide) (by decide) (fun fs hr => own_retI X0 hx Bd.returns (hb hby d11_24) hr) ?_
                            show (Q11 Z a0 p1 k1 h0 n0) _ s₁.heap _
                            rw [e0]
                            exact ⟨by first | (simp only [f_11, if_neg hc19_13, if_neg hc19_15, if_neg hc19_17, if_neg hc19_19, if_neg hc19_21, if_neg hc19_23, if_neg hc19_25, if_neg hc19_27, if_neg hc19_29, if_neg hc19_31, if_neg hc19_33, if_neg hc19_35, if_pos hc19_37]; done) | rfl | (simp [f_11, if_neg hc19_13, if_neg hc19_15, if_neg hc19_17, if_neg hc19_19, if_neg hc19_21, if_neg hc19_23, if_neg hc19_25, if_neg hc19_27, if_neg hc19_29, if_neg hc19_31, if_neg hc19_33, if_neg hc19_35, if_pos hc19_37]; done), N0, rfl⟩
                          · refine own_go (U' := s₁.setTop (mkF m 25 #[.val (.ref a0), .val (.int p1), .val (.int (0 : Int32)), .val (.int (15 : Int32)), .val (.int (p1.toInt8.toInt32)), .val (.int (12 : Int32))] [])) (fun _ k => XS.icmpYes X0.here hx rfl (pc0 := 19) (pc' := 25) rfl (hb hby d11_19) rfl (feq hc19_37).2 (by decide) (by decide) k) ?_
                            refine own_go (U' := s₁.setTop (mkF m 28 #[.val (.ref a0), .val (.int p1), .val (.int (0 : Int32)), .val (.int (15 : Int32)), .val (.int (p1.toInt8.toInt32)), .val (.int (13 : Int32))] [])) (fun _ k => XS.iinc X0.here hx rfl (hb hby d11_25) rfl (l' := #[.val (.ref a0), .val (.int p1), .val (.int (0 : Int32)), .val (.int (15 : Int32)), .val (.int (p1.toInt8.toInt32)), .val (.int (13 : Int32))]) rfl k) ?_
                            refine own_go (U' := s₁.setTop (mkF m 7 #[.val (.ref a0), .val (.int p1), .val (.int (0 : Int32)), .val (.int (15 : Int32)), .val (.int (p1.toInt8.toInt32)), .val (.int (13 : Int32))] [])) (fun _ k => XS.goto X0.here hx rfl (pc0 := 28) (pc' := 7) rfl (hb hby d11_28) (by decide) (by decide) k) ?_
                            refine own_go (U' := s₁.setTop (mkF m 9 #[.val (.ref a0), .val (.int p1), .val (.int (0 : Int32)), .val (.int (15 : Int32)), .val (.int (p1.toInt8.toInt32)), .val (.int (13 : Int32))] [(.int (13 : Int32))])) (fun _ k => XS.iload X0.here hx rfl (hb hby d11_7) rfl k) ?_
                            refine own_go (U' := s₁.setTop (mkF m 10 #[.val (.ref a0), .val (.int p1), .val (.int (0 : Int32)), .val (.int (15 : Int32)), .val (.int (p1.toInt8.toInt32)), .val (.int (13 : Int32))] [(.int (15 : Int32)), (.int (13 : Int32))])) (fun _ k => XS.iloadN X0.here hx rfl (hb hby d11_9) rfl k) ?_
                            refine own_go (U' := s₁.setTop (mkF m 13 #[.val (.ref a0), .val (.int p1), .val (.int (0 : Int32)), .val (.int (15 : Int32)), .val (.int (p1.toInt8.toInt32)), .val (.int (13 : Int32))] [])) (fun _ k => XS.icmpNo X0.here hx rfl (hb hby d11_10) rfl (tlt (by decide : ((13 : Int32) < (15 : Int32)))).2.1 k) ?_
                            refine own_go (U' := s₁.setTop (mkF m 14 #[.val (.ref a0), .val (.int p1), .val (.int (0 : Int32)), .val (.int (15 : Int32)), .val (.int (p1.toInt8.toInt32)), .val (.int (13 : Int32))] [(.ref a0)])) (fun _ k => XS.aloadN X0.here hx rfl (hb hby d11_13) rfl rfl k) ?_
                            refine own_go (U' := s₁.setTop (mkF m 16 #[.val (.ref a0), .val (.int p1), .val (.int (0 : Int32)), .val (.int (15 : Int32)), .val (.int (p1.toInt8.toInt32)), .val (.int (13 : Int32))] [(.int (13 : Int32)), (.ref a0)])) (fun _ k => XS.iload X0.here hx rfl (hb hby d11_14) rfl k) ?_
                            have V38 := V_b
                            obtain ⟨cl38, Ar38, q38, S38, Ng38, Hh38, G38⟩ := V38
                            have hj38 : ¬ (13 : Int32) < 0 ∧ (13 : Int32) < (15 : Int32) := ⟨by decide, by decide⟩
                            have hat38 := own_at S38 Hh38 hj38 (i := 13) (v := (.int (124 : Int32))) rfl rfl
                            refine own_go (U' := s₁.setTop (mkF m 17 #[.val (.ref a0), .val (.int p1), .val (.int (0 : Int32)), .val (.int (15 : Int32)), .val (.int (p1.toInt8.toInt32)), .val (.int (13 : Int32))] [(.int (124 : Int32))])) (fun _ k => X0.baloadBytes hx (j := (13 : Int32)) (v := (.int (124 : Int32))) (own_cell e0 Ar38.1) (State.isArrayOf_alike hZ.alike Ar38.2.1) Ar38.2.2 (inb_of S38 hj38) hat38 (g := (mkF m 16 #[.val (.ref a0), .val (.int p1), .val (.int (0 : Int32)), .val (.int (15 : Int32)), .val (.int (p1.toInt8.toInt32)), .val (.int (13 : Int32))] [(.int (13 : Int32)), (.ref a0)])) rfl rfl (hb hby d11_16) _ k) ?_
                            refine own_go (U' := s₁.setTop (mkF m 19 #[.val (.ref a0), .val (.int p1), .val (.int (0 : Int32)), .val (.int (15 : Int32)), .val (.int (p1.toInt8.toInt32)), .val (.int (13 : Int32))] [(.int (p1.toInt8.toInt32)), (.int (124 : Int32))])) (fun _ k => XS.iload X0.here hx rfl (hb hby d11_17) rfl k) ?_
                            by_cases hc19_39 : (124 : Int32) = (p1.toInt8.toInt32)
                            · refine own_go (U' := s₁.setTop (mkF m 22 #[.val (.ref a0), .val (.int p1), .val (.int (0 : Int32)), .val (.int (15 : Int32)), .val (.int (p1.toInt8.toInt32)), .val (.int (13 : Int32))] [])) (fun _ k => XS.icmpNo X0.here hx rfl (hb hby d11_19) rfl (teq hc19_39).2 k) ?_
                              refine own_go (U' := s₁.setTop (mkF m 24 #[.val (.ref a0), .val (.int p1), .val (.int (0 : Int32)), .val (.int (15 : Int32)), .val (.int (p1.toInt8.toInt32)), .val (.int (13 : Int32))] [(.int (13 : Int32))])) (fun _ k => XS.iload X0.here hx rfl (hb hby d11_22) rfl k) ?_
                              refine own_ret X0 (v := (some (.int (13 : Int32)))) hlk (fun h => by rw [Bd.returns] at h; cases h) (by decide) (by decide) (fun fs hr => own_retI X0 hx Bd.returns (hb hby d11_24) hr) ?_
                              show (Q11 Z a0 p1 k1 h0 n0) _ s₁.heap _
                              rw [e0]
                              exact ⟨by first | (simp only [f_11, if_neg hc19_13, if_neg hc19_15, if_neg hc19_17, if_neg hc19_19, if_neg hc19_21, if_neg hc19_23, if_neg hc19_25, if_neg hc19_27, if_neg hc19_29, if_neg hc19_31, if_neg hc19_33, if_neg hc19_35, if_neg hc19_37, if_pos hc19_39]; done) | rfl | (simp [f_11, if_neg hc19_13, if_neg hc19_15, if_neg hc19_17, if_neg hc19_19, if_neg hc19_21, if_neg hc19_23, if_neg hc19_25, if_neg hc19_27, if_neg hc19_29, if_neg hc19_31, if_neg hc19_33, if_neg hc19_35, if_neg hc19_37, if_pos hc19_39]; done), N0, rfl⟩
                            · refine own_go (U' := s₁.setTop (mkF m 25 #[.val (.ref a0), .val (.int p1), .val (.int (0 : Int32)), .val (.int (15 : Int32)), .val (.int (p1.toInt8.toInt32)), .val (.int (13 : Int32))] [])) (fun _ k => XS.icmpYes X0.here hx rfl (pc0 := 19) (pc' := 25) rfl (hb hby d11_19) rfl (feq hc19_39).2 (by decide) (by decide) k) ?_
                              refine own_go (U' := s₁.setTop (mkF m 28 #[.val (.ref a0), .val (.int p1), .val (.int (0 : Int32)), .val (.int (15 : Int32)), .val (.int (p1.toInt8.toInt32)), .val (.int (14 : Int32))] [])) (fun _ k => XS.iinc X0.here hx rfl (hb hby d11_25) rfl (l' := #[.val (.ref a0), .val (.int p1), .val (.int (0 : Int32)), .val (.int (15 : Int32)), .val (.int (p1.toInt8.toInt32)), .val (.int (14 : Int32))]) rfl k) ?_
                              refine own_go (U' := s₁.setTop (mkF m 7 #[.val (.ref a0), .val (.int p1), .val (.int (0 : Int32)), .val (.int (15 : Int32)), .val (.int (p1.toInt8.toInt32)), .val (.int (14 : Int32))] [])) (fun _ k => XS.goto X0.here hx rfl (pc0 := 28) (pc' := 7) rfl (hb hby d11_28) (by decide) (by decide) k) ?_
                              refine own_go (U' := s₁.setTop (mkF m 9 #[.val (.ref a0), .val (.int p1), .val (.int (0 : Int32)), .val (.int (15 : Int32)), .val (.int (p1.toInt8.toInt32)), .val (.int (14 : Int32))] [(.int (14 : Int32))])) (fun _ k => XS.iload X0.here hx rfl (hb hby d11_7) rfl k) ?_
                              refine own_go (U' := s₁.setTop (mkF m 10 #[.val (.ref a0), .val (.int p1), .val (.int (0 : Int32)), .val (.int (15 : Int32)), .val (.int (p1.toInt8.toInt32)), .val (.int (14 : Int32))] [(.int (15 : Int32)), (.int (14 : Int32))])) (fun _ k => XS.iloadN X0.here hx rfl (hb hby d11_9) rfl k) ?_
                              refine own_go (U' := s₁.setTop (mkF m 13 #[.val (.ref a0), .val (.int p1), .val (.int (0 : Int32)), .val (.int (15 : Int32)), .val (.int (p1.toInt8.toInt32)), .val (.int (14 : Int32))] [])) (fun _ k => XS.icmpNo X0.here hx rfl (hb hby d11_10) rfl (tlt (by decide : ((14 : Int32) < (15 : Int32)))).2.1 k) ?_
                              refine own_go (U' := s₁.setTop (mkF m 14 #[.val (.ref a0), .val (.int p1), .val (.int (0 : Int32)), .val (.int (15 : Int32)), .val (.int (p1.toInt8.toInt32)), .val (.int (14 : Int32))] [(.ref a0)])) (fun _ k => XS.aloadN X0.here hx rfl (hb hby d11_13) rfl rfl k) ?_
                              refine own_go (U' := s₁.setTop (mkF m 16 #[.val (.ref a0), .val (.int p1), .val (.int (0 : Int32)), .val (.int (15 : Int32)), .val (.int (p1.toInt8.toInt32)), .val (.int (14 : Int32))] [(.int (14 : Int32)), (.ref a0)])) (fun _ k => XS.iload X0.here hx rfl (hb hby d11_14) rfl k) ?_
                              have V40 := V_b
                              obtain ⟨cl40, Ar40, q40, S40, Ng40, Hh40, G40⟩ := V40
                              have hj40 : ¬ (14 : Int32) < 0 ∧ (14 : Int32) < (15 : Int32) := ⟨by decide, by decide⟩
                              have hat40 := own_at S40 Hh40 hj40 (i := 14) (v := (.int (126 : Int32))) rfl rfl
                              refine own_go (U' := s₁.setTop (mkF m 17 #[.val (.ref a0), .val (.int p1), .val (.int (0 : Int32)), .val (.int (15 : Int32)), .val (.int (p1.toInt8.toInt32)), .val (.int (14 : Int32))] [(.int (126 : Int32))])) (fun _ k => X0.baloadBytes hx (j := (14 : Int32)) (v := (.int (126 : Int32))) (own_cell e0 Ar40.1) (State.isArrayOf_alike hZ.alike Ar40.2.1) Ar40.2.2 (inb_of S40 hj40) hat40 (g := (mkF m 16 #[.val (.ref a0), .val (.int p1), .val (.int (0 : Int32)), .val (.int (15 : Int32)), .val (.int (p1.toInt8.toInt32)), .val (.int (14 : Int32))] [(.int (14 : Int32)), (.ref a0)])) rfl rfl (hb hby d11_16) _ k) ?_
                              refine own_go (U' := s₁.setTop (mkF m 19 #[.val (.ref a0), .val (.int p1), .val (.int (0 : Int32)), .val (.int (15 : Int32)), .val (.int (p1.toInt8.toInt32)), .val (.int (14 : Int32))] [(.int (p1.toInt8.toInt32)), (.int (126 : Int32))])) (fun _ k => XS.iload X0.here hx rfl (hb hby d11_17) rfl k) ?_
                              by_cases hc19_41 : (126 : Int32) = (p1.toInt8.toInt32)
                              · refine own_go (U' := s₁.setTop (mkF m 22 #[.val (.ref a0), .val (.int p1), .val (.int (0 : Int32)), .val (.int (15 : Int32)), .val (.int (p1.toInt8.toInt32)), .val (.int (14 : Int32))] [])) (fun _ k => XS.icmpNo X0.here hx rfl (hb hby d11_19) rfl (teq hc19_41).2 k) ?_
                                refine own_go (U' := s₁.setTop (mkF m 24 #[.val (.ref a0), .val (.int p1), .val (.int (0 : Int32)), .val (.int (15 : Int32)), .val (.int (p1.toInt8.toInt32)), .val (.int (14 : Int32))] [(.int (14 : Int32))])) (fun _ k => XS.iload X0.here hx rfl (hb hby d11_22) rfl k) ?_
                                refine own_ret X0 (v := (some (.int (14 : Int32)))) hlk (fun h => by rw [Bd.returns] at h; cases h) (by decide) (by decide) (fun fs hr => own_retI X0 hx Bd.returns (hb hby d11_24) hr) ?_
                                show (Q11 Z a0 p1 k1 h0 n0) _ s₁.heap _
                                rw [e0]
                                exact ⟨by first | (simp only [f_11, if_neg hc19_13, if_neg hc19_15, if_neg hc19_17, if_neg hc19_19, if_neg hc19_21, if_neg hc19_23, if_neg hc19_25, if_neg hc19_27, if_neg hc19_29, if_neg hc19_31, if_neg hc19_33, if_neg hc19_35, if_neg hc19_37, if_neg hc19_39, if_pos hc19_41]; done) | rfl | (simp [f_11, if_neg hc19_13, if_neg hc19_15, if_neg hc19_17, if_neg hc19_19, if_neg hc19_21, if_neg hc19_23, if_neg hc19_25, if_neg hc19_27, if_neg hc19_29, if_neg hc19_31, if_neg hc19_33, if_neg hc19_35, if_neg hc19_37, if_neg hc19_39, if_pos hc19_41]; done), N0, rfl⟩
                              · refine own_go (U' := s₁.setTop (mkF m 25 #[.val (.ref a0), .val (.int p1), .val (.int (0 : Int32)), .val (.int (15 : Int32)), .val (.int (p1.toInt8.toInt32)), .val (.int (14 : Int32))] [])) (fun _ k => XS.icmpYes X0.here hx rfl (pc0 := 19) (pc' := 25) rfl (hb hby d11_19) rfl (feq hc19_41).2 (by decide) (by decide) k) ?_
                                refine own_go (U' := s₁.setTop (mkF m 28 #[.val (.ref a0), .val (.int p1), .val (.int (0 : Int32)), .val (.int (15 : Int32)), .val (.int (p1.toInt8.toInt32)), .val (.int (15 : Int32))] [])) (fun _ k => XS.iinc X0.here hx rfl (hb hby d11_25) rfl (l' := #[.val (.ref a0), .val (.int p1), .val (.int (0 : Int32)), .val (.int (15 : Int32)), .val (.int (p1.toInt8.toInt32)), .val (.int (15 : Int32))]) rfl k) ?_
                                refine own_go (U' := s₁.setTop (mkF m 7 #[.val (.ref a0), .val (.int p1), .val (.int (0 : Int32)), .val (.int (15 : Int32)), .val (.int (p1.toInt8.toInt32)), .val (.int (15 : Int32))] [])) (fun _ k => XS.goto X0.here hx rfl (pc0 := 28) (pc' := 7) rfl (hb hby d11_28) (by decide) (by decide) k) ?_
                                refine own_go (U' := s₁.setTop (mkF m 9 #[.val (.ref a0), .val (.int p1), .val (.int (0 : Int32)), .val (.int (15 : Int32)), .val (.int (p1.toInt8.toInt32)), .val (.int (15 : Int32))] [(.int (15 : Int32))])) (fun _ k => XS.iload X0.here hx rfl (hb hby d11_7) rfl k) ?_
                                refine own_go (U' := s₁.setTop (mkF m 10 #[.val (.ref a0), .val (.int p1), .val (.int (0 : Int32)), .val (.int (15 : Int32)), .val (.int (p1.toInt8.toInt32)), .val (.int (15 : Int32))] [(.int (15 : Int32)), (.int (15 : Int32))])) (fun _ k => XS.iloadN X0.here hx rfl (hb hby d11_9) rfl k) ?_
                                refine own_go (U' := s₁.setTop (mkF m 31 #[.val (.ref a0), .val (.int p1), .val (.int (0 : Int32)), .val (.int (15 : Int32)), .val (.int (p1.toInt8.toInt32)), .val (.int (15 : Int32))] [])) (fun _ k => XS.icmpYes X0.here hx rfl (pc0 := 10) (pc' := 31) rfl (hb hby d11_10) rfl (flt (by decide : ¬ ((15 : Int32) < (15 : Int32)))).2.1 (by decide) (by decide) k) ?_
                                refine own_go (U' := s₁.setTop (mkF m 32 #[.val (.ref a0), .val (.int p1), .val (.int (0 : Int32)), .val (.int (15 : Int32)), .val (.int (p1.toInt8.toInt32)), .val (.int (15 : Int32))] [(.int (-1 : Int32))])) (fun _ k => XS.iconst X0.here hx rfl (hb hby d11_31) k) ?_
                                refine own_ret X0 (v := (some (.int (-1 : Int32)))) hlk (fun h => by rw [Bd.returns] at h; cases h) (by decide) (by decide) (fun fs hr => own_retI X0 hx Bd.returns (hb hby d11_32) hr) ?_
                                show (Q11 Z a0 p1 k1 h0 n0) _ s₁.heap _
                                rw [e0]
                                exact ⟨by first | (simp only [f_11, if_neg hc19_13, if_neg hc19_15, if_neg hc19_17, if_neg hc19_19, if_neg hc19_21, if_neg hc19_23, if_neg hc19_25, if_neg hc19_27, if_neg hc19_29, if_neg hc19_31, if_neg hc19_33, if_neg hc19_35, if_neg hc19_37, if_neg hc19_39, if_neg hc19_41]; done) | rfl | (simp [f_11, if_neg hc19_13, if_neg hc19_15, if_neg hc19_17, if_neg hc19_19, if_neg hc19_21, if_neg hc19_23, if_neg hc19_25, if_neg hc19_27, if_neg hc19_29, if_neg hc19_31, if_neg hc19_33, if_neg hc19_35, if_neg hc19_37, if_neg hc19_39, if_neg hc19_41]; done), N0, rfl⟩
theorem d7_0 : decode jdk_43_method_22_code 0 = .ok (.iload_n 1, 1) := by decide +kernel
theorem d7_1 : decode jdk_43_method_22_code 1 = .ok (.invokestatic 88, 3) := by decide +kernel
theorem own_pd1 : parseMethodDescriptor "(I)Z" = some ⟨[.int], some .boolean⟩ := by decide +kernel
theorem d7_4 : decode jdk_43_method_22_code 4 = .ok (.ifCond .ne 5, 3) := by decide +kernel
theorem d7_7 : decode jdk_43_method_22_code 7 = .ok (.iconst (-1), 1) := by decide +kernel
theorem d7_8 : decode jdk_43_method_22_code 8 = .ok (.ireturn, 1) := by decide +kernel
theorem d7_9 : decode jdk_43_method_22_code 9 = .ok (.iload_n 2, 1) := by decide +kernel
theorem d7_10 : decode jdk_43_method_22_code 10 = .ok (.iconst 0, 1) := by decide +kernel
theorem d7_11 : decode jdk_43_method_22_code 11 = .ok (.invokestatic 92, 3) := by decide +kernel
theorem own_pd2 : parseMethodDescriptor "(II)I" = some ⟨[.int, .int], some .int⟩ := by decide +kernel
theorem d7_14 : decode jdk_43_method_22_code 14 = .ok (.istore_n 2, 1) := by decide +kernel
theorem d7_15 : decode jdk_43_method_22_code 15 = .ok (.iload_n 3, 1) := by decide +kernel
theorem d7_16 : decode jdk_43_method_22_code 16 = .ok (.aload_n 0, 1) := by decide +kernel
theorem d7_17 : decode jdk_43_method_22_code 17 = .ok (.arraylength, 1) := by decide +kernel
theorem d7_18 : decode jdk_43_method_22_code 18 = .ok (.invokestatic 38, 3) := by decide +kernel
theorem d7_21 : decode jdk_43_method_22_code 21 = .ok (.istore_n 3, 1) := by decide +kernel
theorem d7_22 : decode jdk_43_method_22_code 22 = .ok (.iload_n 2, 1) := by decide +kernel
theorem d7_23 : decode jdk_43_method_22_code 23 = .ok (.iload_n 3, 1) := by decide +kernel
theorem d7_24 : decode jdk_43_method_22_code 24 = .ok (.if_icmp .lt 5, 3) := by decide +kernel
theorem d7_29 : decode jdk_43_method_22_code 29 = .ok (.aload_n 0, 1) := by decide +kernel
theorem d7_30 : decode jdk_43_method_22_code 30 = .ok (.iload_n 1, 1) := by decide +kernel
theorem d7_31 : decode jdk_43_method_22_code 31 = .ok (.iload_n 2, 1) := by decide +kernel
theorem d7_32 : decode jdk_43_method_22_code 32 = .ok (.iload_n 3, 1) := by decide +kernel
theorem d7_33 : decode jdk_43_method_22_code 33 = .ok (.invokestatic 95, 3) := by decide +kernel
theorem own_pd3 : parseMethodDescriptor "([BIII)I" = some ⟨[(.array .byte), .int, .int, .int], some .int⟩ := by decide +kernel
theorem d7_36 : decode jdk_43_method_22_code 36 = .ok (.ireturn, 1) := by decide +kernel
theorem own_ef7 (m : MethodId) (x0 : Addr) (x1 : Int32) : entryFrame m #[(.ref x0), (.int x1), (.int (0 : Int32)), (.int (15 : Int32))] 4 = mkF m 0 #[.val (.ref x0), .val (.int x1), .val (.int (0 : Int32)), .val (.int (15 : Int32))] [] := by first | (simp [entryFrame, mkF, argsToLocals, Value.category]; done) | rfl
def f_7 (a0 : Addr) (p1 : Int32) (k1 : ClassId) : Int32 := (if (f_8 p1) = (0 : Int32) then (-1 : Int32) else (f_11 a0 p1 k1))
def Q7 (Z : State) (a0 : Addr) (p1 : Int32) (k1 : ClassId) (h0 : Heap) (n0 : Nat) (v : Option Value) (h : Heap) (L : List Loc) : Prop := v = some (.int (f_7 a0 p1 k1)) ∧ Fr n0 L ∧ h = h0
set_option maxRecDepth 65536 in
set_option maxHeartbeats 40000000 in
theorem rm7 (l : Launch) (Z : State) (aw : Array Value) (hw : ∀ d ∈ tables_1, d.before aw Z = true) (ws : List Jvm.Cond) (a0 : Addr) (p1 : Int32) (k1 : ClassId) (h0 : Heap) (n0 : Nat) (Z0 : n0 ≤ h0.size) (V_b : Arv Z h0 a0 k1 .byte (15 : Int32) [(.int (33 : Int32)), (.int (35 : Int32)), (.int (36 : Int32)), (.int (37 : Int32)), (.int (38 : Int32)), (.int (39 : Int32)), (.int (42 : Int32)), (.int (43 : Int32)), (.int (45 : Int32)), (.int (46 : Int32)), (.int (94 : Int32)), (.int (95 : Int32)), (.int (96 : Int32)), (.int (124 : Int32)), (.int (126 : Int32))] (.int (0 : Int32))) :
    MetFree l (⟨"java/lang/StringLatin1", "indexOf", "([BIII)I"⟩ : MethodName) (head1 (Jvm.Cond.code (⟨"java/lang/StringLatin1", "indexOf", "([BIII)I"⟩ : MethodName) jdk_43_method_22_code 4 (some .int) :: ws) ({ frames := 1, cells := 0, slots := 0, locals := 17 } : Room)) (fun a U => a = #[(.ref a0), (.int p1), (.int (0 : Int32)), (.int (15 : Int32))] ∧ Z.Warmed39 U.vm ∧ U.heap = h0) (fun _ _ _ _ _ => True) (fun _ U o U' => ∃ v L, o = .returned v ∧ (Q7 Z a0 p1 k1 h0 n0) v U'.heap L ∧ FrameEnd U o U' L ({ frames := 1, cells := 0, slots := 0, locals := 17 } : Room).cells ({ frames := 1, cells := 0, slots := 0, locals := 17 } : Room).slots) := by
  refine MetFree.of_bodySF (plainFor_of_name own_pn1) hisR ?_
  intro p e s m args below meth c s₁ Bd hml0 hP hK
  obtain ⟨rfl, hZ, hh⟩ := hP
  have hx := Bd.exec
  have hby := Bd.bytes
  have hml : c.maxLocals = 4 := hml0
  have hown : s.vm.findClass "java/lang/StringLatin1" = some m.cls := findClass_of_methodNamed Bd.named
  have hnm := (name_of_methodNamed Bd.named Bd.method).1
  have hlk : meth.locks = false := BodyLoose.notSynchronized (by assumption)
  have X0 : Stand p l e ({ frames := 1, cells := 0, slots := 0, locals := 17 } : Room) s m #[(.ref a0), (.int p1), (.int (0 : Int32)), (.int (15 : Int32))] below meth c s₁ [] 0 0 := Stand.of_body Bd
  have e0 : s₁.heap = h0 := by rw [← hh, Bd.state]; rfl
  have N0 := Fr.nil n0
  show own_Done p e below s (Q7 Z a0 p1 k1 h0 n0) ({ frames := 1, cells := 0, slots := 0, locals := 17 } : Room).cells ({ frames := 1, cells := 0, slots := 0, locals := 17 } : Room).slots (s₁.setTop (entryFrame m #[(.ref a0), (.int p1), (.int (0 : Int32)), (.int (15 : Int32))] 4))
  refine own_go (U' := s₁.setTop (mkF m 0 #[.val (.ref a0), .val (.int p1), .val (.int (0 : Int32)), .val (.int (15 : Int32))] [])) (fun _ k => castTop (own_ef7 m a0 p1) k) ?_
  refine own_go (U' := s₁.setTop (mkF m 1 #[.val (.ref a0), .val (.int p1), .val (.int (0 : Int32)), .val (.int (15 : Int32))] [(.int p1)])) (fun _ k => XS.iloadN X0.here hx rfl (hb hby d7_0) rfl k) ?_
  obtain ⟨_, _, ⟨T42, L42, k42, n42⟩, -, X42, ⟨Lc42, hQ42, l42, y42, z42⟩, st42⟩ := Jvm.LawKit.callS X0 hx (y := (⟨"java/lang/StringLatin1", "canEncode", "(I)Z"⟩ : MethodName)) hown (mvT hZ (hw _ (List.mem_of_getElem? (i := 44) rfl))) (mvT hZ (hw _ (List.mem_of_getElem? (i := 45) rfl))) (mvT hZ (hw _ (List.mem_of_getElem? (i := 42) rfl))) (mvT hZ (hw _ (List.mem_of_getElem? (i := 46) rfl))) (by decide) (backOf (W := 0) (rm8 l Z aw hw [] p1 h0 n0 Z0 ) hZ (hw _ (List.mem_of_getElem? (i := 46) rfl)) (hw _ (List.mem_of_getElem? (i := 42) rfl)) (by decide) (by decide)) (g := (mkF m 1 #[.val (.ref a0), .val (.int p1), .val (.int (0 : Int32)), .val (.int (15 : Int32))] [(.int p1)])) rfl (by rw [hml]; rfl) (argsL := [(.int p1)]) (rest := []) (lenOf own_pd1 rfl) rfl (by show 2 * 0 + _ ≤ _; exact Nat.le_of_eq rfl) (hb hby d7_1) (fun _ _ => ⟨rfl, e0, (by decide : 0 + 0 ≤ _), (by decide : 0 + 0 ≤ _)⟩)
  dsimp only [Pt.U, Pt.locs, Pt.cells, Pt.slots] at X42 l42 y42 z42 st42 hQ42
  subst l42 y42 z42
  obtain ⟨rfl, N42q, e42⟩ := hQ42
  have N42 := Fr.app N0 N42q
  refine own_go (U' := T42.setTop (mkF m 4 #[.val (.ref a0), .val (.int p1), .val (.int (0 : Int32)), .val (.int (15 : Int32))] [(.int (f_8 p1))])) (fun _ k => st42 _ k) ?_
  by_cases hc4_43 : (f_8 p1) = (0 : Int32)
  · refine own_go (U' := T42.setTop (mkF m 7 #[.val (.ref a0), .val (.int p1), .val (.int (0 : Int32)), .val (.int (15 : Int32))] [])) (fun _ k => XS.ifNo X42.here hx rfl (hb hby d7_4) rfl ((if0 _ _).trans (teq hc4_43).2) k) ?_
    refine own_go (U' := T42.setTop (mkF m 8 #[.val (.ref a0), .val (.int p1), .val (.int (0 : Int32)), .val (.int (15 : Int32))] [(.int (-1 : Int32))])) (fun _ k => XS.iconst X42.here hx rfl (hb hby d7_7) k) ?_
    refine own_ret X42 (v := (some (.int (-1 : Int32)))) hlk (fun h => by rw [Bd.returns] at h; cases h) (by decide) (by decide) (fun fs hr => own_retI X42 hx Bd.returns (hb hby d7_8) hr) ?_
    show (Q7 Z a0 p1 k1 h0 n0) _ T42.heap _
    rw [e42]
    exact ⟨by first | (simp only [f_7, if_pos hc4_43]; done) | rfl | (simp [f_7, if_pos hc4_43]; done), N42, rfl⟩
  · refine own_go (U' := T42.setTop (mkF m 9 #[.val (.ref a0), .val (.int p1), .val (.int (0 : Int32)), .val (.int (15 : Int32))] [])) (fun _ k => XS.ifYes X42.here hx rfl (pc0 := 4) (pc' := 9) rfl (hb hby d7_4) rfl ((if0 _ _).trans (feq hc4_43).2) (by decide) (by decide) k) ?_
    refine own_go (U' := T42.setTop (mkF m 10 #[.val (.ref a0), .val (.int p1), .val (.int (0 : Int32)), .val (.int (15 : Int32))] [(.int (0 : Int32))])) (fun _ k => XS.iloadN X42.here hx rfl (hb hby d7_9) rfl k) ?_
    refine own_go (U' := T42.setTop (mkF m 11 #[.val (.ref a0), .val (.int p1), .val (.int (0 : Int32)), .val (.int (15 : Int32))] [(.int (0 : Int32)), (.int (0 : Int32))])) (fun _ k => XS.iconst X42.here hx rfl (hb hby d7_10) k) ?_
    obtain ⟨_, _, ⟨T44, L44, k44, n44⟩, -, X44, ⟨Lc44, hQ44, l44, y44, z44⟩, st44⟩ := Jvm.LawKit.callS X42 hx (y := (⟨"java/lang/Math", "max", "(II)I"⟩ : MethodName)) hown (mvT hZ (hw _ (List.mem_of_getElem? (i := 47) rfl))) (mvT hZ (hw _ (List.mem_of_getElem? (i := 48) rfl))) (mvT hZ (hw _ (List.mem_of_getElem? (i := 49) rfl))) (mvT hZ (hw _ (List.mem_of_getElem? (i := 50) rfl))) (by decide) (backOf (W := 0) (rm9 l Z aw hw [] (0 : Int32) (0 : Int32) h0 n0 Z0 ) hZ (hw _ (List.mem_of_getElem? (i := 50) rfl)) (hw _ (List.mem_of_getElem? (i := 49) rfl)) (by decide) (by decide)) (g := (mkF m 11 #[.val (.ref a0), .val (.int p1), .val (.int (0 : Int32)), .val (.int (15 : Int32))] [(.int (0 : Int32)), (.int (0 : Int32))])) rfl (by rw [hml]; rfl) (argsL := [(.int (0 : Int32)), (.int (0 : Int32))]) (rest := []) (lenOf own_pd2 rfl) rfl (by show 2 * 0 + _ ≤ _; exact Nat.le_of_eq rfl) (hb hby d7_11) (fun _ _ => ⟨rfl, e42, (by decide : 0 + 0 ≤ _), (by decide : 0 + 0 ≤ _)⟩)
    dsimp only [Pt.U, Pt.locs, Pt.cells, Pt.slots] at X44 l44 y44 z44 st44 hQ44
    subst l44 y44 z44
    obtain ⟨rfl, N44q, e44⟩ := hQ44
    have N44 := Fr.app N42 N44q
    refine own_go (U' := T44.setTop (mkF m 14 #[.val (.ref a0), .val (.int p1), .val (.int (0 : Int32)), .val (.int (15 : Int32))] [(.int (f_9 (0 : Int32) (0 : Int32)))])) (fun _ k => st44 _ k) ?_
    rw [show (f_9 (0 : Int32) (0 : Int32)) = (0 : Int32) from by decide]
    refine own_go (U' := T44.setTop (mkF m 15 #[.val (.ref a0), .val (.int p1), .val (.int (0 : Int32)), .val (.int (15 : Int32))] [])) (fun _ k => XS.istoreN X44.here hx rfl (hb hby d7_14) rfl (l' := #[.val (.ref a0), .val (.int p1), .val (.int (0 : Int32)), .val (.int (15 : Int32))]) rfl k) ?_
    refine own_go (U' := T44.setTop (mkF m 16 #[.val (.ref a0), .val (.int p1), .val (.int (0 : Int32)), .val (.int (15 : Int32))] [(.int (15 : Int32))])) (fun _ k => XS.iloadN X44.here hx rfl (hb hby d7_15) rfl k) ?_
    refine own_go (U' := T44.setTop (mkF m 17 #[.val (.ref a0), .val (.int p1), .val (.int (0 : Int32)), .val (.int (15 : Int32))] [(.ref a0), (.int (15 : Int32))])) (fun _ k => XS.aloadN X44.here hx rfl (hb hby d7_16) rfl rfl k) ?_
    have V45 := V_b
    obtain ⟨cl45, Ar45, q45, S45, Ng45, Hh45, G45⟩ := V45
    have hl45 := len_of S45 Ng45
    refine own_go (U' := T44.setTop (mkF m 18 #[.val (.ref a0), .val (.int p1), .val (.int (0 : Int32)), .val (.int (15 : Int32))] [(.int (15 : Int32)), (.int (15 : Int32))])) (fun _ k => X44.arraylength hx (own_cell e44 Ar45.1) (State.isArrayOf_alike hZ.alike Ar45.2.1) (g := (mkF m 17 #[.val (.ref a0), .val (.int p1), .val (.int (0 : Int32)), .val (.int (15 : Int32))] [(.ref a0), (.int (15 : Int32))])) rfl rfl (hb hby d7_17) _ (by rw [hl45]; exact k)) ?_
    obtain ⟨_, _, ⟨T46, L46, k46, n46⟩, -, X46, ⟨Lc46, hQ46, l46, y46, z46⟩, st46⟩ := Jvm.LawKit.callS X44 hx (y := (⟨"java/lang/Math", "min", "(II)I"⟩ : MethodName)) hown (mvT hZ (hw _ (List.mem_of_getElem? (i := 51) rfl))) (mvT hZ (hw _ (List.mem_of_getElem? (i := 52) rfl))) (mvT hZ (hw _ (List.mem_of_getElem? (i := 49) rfl))) (mvT hZ (hw _ (List.mem_of_getElem? (i := 53) rfl))) (by decide) (backOf (W := 0) (rm10 l Z aw hw [] (15 : Int32) (15 : Int32) h0 n0 Z0 ) hZ (hw _ (List.mem_of_getElem? (i := 53) rfl)) (hw _ (List.mem_of_getElem? (i := 49) rfl)) (by decide) (by decide)) (g := (mkF m 18 #[.val (.ref a0), .val (.int p1), .val (.int (0 : Int32)), .val (.int (15 : Int32))] [(.int (15 : Int32)), (.int (15 : Int32))])) rfl (by rw [hml]; rfl) (argsL := [(.int (15 : Int32)), (.int (15 : Int32))]) (rest := []) (lenOf own_pd2 rfl) rfl (by show 2 * 0 + _ ≤ _; exact Nat.le_of_eq rfl) (hb hby d7_18) (fun _ _ => ⟨rfl, e44, (by decide : 0 + 0 ≤ _), (by decide : 0 + 0 ≤ _)⟩)
    dsimp only [Pt.U, Pt.locs, Pt.cells, Pt.slots] at X46 l46 y46 z46 st46 hQ46
    subst l46 y46 z46
    obtain ⟨rfl, N46q, e46⟩ := hQ46
    have N46 := Fr.app N44 N46q
    refine own_go (U' := T46.setTop (mkF m 21 #[.val (.ref a0), .val (.int p1), .val (.int (0 : Int32)), .val (.int (15 : Int32))] [(.int (f_10 (15 : Int32) (15 : Int32)))])) (fun _ k => st46 _ k) ?_
    rw [show (f_10 (15 : Int32) (15 : Int32)) = (15 : Int32) from by decide]
    refine own_go (U' := T46.setTop (mkF m 22 #[.val (.ref a0), .val (.int p1), .val (.int (0 : Int32)), .val (.int (15 : Int32))] [])) (fun _ k => XS.istoreN X46.here hx rfl (hb hby d7_21) rfl (l' := #[.val (.ref a0), .val (.int p1), .val (.int (0 : Int32)), .val (.int (15 : Int32))]) rfl k) ?_
    refine own_go (U' := T46.setTop (mkF m 23 #[.val (.ref a0), .val (.int p1), .val (.int (0 : Int32)), .val (.int (15 : Int32))] [(.int (0 : Int32))])) (fun _ k => XS.iloadN X46.here hx rfl (hb hby d7_22) rfl k) ?_
    refine own_go (U' := T46.setTop (mkF m 24 #[.val (.ref a0), .val (.int p1), .val (.int (0 : Int32)), .val (.int (15 : Int32))] [(.int (15 : Int32)), (.int (0 : Int32))])) (fun _ k => XS.iloadN X46.here hx rfl (hb hby d7_23) rfl k) ?_
    refine own_go (U' := T46.setTop (mkF m 29 #[.val (.ref a0), .val (.int p1), .val (.int (0 : Int32)), .val (.int (15 : Int32))] [])) (fun _ k => XS.icmpYes X46.here hx rfl (pc0 := 24) (pc' := 29) rfl (hb hby d7_24) rfl (tlt (by decide : ((0 : Int32) < (15 : Int32)))).1 (by decide) (by decide) k) ?_
    refine own_go (U' := T46.setTop (mkF m 30 #[.val (.ref a0), .val (.int p1), .val (.int (0 : Int32)), .val (.int (15 : Int32))] [(.ref a0)])) (fun _ k => XS.aloadN X46.here hx rfl (hb hby d7_29) rfl rfl k) ?_
    refine own_go (U' := T46.setTop (mkF m 31 #[.val (.ref a0), .val (.int p1), .val (.int (0 : Int32)), .val (.int (15 : Int32))] [(.int p1), (.ref a0)])) (fun _ k => XS.iloadN X46.here hx rfl (hb hby d7_30) rfl k) ?_
    refine own_go (U' := T46.setTop (mkF m 32 #[.val (.ref a0), .val (.int p1), .val (.int (0 : Int32)), .val (.int (15 : Int32))] [(.int (0 : Int32)), (.int p1), (.ref a0)])) (fun _ k => XS.iloadN X46.here hx rfl (hb hby d7_31) rfl k) ?_
    refine own_go (U' := T46.setTop (mkF m 33 #[.val (.ref a0), .val (.int p1), .val (.int (0 : Int32)), .val (.int (15 : Int32))] [(.int (15 : Int32)), (.int (0 : Int32)), (.int p1), (.ref a0)])) (fun _ k => XS.iloadN X46.here hx rfl (hb hby d7_32) rfl k) ?_
    obtain ⟨_, _, ⟨T47, L47, k47, n47⟩, -, X47, ⟨Lc47, hQ47, l47, y47, z47⟩, st47⟩ := Jvm.LawKit.callS X46 hx (y := (⟨"java/lang/StringLatin1", "indexOfChar", "([BIII)I"⟩ : MethodName)) hown (mvT hZ (hw _ (List.mem_of_getElem? (i := 54) rfl))) (mvT hZ (hw _ (List.mem_of_getElem? (i := 55) rfl))) (mvT hZ (hw _ (List.mem_of_getElem? (i := 42) rfl))) (mvT hZ (hw _ (List.mem_of_getElem? (i := 56) rfl))) (by decide) (backOf (W := 0) (rm11 l Z aw hw [] a0 p1 k1 h0 n0 Z0 V_b) hZ (hw _ (List.mem_of_getElem? (i := 56) rfl)) (hw _ (List.mem_of_getElem? (i := 42) rfl)) (by decide) (by decide)) (g := (mkF m 33 #[.val (.ref a0), .val (.int p1), .val (.int (0 : Int32)), .val (.int (15 : Int32))] [(.int (15 : Int32)), (.int (0 : Int32)), (.int p1), (.ref a0)])) rfl (by rw [hml]; rfl) (argsL := [(.ref a0), (.int p1), (.int (0 : Int32)), (.int (15 : Int32))]) (rest := []) (lenOf own_pd3 rfl) rfl (by show 2 * 0 + _ ≤ _; exact Nat.le_of_eq rfl) (hb hby d7_33) (fun _ _ => ⟨rfl, e46, (by decide : 0 + 0 ≤ _), (by decide : 0 + 0 ≤ _)⟩)
    dsimp only [Pt.U, Pt.locs, Pt.cells, Pt.slots] at X47 l47 y47 z47 st47 hQ47
    subst l47 y47 z47
    obtain ⟨rfl, N47q, e47⟩ := hQ47
    have N47 := Fr.app N46 N47q
    refine own_go (U' := T47.setTop (mkF m 36 #[.val (.ref a0), .val (.int p1), .val (.int (0 : Int32)), .val (.int (15 : Int32))] [(.int (f_11 a0 p1 k1))])) (fun _ k => st47 _ k) ?_
    refine own_ret X47 (v := (some (.int (f_11 a0 p1 k1)))) hlk (fun h => by rw [Bd.returns] at h; cases h) (by decide) (by decide) (fun fs hr => own_retI X47 hx Bd.returns (hb hby d7_36) hr) ?_
    show (Q7 Z a0 p1 k1 h0 n0) _ T47.heap _
    rw [e47]
    exact ⟨by first | (simp only [f_7, if_neg hc4_43]; done) | rfl | (simp [f_7, if_neg hc4_43]; done), N47, rfl⟩
theorem d3_0 : decode jdk_42_method_80_code 0 = .ok (.aload_n 0, 1) := by decide +kernel
theorem d3_1 : decode jdk_42_method_80_code 1 = .ok (.invokevirtual 492, 3) := by decide +kernel
theorem own_pd4 : parseMethodDescriptor "()Z" = some ⟨[], some .boolean⟩ := by decide +kernel
theorem d3_4 : decode jdk_42_method_80_code 4 = .ok (.ifCond .eq 19, 3) := by decide +kernel
theorem d3_7 : decode jdk_42_method_80_code 7 = .ok (.aload_n 0, 1) := by decide +kernel
theorem d3_8 : decode jdk_42_method_80_code 8 = .ok (.getfield 9, 3) := by decide +kernel
theorem d3_11 : decode jdk_42_method_80_code 11 = .ok (.iload_n 1, 1) := by decide +kernel
theorem d3_12 : decode jdk_42_method_80_code 12 = .ok (.iload_n 2, 1) := by decide +kernel
theorem d3_13 : decode jdk_42_method_80_code 13 = .ok (.aload_n 0, 1) := by decide +kernel
theorem d3_14 : decode jdk_42_method_80_code 14 = .ok (.invokevirtual 505, 3) := by decide +kernel
theorem own_pd5 : parseMethodDescriptor "()I" = some ⟨[], some .int⟩ := by decide +kernel
theorem d3_17 : decode jdk_42_method_80_code 17 = .ok (.invokestatic 637, 3) := by decide +kernel
theorem d3_20 : decode jdk_42_method_80_code 20 = .ok (.goto 16, 3) := by decide +kernel
theorem d3_36 : decode jdk_42_method_80_code 36 = .ok (.ireturn, 1) := by decide +kernel
theorem own_ef3 (m : MethodId) (x0 : Addr) (x1 : Int32) : entryFrame m #[(.ref x0), (.int x1), (.int (0 : Int32))] 3 = mkF m 0 #[.val (.ref x0), .val (.int x1), .val (.int (0 : Int32))] [] := by first | (simp [entryFrame, mkF, argsToLocals, Value.category]; done) | rfl
def f_3 (a0 : Addr) (p1 : Int32) (cs : Int32) (b : Addr) (k1 : ClassId) : Int32 := (f_7 b p1 k1)
def Q3 (Z : State) (a0 : Addr) (p1 : Int32) (cs : Int32) (b : Addr) (k1 : ClassId) (h0 : Heap) (n0 : Nat) (v : Option Value) (h : Heap) (L : List Loc) : Prop := v = some (.int (f_3 a0 p1 cs b k1)) ∧ Fr n0 L ∧ h = h0
set_option maxRecDepth 65536 in
set_option maxHeartbeats 40000000 in
theorem rm3 (l : Launch) (Z : State) (aw : Array Value) (hw : ∀ d ∈ tables_1, d.before aw Z = true) (ws : List Jvm.Cond) (a0 : Addr) (p1 : Int32) (cs : Int32) (b : Addr) (k1 : ClassId) (h0 : Heap) (n0 : Nat) (Z0 : n0 ≤ h0.size) (S_cs : Sta Z h0 "java/lang/String" "COMPACT_STRINGS" "Z" (.int cs)) (E_s : Exa Z h0 a0 "java/lang/String") (F_c : Fld Z h0 a0 "java/lang/String" "coder" "B" (.int (0 : Int32))) (F_v : Fld Z h0 a0 "java/lang/String" "value" "[B" (.ref b)) (V_b : Arv Z h0 b k1 .byte (15 : Int32) [(.int (33 : Int32)), (.int (35 : Int32)), (.int (36 : Int32)), (.int (37 : Int32)), (.int (38 : Int32)), (.int (39 : Int32)), (.int (42 : Int32)), (.int (43 : Int32)), (.int (45 : Int32)), (.int (46 : Int32)), (.int (94 : Int32)), (.int (95 : Int32)), (.int (96 : Int32)), (.int (124 : Int32)), (.int (126 : Int32))] (.int (0 : Int32))) (hcs : ¬ (cs = (0 : Int32))) :
    MetFree l (⟨"java/lang/String", "indexOf", "(II)I"⟩ : MethodName) (head1 (Jvm.Cond.code (⟨"java/lang/String", "indexOf", "(II)I"⟩ : MethodName) jdk_42_method_80_code 3 (some .int) :: ws) ({ frames := 2, cells := 0, slots := 0, locals := 32 } : Room)) (fun a U => a = #[(.ref a0), (.int p1), (.int (0 : Int32))] ∧ Z.Warmed39 U.vm ∧ U.heap = h0) (fun _ _ _ _ _ => True) (fun _ U o U' => ∃ v L, o = .returned v ∧ (Q3 Z a0 p1 cs b k1 h0 n0) v U'.heap L ∧ FrameEnd U o U' L ({ frames := 2, cells := 0, slots := 0, locals := 32 } : Room).cells ({ frames := 2, cells := 0, slots := 0, locals := 32 } : Room).slots) := by
  refine MetFree.of_bodySF (plainFor_of_name own_pn0) hisR ?_
  intro p e s m args below meth c s₁ Bd hml0 hP hK
  obtain ⟨rfl, hZ, hh⟩ := hP
  have hx := Bd.exec
  have hby := Bd.bytes
  have hml : c.maxLocals = 3 := hml0
  have hown : s.vm.findClass "java/lang/String" = some m.cls := findClass_of_methodNamed Bd.named
  have hnm := (name_of_methodNamed Bd.named Bd.method).1
  have hlk : meth.locks = false := BodyLoose.notSynchronized (by assumption)
  have X0 : Stand p l e ({ frames := 2, cells := 0, slots := 0, locals := 32 } : Room) s m #[(.ref a0), (.int p1), (.int (0 : Int32))] below meth c s₁ [] 0 0 := Stand.of_body Bd
  have e0 : s₁.heap = h0 := by rw [← hh, Bd.state]; rfl
  have N0 := Fr.nil n0
  show own_Done p e below s (Q3 Z a0 p1 cs b k1 h0 n0) ({ frames := 2, cells := 0, slots := 0, locals := 32 } : Room).cells ({ frames := 2, cells := 0, slots := 0, locals := 32 } : Room).slots (s₁.setTop (entryFrame m #[(.ref a0), (.int p1), (.int (0 : Int32))] 3))
  refine own_go (U' := s₁.setTop (mkF m 0 #[.val (.ref a0), .val (.int p1), .val (.int (0 : Int32))] [])) (fun _ k => castTop (own_ef3 m a0 p1) k) ?_
  refine own_go (U' := s₁.setTop (mkF m 1 #[.val (.ref a0), .val (.int p1), .val (.int (0 : Int32))] [(.ref a0)])) (fun _ k => XS.aloadN X0.here hx rfl (hb hby d3_0) rfl rfl k) ?_
  obtain ⟨cq48, kq48, q48a, q48b, q48c⟩ := isOf hZ e0 E_s
  obtain ⟨_, _, ⟨T48, L48, k48, n48⟩, -, X48, ⟨Lc48, hQ48, l48, y48, z48⟩, st48⟩ := X0.virtualBack hx (y := (⟨"java/lang/String", "isLatin1", "()Z"⟩ : MethodName)) (z := (⟨"java/lang/String", "isLatin1", "()Z"⟩ : MethodName)) hown (mvT hZ (hw _ (List.mem_of_getElem? (i := 22) rfl))) (mvT hZ (hw _ (List.mem_of_getElem? (i := 23) rfl))) (notFace_of_selects (args := #[]) (mvT hZ (hw _ (List.mem_of_getElem? (i := 25) rfl)))) (mvT hZ (hw _ (List.mem_of_getElem? (i := 25) rfl))) (mvT hZ (hw _ (List.mem_of_getElem? (i := 24) rfl))) (by decide) (backOf (W := 0) (rm4 l Z aw hw [] a0 cs h0 n0 Z0 S_cs F_c (by first | assumption | decide)) hZ (hw _ (List.mem_of_getElem? (i := 26) rfl)) (hw _ (List.mem_of_getElem? (i := 5) rfl)) (by decide) (by decide)) q48a q48c (g := (mkF m 1 #[.val (.ref a0), .val (.int p1), .val (.int (0 : Int32))] [(.ref a0)])) rfl (by rw [hml]; rfl) (Steps.refl _) (argsL := []) (rest := []) (lenOf own_pd4 rfl) rfl (by show 2 * 0 + _ ≤ _; exact Nat.le_of_eq rfl) (hb hby d3_1) (fun _ _ => ⟨rfl, e0, (by decide : 0 + 0 ≤ _), (by decide : 0 + 0 ≤ _)⟩)
  dsimp only [Pt.U, Pt.locs, Pt.cells, Pt.slots] at X48 l48 y48 z48 st48 hQ48
  subst l48 y48 z48
  obtain ⟨rfl, N48q, e48⟩ := hQ48
  have N48 := Fr.app N0 N48q
  refine own_go (U' := T48.setTop (mkF m 4 #[.val (.ref a0), .val (.int p1), .val (.int (0 : Int32))] [(.int (1 : Int32))])) (fun _ k => st48.trans k) ?_
  refine own_go (U' := T48.setTop (mkF m 7 #[.val (.ref a0), .val (.int p1), .val (.int (0 : Int32))] [])) (fun _ k => XS.ifNo X48.here hx rfl (hb hby d3_4) rfl ((if0 _ _).trans (feq (by decide : ¬ ((1 : Int32) = (0 : Int32)))).1) k) ?_
  refine own_go (U' := T48.setTop (mkF m 8 #[.val (.ref a0), .val (.int p1), .val (.int (0 : Int32))] [(.ref a0)])) (fun _ k => XS.aloadN X48.here hx rfl (hb hby d3_7) rfl rfl k) ?_
  obtain ⟨T49, X49, e49, st49⟩ := getF X48 hx hZ hown (host := "") (Or.inl (hw _ (List.mem_of_getElem? (i := 29) rfl))) Via.refl e48 F_v (g := (mkF m 8 #[.val (.ref a0), .val (.int p1), .val (.int (0 : Int32))] [(.ref a0)])) rfl rfl (hb hby d3_8)
  refine own_go (U' := T49.setTop (mkF m 11 #[.val (.ref a0), .val (.int p1), .val (.int (0 : Int32))] [(.ref b)])) (fun _ k => st49 _ k) ?_
  refine own_go (U' := T49.setTop (mkF m 12 #[.val (.ref a0), .val (.int p1), .val (.int (0 : Int32))] [(.int p1), (.ref b)])) (fun _ k => XS.iloadN X49.here hx rfl (hb hby d3_11) rfl k) ?_
  refine own_go (U' := T49.setTop (mkF m 13 #[.val (.ref a0), .val (.int p1), .val (.int (0 : Int32))] [(.int (0 : Int32)), (.int p1), (.ref b)])) (fun _ k => XS.iloadN X49.here hx rfl (hb hby d3_12) rfl k) ?_
  refine own_go (U' := T49.setTop (mkF m 14 #[.val (.ref a0), .val (.int p1), .val (.int (0 : Int32))] [(.ref a0), (.int (0 : Int32)), (.int p1), (.ref b)])) (fun _ k => XS.aloadN X49.here hx rfl (hb hby d3_13) rfl rfl k) ?_
  obtain ⟨cq50, kq50, q50a, q50b, q50c⟩ := isOf hZ e49 E_s
  obtain ⟨_, _, ⟨T50, L50, k50, n50⟩, -, X50, ⟨Lc50, hQ50, l50, y50, z50⟩, st50⟩ := X49.virtualBack hx (y := (⟨"java/lang/String", "length", "()I"⟩ : MethodName)) (z := (⟨"java/lang/String", "length", "()I"⟩ : MethodName)) hown (mvT hZ (hw _ (List.mem_of_getElem? (i := 30) rfl))) (mvT hZ (hw _ (List.mem_of_getElem? (i := 31) rfl))) (notFace_of_selects (args := #[]) (mvT hZ (hw _ (List.mem_of_getElem? (i := 33) rfl)))) (mvT hZ (hw _ (List.mem_of_getElem? (i := 33) rfl))) (mvT hZ (hw _ (List.mem_of_getElem? (i := 32) rfl))) (by decide) (backOf (W := 3) (rm5 l Z aw hw [] a0 cs b k1 h0 n0 Z0 S_cs E_s F_c F_v V_b (by first | assumption | decide)) hZ (hw _ (List.mem_of_getElem? (i := 34) rfl)) (hw _ (List.mem_of_getElem? (i := 5) rfl)) (by decide) (by decide)) q50a q50c (g := (mkF m 14 #[.val (.ref a0), .val (.int p1), .val (.int (0 : Int32))] [(.ref a0), (.int (0 : Int32)), (.int p1), (.ref b)])) rfl (by rw [hml]; rfl) (Steps.refl _) (argsL := []) (rest := [(.int (0 : Int32)), (.int p1), (.ref b)]) (lenOf own_pd5 rfl) rfl (by show 2 * 0 + _ ≤ _; exact Nat.le_of_eq rfl) (hb hby d3_14) (fun _ _ => ⟨rfl, e49, (by decide : 0 + 0 ≤ _), (by decide : 0 + 0 ≤ _)⟩)
  dsimp only [Pt.U, Pt.locs, Pt.cells, Pt.slots] at X50 l50 y50 z50 st50 hQ50
  subst l50 y50 z50
  obtain ⟨rfl, N50q, e50⟩ := hQ50
  have N50 := Fr.app N48 N50q
  refine own_go (U' := T50.setTop (mkF m 17 #[.val (.ref a0), .val (.int p1), .val (.int (0 : Int32))] [(.int (15 : Int32)), (.int (0 : Int32)), (.int p1), (.ref b)])) (fun _ k => st50.trans k) ?_
  obtain ⟨_, _, ⟨T51, L51, k51, n51⟩, -, X51, ⟨Lc51, hQ51, l51, y51, z51⟩, st51⟩ := Jvm.LawKit.callS X50 hx (y := (⟨"java/lang/StringLatin1", "indexOf", "([BIII)I"⟩ : MethodName)) hown (mvT hZ (hw _ (List.mem_of_getElem? (i := 40) rfl))) (mvT hZ (hw _ (List.mem_of_getElem? (i := 41) rfl))) (mvT hZ (hw _ (List.mem_of_getElem? (i := 42) rfl))) (mvT hZ (hw _ (List.mem_of_getElem? (i := 43) rfl))) (by decide) (backOf (W := 0) (rm7 l Z aw hw [] b p1 k1 h0 n0 Z0 V_b) hZ (hw _ (List.mem_of_getElem? (i := 43) rfl)) (hw _ (List.mem_of_getElem? (i := 42) rfl)) (by decide) (by decide)) (g := (mkF m 17 #[.val (.ref a0), .val (.int p1), .val (.int (0 : Int32))] [(.int (15 : Int32)), (.int (0 : Int32)), (.int p1), (.ref b)])) rfl (by rw [hml]; rfl) (argsL := [(.ref b), (.int p1), (.int (0 : Int32)), (.int (15 : Int32))]) (rest := []) (lenOf own_pd3 rfl) rfl (by show 2 * 0 + _ ≤ _; exact Nat.le_of_eq rfl) (hb hby d3_17) (fun _ _ => ⟨rfl, e50, (by decide : 0 + 0 ≤ _), (by decide : 0 + 0 ≤ _)⟩)
  dsimp only [Pt.U, Pt.locs, Pt.cells, Pt.slots] at X51 l51 y51 z51 st51 hQ51
  subst l51 y51 z51
  obtain ⟨rfl, N51q, e51⟩ := hQ51
  have N51 := Fr.app N50 N51q
  refine own_go (U' := T51.setTop (mkF m 20 #[.val (.ref a0), .val (.int p1), .val (.int (0 : Int32))] [(.int (f_7 b p1 k1))])) (fun _ k => st51 _ k) ?_
  refine own_go (U' := T51.setTop (mkF m 36 #[.val (.ref a0), .val (.int p1), .val (.int (0 : Int32))] [(.int (f_7 b p1 k1))])) (fun _ k => XS.goto X51.here hx rfl (pc0 := 20) (pc' := 36) rfl (hb hby d3_20) (by decide) (by decide) k) ?_
  refine own_ret X51 (v := (some (.int (f_7 b p1 k1)))) hlk (fun h => by rw [Bd.returns] at h; cases h) (by decide) (by decide) (fun fs hr => own_retI X51 hx Bd.returns (hb hby d3_36) hr) ?_
  show (Q3 Z a0 p1 cs b k1 h0 n0) _ T51.heap _
  rw [e51]
  exact ⟨by first | (simp only [f_3]; done) | rfl | (simp [f_3]; done), N51, rfl⟩
theorem d2_0 : decode jdk_42_method_79_code 0 = .ok (.aload_n 0, 1) := by decide +kernel
theorem d2_1 : decode jdk_42_method_79_code 1 = .ok (.iload_n 1, 1) := by decide +kernel
theorem d2_2 : decode jdk_42_method_79_code 2 = .ok (.iconst 0, 1) := by decide +kernel
theorem d2_3 : decode jdk_42_method_79_code 3 = .ok (.invokevirtual 633, 3) := by decide +kernel
theorem d2_6 : decode jdk_42_method_79_code 6 = .ok (.ireturn, 1) := by decide +kernel
theorem own_ef2 (m : MethodId) (x0 : Addr) (x1 : Int32) : entryFrame m #[(.ref x0), (.int x1)] 2 = mkF m 0 #[.val (.ref x0), .val (.int x1)] [] := by first | (simp [entryFrame, mkF, argsToLocals, Value.category]; done) | rfl
def f_2 (a0 : Addr) (p1 : Int32) (cs : Int32) (b : Addr) (k1 : ClassId) : Int32 := (f_3 a0 p1 cs b k1)
def Q2 (Z : State) (a0 : Addr) (p1 : Int32) (cs : Int32) (b : Addr) (k1 : ClassId) (h0 : Heap) (n0 : Nat) (v : Option Value) (h : Heap) (L : List Loc) : Prop := v = some (.int (f_2 a0 p1 cs b k1)) ∧ Fr n0 L ∧ h = h0
set_option maxRecDepth 65536 in
set_option maxHeartbeats 40000000 in
theorem rm2 (l : Launch) (Z : State) (aw : Array Value) (hw : ∀ d ∈ tables_1, d.before aw Z = true) (ws : List Jvm.Cond) (a0 : Addr) (p1 : Int32) (cs : Int32) (b : Addr) (k1 : ClassId) (h0 : Heap) (n0 : Nat) (Z0 : n0 ≤ h0.size) (S_cs : Sta Z h0 "java/lang/String" "COMPACT_STRINGS" "Z" (.int cs)) (E_s : Exa Z h0 a0 "java/lang/String") (F_c : Fld Z h0 a0 "java/lang/String" "coder" "B" (.int (0 : Int32))) (F_v : Fld Z h0 a0 "java/lang/String" "value" "[B" (.ref b)) (V_b : Arv Z h0 b k1 .byte (15 : Int32) [(.int (33 : Int32)), (.int (35 : Int32)), (.int (36 : Int32)), (.int (37 : Int32)), (.int (38 : Int32)), (.int (39 : Int32)), (.int (42 : Int32)), (.int (43 : Int32)), (.int (45 : Int32)), (.int (46 : Int32)), (.int (94 : Int32)), (.int (95 : Int32)), (.int (96 : Int32)), (.int (124 : Int32)), (.int (126 : Int32))] (.int (0 : Int32))) (hcs : ¬ (cs = (0 : Int32))) :
    MetFree l (⟨"java/lang/String", "indexOf", "(I)I"⟩ : MethodName) (head1 (Jvm.Cond.code (⟨"java/lang/String", "indexOf", "(I)I"⟩ : MethodName) jdk_42_method_79_code 2 (some .int) :: ws) ({ frames := 3, cells := 0, slots := 0, locals := 46 } : Room)) (fun a U => a = #[(.ref a0), (.int p1)] ∧ Z.Warmed39 U.vm ∧ U.heap = h0) (fun _ _ _ _ _ => True) (fun _ U o U' => ∃ v L, o = .returned v ∧ (Q2 Z a0 p1 cs b k1 h0 n0) v U'.heap L ∧ FrameEnd U o U' L ({ frames := 3, cells := 0, slots := 0, locals := 46 } : Room).cells ({ frames := 3, cells := 0, slots := 0, locals := 46 } : Room).slots) := by
  refine MetFree.of_bodySF (plainFor_of_name own_pn0) hisR ?_
  intro p e s m args below meth c s₁ Bd hml0 hP hK
  obtain ⟨rfl, hZ, hh⟩ := hP
  have hx := Bd.exec
  have hby := Bd.bytes
  have hml : c.maxLocals = 2 := hml0
  have hown : s.vm.findClass "java/lang/String" = some m.cls := findClass_of_methodNamed Bd.named
  have hnm := (name_of_methodNamed Bd.named Bd.method).1
  have hlk : meth.locks = false := BodyLoose.notSynchronized (by assumption)
  have X0 : Stand p l e ({ frames := 3, cells := 0, slots := 0, locals := 46 } : Room) s m #[(.ref a0), (.int p1)] below meth c s₁ [] 0 0 := Stand.of_body Bd
  have e0 : s₁.heap = h0 := by rw [← hh, Bd.state]; rfl
  have N0 := Fr.nil n0
  show own_Done p e below s (Q2 Z a0 p1 cs b k1 h0 n0) ({ frames := 3, cells := 0, slots := 0, locals := 46 } : Room).cells ({ frames := 3, cells := 0, slots := 0, locals := 46 } : Room).slots (s₁.setTop (entryFrame m #[(.ref a0), (.int p1)] 2))
  refine own_go (U' := s₁.setTop (mkF m 0 #[.val (.ref a0), .val (.int p1)] [])) (fun _ k => castTop (own_ef2 m a0 p1) k) ?_
  refine own_go (U' := s₁.setTop (mkF m 1 #[.val (.ref a0), .val (.int p1)] [(.ref a0)])) (fun _ k => XS.aloadN X0.here hx rfl (hb hby d2_0) rfl rfl k) ?_
  refine own_go (U' := s₁.setTop (mkF m 2 #[.val (.ref a0), .val (.int p1)] [(.int p1), (.ref a0)])) (fun _ k => XS.iloadN X0.here hx rfl (hb hby d2_1) rfl k) ?_
  refine own_go (U' := s₁.setTop (mkF m 3 #[.val (.ref a0), .val (.int p1)] [(.int (0 : Int32)), (.int p1), (.ref a0)])) (fun _ k => XS.iconst X0.here hx rfl (hb hby d2_2) k) ?_
  obtain ⟨cq52, kq52, q52a, q52b, q52c⟩ := isOf hZ e0 E_s
  obtain ⟨_, _, ⟨T52, L52, k52, n52⟩, -, X52, ⟨Lc52, hQ52, l52, y52, z52⟩, st52⟩ := X0.virtualBack hx (y := (⟨"java/lang/String", "indexOf", "(II)I"⟩ : MethodName)) (z := (⟨"java/lang/String", "indexOf", "(II)I"⟩ : MethodName)) hown (mvT hZ (hw _ (List.mem_of_getElem? (i := 17) rfl))) (mvT hZ (hw _ (List.mem_of_getElem? (i := 18) rfl))) (notFace_of_selects (args := #[]) (mvT hZ (hw _ (List.mem_of_getElem? (i := 20) rfl)))) (mvT hZ (hw _ (List.mem_of_getElem? (i := 20) rfl))) (mvT hZ (hw _ (List.mem_of_getElem? (i := 19) rfl))) (by decide) (backOf (W := 0) (rm3 l Z aw hw [] a0 p1 cs b k1 h0 n0 Z0 S_cs E_s F_c F_v V_b (by first | assumption | decide)) hZ (hw _ (List.mem_of_getElem? (i := 21) rfl)) (hw _ (List.mem_of_getElem? (i := 5) rfl)) (by decide) (by decide)) q52a q52c (g := (mkF m 3 #[.val (.ref a0), .val (.int p1)] [(.int (0 : Int32)), (.int p1), (.ref a0)])) rfl (by rw [hml]; rfl) (Steps.refl _) (argsL := [(.int p1), (.int (0 : Int32))]) (rest := []) (lenOf own_pd2 rfl) rfl (by show 2 * 0 + _ ≤ _; exact Nat.le_of_eq rfl) (hb hby d2_3) (fun _ _ => ⟨rfl, e0, (by decide : 0 + 0 ≤ _), (by decide : 0 + 0 ≤ _)⟩)
  dsimp only [Pt.U, Pt.locs, Pt.cells, Pt.slots] at X52 l52 y52 z52 st52 hQ52
  subst l52 y52 z52
  obtain ⟨rfl, N52q, e52⟩ := hQ52
  have N52 := Fr.app N0 N52q
  refine own_go (U' := T52.setTop (mkF m 6 #[.val (.ref a0), .val (.int p1)] [(.int (f_3 a0 p1 cs b k1))])) (fun _ k => st52.trans k) ?_
  refine own_ret X52 (v := (some (.int (f_3 a0 p1 cs b k1)))) hlk (fun h => by rw [Bd.returns] at h; cases h) (by decide) (by decide) (fun fs hr => own_retI X52 hx Bd.returns (hb hby d2_6) hr) ?_
  show (Q2 Z a0 p1 cs b k1 h0 n0) _ T52.heap _
  rw [e52]
  exact ⟨by first | (simp only [f_2]; done) | rfl | (simp [f_2]; done), N52, rfl⟩
theorem d12_0 : decode method_2_code 0 = .ok (.iload_n 0, 1) := by decide +kernel
theorem d12_1 : decode method_2_code 1 = .ok (.bipush 33, 2) := by decide +kernel
theorem d12_3 : decode method_2_code 3 = .ok (.if_icmp .lt 9, 3) := by decide +kernel
theorem d12_12 : decode method_2_code 12 = .ok (.iconst 0, 1) := by decide +kernel
theorem d12_13 : decode method_2_code 13 = .ok (.ireturn, 1) := by decide +kernel
theorem d12_6 : decode method_2_code 6 = .ok (.iload_n 0, 1) := by decide +kernel
theorem d12_7 : decode method_2_code 7 = .ok (.bipush 126, 2) := by decide +kernel
theorem d12_9 : decode method_2_code 9 = .ok (.if_icmp .le 5, 3) := by decide +kernel
theorem d12_14 : decode method_2_code 14 = .ok (.iload_n 0, 1) := by decide +kernel
theorem d12_15 : decode method_2_code 15 = .ok (.bipush 34, 2) := by decide +kernel
theorem d12_17 : decode method_2_code 17 = .ok (.if_icmp .eq 103, 3) := by decide +kernel
theorem d12_120 : decode method_2_code 120 = .ok (.iconst 0, 1) := by decide +kernel
theorem d12_121 : decode method_2_code 121 = .ok (.ireturn, 1) := by decide +kernel
theorem d12_20 : decode method_2_code 20 = .ok (.iload_n 0, 1) := by decide +kernel
theorem d12_21 : decode method_2_code 21 = .ok (.bipush 40, 2) := by decide +kernel
theorem d12_23 : decode method_2_code 23 = .ok (.if_icmp .eq 97, 3) := by decide +kernel
theorem d12_26 : decode method_2_code 26 = .ok (.iload_n 0, 1) := by decide +kernel
theorem d12_27 : decode method_2_code 27 = .ok (.bipush 41, 2) := by decide +kernel
theorem d12_29 : decode method_2_code 29 = .ok (.if_icmp .eq 91, 3) := by decide +kernel
theorem d12_32 : decode method_2_code 32 = .ok (.iload_n 0, 1) := by decide +kernel
theorem d12_33 : decode method_2_code 33 = .ok (.bipush 44, 2) := by decide +kernel
theorem d12_35 : decode method_2_code 35 = .ok (.if_icmp .eq 85, 3) := by decide +kernel
theorem d12_38 : decode method_2_code 38 = .ok (.iload_n 0, 1) := by decide +kernel
theorem d12_39 : decode method_2_code 39 = .ok (.bipush 47, 2) := by decide +kernel
theorem d12_41 : decode method_2_code 41 = .ok (.if_icmp .eq 79, 3) := by decide +kernel
theorem d12_44 : decode method_2_code 44 = .ok (.iload_n 0, 1) := by decide +kernel
theorem d12_45 : decode method_2_code 45 = .ok (.bipush 58, 2) := by decide +kernel
theorem d12_47 : decode method_2_code 47 = .ok (.if_icmp .eq 73, 3) := by decide +kernel
theorem d12_50 : decode method_2_code 50 = .ok (.iload_n 0, 1) := by decide +kernel
theorem d12_51 : decode method_2_code 51 = .ok (.bipush 59, 2) := by decide +kernel
theorem d12_53 : decode method_2_code 53 = .ok (.if_icmp .eq 67, 3) := by decide +kernel
theorem d12_56 : decode method_2_code 56 = .ok (.iload_n 0, 1) := by decide +kernel
theorem d12_57 : decode method_2_code 57 = .ok (.bipush 60, 2) := by decide +kernel
theorem d12_59 : decode method_2_code 59 = .ok (.if_icmp .eq 61, 3) := by decide +kernel
theorem d12_62 : decode method_2_code 62 = .ok (.iload_n 0, 1) := by decide +kernel
theorem d12_63 : decode method_2_code 63 = .ok (.bipush 61, 2) := by decide +kernel
theorem d12_65 : decode method_2_code 65 = .ok (.if_icmp .eq 55, 3) := by decide +kernel
theorem d12_68 : decode method_2_code 68 = .ok (.iload_n 0, 1) := by decide +kernel
theorem d12_69 : decode method_2_code 69 = .ok (.bipush 62, 2) := by decide +kernel
theorem d12_71 : decode method_2_code 71 = .ok (.if_icmp .eq 49, 3) := by decide +kernel
theorem d12_74 : decode method_2_code 74 = .ok (.iload_n 0, 1) := by decide +kernel
theorem d12_75 : decode method_2_code 75 = .ok (.bipush 63, 2) := by decide +kernel
theorem d12_77 : decode method_2_code 77 = .ok (.if_icmp .eq 43, 3) := by decide +kernel
theorem d12_80 : decode method_2_code 80 = .ok (.iload_n 0, 1) := by decide +kernel
theorem d12_81 : decode method_2_code 81 = .ok (.bipush 64, 2) := by decide +kernel
theorem d12_83 : decode method_2_code 83 = .ok (.if_icmp .eq 37, 3) := by decide +kernel
theorem d12_86 : decode method_2_code 86 = .ok (.iload_n 0, 1) := by decide +kernel
theorem d12_87 : decode method_2_code 87 = .ok (.bipush 91, 2) := by decide +kernel
theorem d12_89 : decode method_2_code 89 = .ok (.if_icmp .eq 31, 3) := by decide +kernel
theorem d12_92 : decode method_2_code 92 = .ok (.iload_n 0, 1) := by decide +kernel
theorem d12_93 : decode method_2_code 93 = .ok (.bipush 92, 2) := by decide +kernel
theorem d12_95 : decode method_2_code 95 = .ok (.if_icmp .eq 25, 3) := by decide +kernel
theorem d12_98 : decode method_2_code 98 = .ok (.iload_n 0, 1) := by decide +kernel
theorem d12_99 : decode method_2_code 99 = .ok (.bipush 93, 2) := by decide +kernel
theorem d12_101 : decode method_2_code 101 = .ok (.if_icmp .eq 19, 3) := by decide +kernel
theorem d12_104 : decode method_2_code 104 = .ok (.iload_n 0, 1) := by decide +kernel
theorem d12_105 : decode method_2_code 105 = .ok (.bipush 123, 2) := by decide +kernel
theorem d12_107 : decode method_2_code 107 = .ok (.if_icmp .eq 13, 3) := by decide +kernel
theorem d12_110 : decode method_2_code 110 = .ok (.iload_n 0, 1) := by decide +kernel
theorem d12_111 : decode method_2_code 111 = .ok (.bipush 125, 2) := by decide +kernel
theorem d12_113 : decode method_2_code 113 = .ok (.if_icmp .eq 7, 3) := by decide +kernel
theorem d12_116 : decode method_2_code 116 = .ok (.iconst 1, 1) := by decide +kernel
theorem d12_117 : decode method_2_code 117 = .ok (.goto 4, 3) := by decide +kernel
theorem own_pn2 : plainName "com/example/grantsmith/grantsmith/HeaderFieldsIsTokenCharPinLaw" = true := by first | (simp [plainName, overriddenIn]; done) | decide +kernel
theorem own_ef12 (m : MethodId) (x0 : Int32) : entryFrame m #[(.int x0)] 1 = mkF m 0 #[.val (.int x0)] [] := by first | (simp [entryFrame, mkF, argsToLocals, Value.category]; done) | rfl
def f_12 (p0 : Int32) : Int32 := (if p0 < (33 : Int32) then (0 : Int32) else (if (126 : Int32) < p0 then (0 : Int32) else (if p0 = (34 : Int32) then (0 : Int32) else (if p0 = (40 : Int32) then (0 : Int32) else (if p0 = (41 : Int32) then (0 : Int32) else (if p0 = (44 : Int32) then (0 : Int32) else (if p0 = (47 : Int32) then (0 : Int32) else (if p0 = (58 : Int32) then (0 : Int32) else (if p0 = (59 : Int32) then (0 : Int32) else (if p0 = (60 : Int32) then (0 : Int32) else (if p0 = (61 : Int32) then (0 : Int32) else (if p0 = (62 : Int32) then (0 : Int32) else (if p0 = (63 : Int32) then (0 : Int32) else (if p0 = (64 : Int32) then (0 : Int32) else (if p0 = (91 : Int32) then (0 : Int32) else (if p0 = (92 : Int32) then (0 : Int32) else (if p0 = (93 : Int32) then (0 : Int32) else (if p0 = (123 : Int32) then (0 : Int32) else (if p0 = (125 : Int32) then (0 : Int32) else (1 : Int32))))))))))))))))))))
def Q12 (Z : State) (p0 : Int32) (h0 : Heap) (n0 : Nat) (v : Option Value) (h : Heap) (L : List Loc) : Prop := v = some (.int (f_12 p0)) ∧ Fr n0 L ∧ h = h0
set_option maxRecDepth 65536 in
set_option maxHeartbeats 40000000 in
theorem rm12 (l : Launch) (Z : State) (aw : Array Value) (hw : ∀ d ∈ tables_1, d.before aw Z = true) (ws : List Jvm.Cond) (p0 : Int32) (h0 : Heap) (n0 : Nat) (Z0 : n0 ≤ h0.size) :
    MetFree l (⟨"com/example/grantsmith/grantsmith/HeaderFieldsIsTokenCharPinLaw", "ref", "(I)Z"⟩ : MethodName) (head1 (Jvm.Cond.code (⟨"com/example/grantsmith/grantsmith/HeaderFieldsIsTokenCharPinLaw", "ref", "(I)Z"⟩ : MethodName) method_2_code 1 (some .boolean) :: ws) ({ frames := 0, cells := 0, slots := 0, locals := 0 } : Room)) (fun a U => a = #[(.int p0)] ∧ Z.Warmed39 U.vm ∧ U.heap = h0) (fun _ _ _ _ _ => True) (fun _ U o U' => ∃ v L, o = .returned v ∧ (Q12 Z p0 h0 n0) v U'.heap L ∧ FrameEnd U o U' L ({ frames := 0, cells := 0, slots := 0, locals := 0 } : Room).cells ({ frames := 0, cells := 0, slots := 0, locals := 0 } : Room).slots) := by
  refine MetFree.of_bodySF (plainFor_of_name own_pn2) hisR ?_
  intro p e s m args below meth c s₁ Bd hml0 hP hK
  obtain ⟨rfl, hZ, hh⟩ := hP
  have hx := Bd.exec
  have hby := Bd.bytes
  have hml : c.maxLocals = 1 := hml0
  have hown : s.vm.findClass "com/example/grantsmith/grantsmith/HeaderFieldsIsTokenCharPinLaw" = some m.cls := findClass_of_methodNamed Bd.named
  have hnm := (name_of_methodNamed Bd.named Bd.method).1
  have hlk : meth.locks = false := BodyLoose.notSynchronized (by assumption)
  have X0 : Stand p l e ({ frames := 0, cells := 0, slots := 0, locals := 0 } : Room) s m #[(.int p0)] below meth c s₁ [] 0 0 := Stand.of_body Bd
  have e0 : s₁.heap = h0 := by rw [← hh, Bd.state]; rfl
  have N0 := Fr.nil n0
  show own_Done p e below s (Q12 Z p0 h0 n0) ({ frames := 0, cells := 0, slots := 0, locals := 0 } : Room).cells ({ frames := 0, cells := 0, slots := 0, locals := 0 } : Room).slots (s₁.setTop (entryFrame m #[(.int p0)] 1))
  refine own_go (U' := s₁.setTop (mkF m 0 #[.val (.int p0)] [])) (fun _ k => castTop (own_ef12 m p0) k) ?_
  refine own_go (U' := s₁.setTop (mkF m 1 #[.val (.int p0)] [(.int p0)])) (fun _ k => XS.iloadN X0.here hx rfl (hb hby d12_0) rfl k) ?_
  refine own_go (U' := s₁.setTop (mkF m 3 #[.val (.int p0)] [(.int (33 : Int32)), (.int p0)])) (fun _ k => XS.bipush X0.here hx rfl (hb hby d12_1) k) ?_
  by_cases hc3_53 : p0 < (33 : Int32)
  · refine own_go (U' := s₁.setTop (mkF m 12 #[.val (.int p0)] [])) (fun _ k => XS.icmpYes X0.here hx rfl (pc0 := 3) (pc' := 12) rfl (hb hby d12_3) rfl (tlt hc3_53).1 (by decide) (by decide) k) ?_
    refine own_go (U' := s₁.setTop (mkF m 13 #[.val (.int p0)] [(.int (0 : Int32))])) (fun _ k => XS.iconst X0.here hx rfl (hb hby d12_12) k) ?_
    refine own_ret X0 (v := (some (.int (0 : Int32)))) hlk (fun h => by rw [Bd.returns] at h; cases h) (by decide) (by decide) (fun fs hr => retN X0 hx (t := .boolean) Bd.returns (by simp) (hb hby d12_13) hr) ?_
    show (Q12 Z p0 h0 n0) _ s₁.heap _
    rw [e0]
    exact ⟨by first | (simp only [f_12, if_pos hc3_53]; done) | rfl | (simp [f_12, if_pos hc3_53]; done), N0, rfl⟩
  · refine own_go (U' := s₁.setTop (mkF m 6 #[.val (.int p0)] [])) (fun _ k => XS.icmpNo X0.here hx rfl (hb hby d12_3) rfl (flt hc3_53).1 k) ?_
    refine own_go (U' := s₁.setTop (mkF m 7 #[.val (.int p0)] [(.int p0)])) (fun _ k => XS.iloadN X0.here hx rfl (hb hby d12_6) rfl k) ?_
    refine own_go (U' := s₁.setTop (mkF m 9 #[.val (.int p0)] [(.int (126 : Int32)), (.int p0)])) (fun _ k => XS.bipush X0.here hx rfl (hb hby d12_7) k) ?_
    by_cases hc9_54 : (126 : Int32) < p0
    · refine own_go (U' := s₁.setTop (mkF m 12 #[.val (.int p0)] [])) (fun _ k => XS.icmpNo X0.here hx rfl (hb hby d12_9) rfl (tlt hc9_54).2.2.2 k) ?_
      refine own_go (U' := s₁.setTop (mkF m 13 #[.val (.int p0)] [(.int (0 : Int32))])) (fun _ k => XS.iconst X0.here hx rfl (hb hby d12_12) k) ?_
      refine own_ret X0 (v := (some (.int (0 : Int32)))) hlk (fun h => by rw [Bd.returns] at h; cases h) (by decide) (by decide) (fun fs hr => retN X0 hx (t := .boolean) Bd.returns (by simp) (hb hby d12_13) hr) ?_
      show (Q12 Z p0 h0 n0) _ s₁.heap _
      rw [e0]
      exact ⟨by first | (simp only [f_12, if_neg hc3_53, if_pos hc9_54]; done) | rfl | (simp [f_12, if_neg hc3_53, if_pos hc9_54]; done), N0, rfl⟩
    · refine own_go (U' := s₁.setTop (mkF m 14 #[.val (.int p0)] [])) (fun _ k => XS.icmpYes X0.here hx rfl (pc0 := 9) (pc' := 14) rfl (hb hby d12_9) rfl (flt hc9_54).2.2.2 (by decide) (by decide) k) ?_
      refine own_go (U' := s₁.setTop (mkF m 15 #[.val (.int p0)] [(.int p0)])) (fun _ k => XS.iloadN X0.here hx rfl (hb hby d12_14) rfl k) ?_
      refine own_go (U' := s₁.setTop (mkF m 17 #[.val (.int p0)] [(.int (34 : Int32)), (.int p0)])) (fun _ k => XS.bipush X0.here hx rfl (hb hby d12_15) k) ?_
      by_cases hc17_55 : p0 = (34 : Int32)
      · refine own_go (U' := s₁.setTop (mkF m 120 #[.val (.int p0)] [])) (fun _ k => XS.icmpYes X0.here hx rfl (pc0 := 17) (pc' := 120) rfl (hb hby d12_17) rfl (teq hc17_55).1 (by decide) (by decide) k) ?_
        refine own_go (U' := s₁.setTop (mkF m 121 #[.val (.int p0)] [(.int (0 : Int32))])) (fun _ k => XS.iconst X0.here hx rfl (hb hby d12_120) k) ?_
        refine own_ret X0 (v := (some (.int (0 : Int32)))) hlk (fun h => by rw [Bd.returns] at h; cases h) (by decide) (by decide) (fun fs hr => retN X0 hx (t := .boolean) Bd.returns (by simp) (hb hby d12_121) hr) ?_
        show (Q12 Z p0 h0 n0) _ s₁.heap _
        rw [e0]
        exact ⟨by first | (simp only [f_12, if_neg hc3_53, if_neg hc9_54, if_pos hc17_55]; done) | rfl | (simp [f_12, if_neg hc3_53, if_neg hc9_54, if_pos hc17_55]; done), N0, rfl⟩
      · refine own_go (U' := s₁.setTop (mkF m 20 #[.val (.int p0)] [])) (fun _ k => XS.icmpNo X0.here hx rfl (hb hby d12_17) rfl (feq hc17_55).1 k) ?_
        refine own_go (U' := s₁.setTop (mkF m 21 #[.val (.int p0)] [(.int p0)])) (fun _ k => XS.iloadN X0.here hx rfl (hb hby d12_20) rfl k) ?_
        refine own_go (U' := s₁.setTop (mkF m 23 #[.val (.int p0)] [(.int (40 : Int32)), (.int p0)])) (fun _ k => XS.bipush X0.here hx rfl (hb hby d12_21) k) ?_
        by_cases hc23_56 : p0 = (40 : Int32)
        · refine own_go (U' := s₁.setTop (mkF m 120 #[.val (.int p0)] [])) (fun _ k => XS.icmpYes X0.here hx rfl (pc0 := 23) (pc' := 120) rfl (hb hby d12_23) rfl (teq hc23_56).1 (by decide) (by decide) k) ?_
          refine own_go (U' := s₁.setTop (mkF m 121 #[.val (.int p0)] [(.int (0 : Int32))])) (fun _ k => XS.iconst X0.here hx rfl (hb hby d12_120) k) ?_
          refine own_ret X0 (v := (some (.int (0 : Int32)))) hlk (fun h => by rw [Bd.returns] at h; cases h) (by decide) (by decide) (fun fs hr => retN X0 hx (t := .boolean) Bd.returns (by simp) (hb hby d12_121) hr) ?_
          show (Q12 Z p0 h0 n0) _ s₁.heap _
          rw [e0]
          exact ⟨by first | (simp only [f_12, if_neg hc3_53, if_neg hc9_54, if_neg hc17_55, if_pos hc23_56]; done) | rfl | (simp [f_12, if_neg hc3_53, if_neg hc9_54, if_neg hc17_55, if_pos hc23_56]; done), N0, rfl⟩
        · refine own_go (U' := s₁.setTop (mkF m 26 #[.val (.int p0)] [])) (fun _ k => XS.icmpNo X0.here hx rfl (hb hby d12_23) rfl (feq hc23_56).1 k) ?_
          refine own_go (U' := s₁.setTop (mkF m 27 #[.val (.int p0)] [(.int p0)])) (fun _ k => XS.iloadN X0.here hx rfl (hb hby d12_26) rfl k) ?_
          refine own_go (U' := s₁.setTop (mkF m 29 #[.val (.int p0)] [(.int (41 : Int32)), (.int p0)])) (fun _ k => XS.bipush X0.here hx rfl (hb hby d12_27) k) ?_
          by_cases hc29_57 : p0 = (41 : Int32)
          · refine own_go (U' := s₁.setTop (mkF m 120 #[.val (.int p0)] [])) (fun _ k => XS.icmpYes X0.here hx rfl (pc0 := 29) (pc' := 120) rfl (hb hby d12_29) rfl (teq hc29_57).1 (by decide) (by decide) k) ?_
            refine own_go (U' := s₁.setTop (mkF m 121 #[.val (.int p0)] [(.int (0 : Int32))])) (fun _ k => XS.iconst X0.here hx rfl (hb hby d12_120) k) ?_
            refine own_ret X0 (v := (some (.int (0 : Int32)))) hlk (fun h => by rw [Bd.returns] at h; cases h) (by decide) (by decide) (fun fs hr => retN X0 hx (t := .boolean) Bd.returns (by simp) (hb hby d12_121) hr) ?_
            show (Q12 Z p0 h0 n0) _ s₁.heap _
            rw [e0]
            exact ⟨by first | (simp only [f_12, if_neg hc3_53, if_neg hc9_54, if_neg hc17_55, if_neg hc23_56, if_pos hc29_57]; done) | rfl | (simp [f_12, if_neg hc3_53, if_neg hc9_54, if_neg hc17_55, if_neg hc23_56, if_pos hc29_57]; done), N0, rfl⟩
          · refine own_go (U' := s₁.setTop (mkF m 32 #[.val (.int p0)] [])) (fun _ k => XS.icmpNo X0.here hx rfl (hb hby d12_29) rfl (feq hc29_57).1 k) ?_
            refine own_go (U' := s₁.setTop (mkF m 33 #[.val (.int p0)] [(.int p0)])) (fun _ k => XS.iloadN X0.here hx rfl (hb hby d12_32) rfl k) ?_
            refine own_go (U' := s₁.setTop (mkF m 35 #[.val (.int p0)] [(.int (44 : Int32)), (.int p0)])) (fun _ k => XS.bipush X0.here hx rfl (hb hby d12_33) k) ?_
            by_cases hc35_58 : p0 = (44 : Int32)
            · refine own_go (U' := s₁.setTop (mkF m 120 #[.val (.int p0)] [])) (fun _ k => XS.icmpYes X0.here hx rfl (pc0 := 35) (pc' := 120) rfl (hb hby d12_35) rfl (teq hc35_58).1 (by decide) (by decide) k) ?_
              refine own_go (U' := s₁.setTop (mkF m 121 #[.val (.int p0)] [(.int (0 : Int32))])) (fun _ k => XS.iconst X0.here hx rfl (hb hby d12_120) k) ?_
              refine own_ret X0 (v := (some (.int (0 : Int32)))) hlk (fun h => by rw [Bd.returns] at h; cases h) (by decide) (by decide) (fun fs hr => retN X0 hx (t := .boolean) Bd.returns (by simp) (hb hby d12_121) hr) ?_
              show (Q12 Z p0 h0 n0) _ s₁.heap _
              rw [e0]
              exact ⟨by first | (simp only [f_12, if_neg hc3_53, if_neg hc9_54, if_neg hc17_55, if_neg hc23_56, if_neg hc29_57, if_pos hc35_58]; done) | rfl | (simp [f_12, if_neg hc3_53, if_neg hc9_54, if_neg hc17_55, if_neg hc23_56, if_neg hc29_57, if_pos hc35_58]; done), N0, rfl⟩
            · refine own_go (U' := s₁.setTop (mkF m 38 #[.val (.int p0)] [])) (fun _ k => XS.icmpNo X0.here hx rfl (hb hby d12_35) rfl (feq hc35_58).1 k) ?_
              refine own_go (U' := s₁.setTop (mkF m 39 #[.val (.int p0)] [(.int p0)])) (fun _ k => XS.iloadN X0.here hx rfl (hb hby d12_38) rfl k) ?_
              refine own_go (U' := s₁.setTop (mkF m 41 #[.val (.int p0)] [(.int (47 : Int32)), (.int p0)])) (fun _ k => XS.bipush X0.here hx rfl (hb hby d12_39) k) ?_
              by_cases hc41_59 : p0 = (47 : Int32)
              · refine own_go (U' := s₁.setTop (mkF m 120 #[.val (.int p0)] [])) (fun _ k => XS.icmpYes X0.here hx rfl (pc0 := 41) (pc' := 120) rfl (hb hby d12_41) rfl (teq hc41_59).1 (by decide) (by decide) k) ?_
                refine own_go (U' := s₁.setTop (mkF m 121 #[.val (.int p0)] [(.int (0 : Int32))])) (fun _ k => XS.iconst X0.here hx rfl (hb hby d12_120) k) ?_
                refine own_ret X0 (v := (some (.int (0 : Int32)))) hlk (fun h => by rw [Bd.returns] at h; cases h) (by decide) (by decide) (fun fs hr => retN X0 hx (t := .boolean) Bd.returns (by simp) (hb hby d12_121) hr) ?_
                show (Q12 Z p0 h0 n0) _ s₁.heap _
                rw [e0]
                exact ⟨by first | (simp only [f_12, if_neg hc3_53, if_neg hc9_54, if_neg hc17_55, if_neg hc23_56, if_neg hc29_57, if_neg hc35_58, if_pos hc41_59]; done) | rfl | (simp [f_12, if_neg hc3_53, if_neg hc9_54, if_neg hc17_55, if_neg hc23_56, if_neg hc29_57, if_neg hc35_58, if_pos hc41_59]; done), N0, rfl⟩
              · refine own_go (U' := s₁.setTop (mkF m 44 #[.val (.int p0)] [])) (fun _ k => XS.icmpNo X0.here hx rfl (hb hby d12_41) rfl (feq hc41_59).1 k) ?_
                refine own_go (U' := s₁.setTop (mkF m 45 #[.val (.int p0)] [(.int p0)])) (fun _ k => XS.iloadN X0.here hx rfl (hb hby d12_44) rfl k) ?_
                refine own_go (U' := s₁.setTop (mkF m 47 #[.val (.int p0)] [(.int (58 : Int32)), (.int p0)])) (fun _ k => XS.bipush X0.here hx rfl (hb hby d12_45) k) ?_
                by_cases hc47_60 : p0 = (58 : Int32)
                · refine own_go (U' := s₁.setTop (mkF m 120 #[.val (.int p0)] [])) (fun _ k => XS.icmpYes X0.here hx rfl (pc0 := 47) (pc' := 120) rfl (hb hby d12_47) rfl (teq hc47_60).1 (by decide) (by decide) k) ?_
                  refine own_go (U' := s₁.setTop (mkF m 121 #[.val (.int p0)] [(.int (0 : Int32))])) (fun _ k => XS.iconst X0.here hx rfl (hb hby d12_120) k) ?_
                  refine own_ret X0 (v := (some (.int (0 : Int32)))) hlk (fun h => by rw [Bd.returns] at h; cases h) (by decide) (by decide) (fun fs hr => retN X0 hx (t := .boolean) Bd.returns (by simp) (hb hby d12_121) hr) ?_
                  show (Q12 Z p0 h0 n0) _ s₁.heap _
                  rw [e0]
                  exact ⟨by first | (simp only [f_12, if_neg hc3_53, if_neg hc9_54, if_neg hc17_55, if_neg hc23_56, if_neg hc29_57, if_neg hc35_58, if_neg hc41_59, if_pos hc47_60]; done) | rfl | (simp [f_12, if_neg hc3_53, if_neg hc9_54, if_neg hc17_55, if_neg hc23_56, if_neg hc29_57, if_neg hc35_58, if_neg hc41_59, if_pos hc47_60]; done), N0, rfl⟩
                · refine own_go (U' := s₁.setTop (mkF m 50 #[.val (.int p0)] [])) (fun _ k => XS.icmpNo X0.here hx rfl (hb hby d12_47) rfl (feq hc47_60).1 k) ?_
                  refine own_go (U' := s₁.setTop (mkF m 51 #[.val (.int p0)] [(.int p0)])) (fun _ k => XS.iloadN X0.here hx rfl (hb hby d12_50) rfl k) ?_
                  refine own_go (U' := s₁.setTop (mkF m 53 #[.val (.int p0)] [(.int (59 : Int32)), (.int p0)])) (fun _ k => XS.bipush X0.here hx rfl (hb hby d12_51) k) ?_
                  by_cases hc53_61 : p0 = (59 : Int32)
                  · refine own_go (U' := s₁.setTop (mkF m 120 #[.val (.int p0)] [])) (fun _ k => XS.icmpYes X0.here hx rfl (pc0 := 53) (pc' := 120) rfl (hb hby d12_53) rfl (teq hc53_61).1 (by decide) (by decide) k) ?_
                    refine own_go (U' := s₁.setTop (mkF m 121 #[.val (.int p0)] [(.int (0 : Int32))])) (fun _ k => XS.iconst X0.here hx rfl (hb hby d12_120) k) ?_
                    refine own_ret X0 (v := (some (.int (0 : Int32)))) hlk (fun h => by rw [Bd.returns] at h; cases h) (by decide) (by decide) (fun fs hr => retN X0 hx (t := .boolean) Bd.returns (by simp) (hb hby d12_121) hr) ?_
                    show (Q12 Z p0 h0 n0) _ s₁.heap _
                    rw [e0]
                    exact ⟨by first | (simp only [f_12, if_neg hc3_53, if_neg hc9_54, if_neg hc17_55, if_neg hc23_56, if_neg hc29_57, if_neg hc35_58, if_neg hc41_59, if_neg hc47_60, if_pos hc53_61]; done) | rfl | (simp [f_12, if_neg hc3_53, if_neg hc9_54, if_neg hc17_55, if_neg hc23_56, if_neg hc29_57, if_neg hc35_58, if_neg hc41_59, if_neg hc47_60, if_pos hc53_61]; done), N0, rfl⟩
                  · refine own_go (U' := s₁.setTop (mkF m 56 #[.val (.int p0)] [])) (fun _ k => XS.icmpNo X0.here hx rfl (hb hby d12_53) rfl (feq hc53_61).1 k) ?_
                    refine own_go (U' := s₁.setTop (mkF m 57 #[.val (.int p0)] [(.int p0)])) (fun _ k => XS.iloadN X0.here hx rfl (hb hby d12_56) rfl k) ?_
                    refine own_go (U' := s₁.setTop (mkF m 59 #[.val (.int p0)] [(.int (60 : Int32)), (.int p0)])) (fun _ k => XS.bipush X0.here hx rfl (hb hby d12_57) k) ?_
                    by_cases hc59_62 : p0 = (60 : Int32)
                    · refine own_go (U' := s₁.setTop (mkF m 120 #[.val (.int p0)] [])) (fun _ k => XS.icmpYes X0.here hx rfl (pc0 := 59) (pc' := 120) rfl (hb hby d12_59) rfl (teq hc59_62).1 (by decide) (by decide) k) ?_
                      refine own_go (U' := s₁.setTop (mkF m 121 #[.val (.int p0)] [(.int (0 : Int32))])) (fun _ k => XS.iconst X0.here hx rfl (hb hby d12_120) k) ?_
                      refine own_ret X0 (v := (some (.int (0 : Int32)))) hlk (fun h => by rw [Bd.returns] at h; cases h) (by decide) (by decide) (fun fs hr => retN X0 hx (t := .boolean) Bd.returns (by simp) (hb hby d12_121) hr) ?_
                      show (Q12 Z p0 h0 n0) _ s₁.heap _
                      rw [e0]
                      exact ⟨by first | (simp only [f_12, if_neg hc3_53, if_neg hc9_54, if_neg hc17_55, if_neg hc23_56, if_neg hc29_57, if_neg hc35_58, if_neg hc41_59, if_neg hc47_60, if_neg hc53_61, if_pos hc59_62]; done) | rfl | (simp [f_12, if_neg hc3_53, if_neg hc9_54, if_neg hc17_55, if_neg hc23_56, if_neg hc29_57, if_neg hc35_58, if_neg hc41_59, if_neg hc47_60, if_neg hc53_61, if_pos hc59_62]; done), N0, rfl⟩
                    · refine own_go (U' := s₁.setTop (mkF m 62 #[.val (.int p0)] [])) (fun _ k => XS.icmpNo X0.here hx rfl (hb hby d12_59) rfl (feq hc59_62).1 k) ?_
                      refine own_go (U' := s₁.setTop (mkF m 63 #[.val (.int p0)] [(.int p0)])) (fun _ k => XS.iloadN X0.here hx rfl (hb hby d12_62) rfl k) ?_
                      refine own_go (U' := s₁.setTop (mkF m 65 #[.val (.int p0)] [(.int (61 : Int32)), (.int p0)])) (fun _ k => XS.bipush X0.here hx rfl (hb hby d12_63) k) ?_
                      by_cases hc65_63 : p0 = (61 : Int32)
                      · refine own_go (U' := s₁.setTop (mkF m 120 #[.val (.int p0)] [])) (fun _ k => XS.icmpYes X0.here hx rfl (pc0 := 65) (pc' := 120) rfl (hb hby d12_65) rfl (teq hc65_63).1 (by decide) (by decide) k) ?_
                        refine own_go (U' := s₁.setTop (mkF m 121 #[.val (.int p0)] [(.int (0 : Int32))])) (fun _ k => XS.iconst X0.here hx rfl (hb hby d12_120) k) ?_
                        refine own_ret X0 (v := (some (.int (0 : Int32)))) hlk (fun h => by rw [Bd.returns] at h; cases h) (by decide) (by decide) (fun fs hr => retN X0 hx (t := .boolean) Bd.returns (by simp) (hb hby d12_121) hr) ?_
                        show (Q12 Z p0 h0 n0) _ s₁.heap _
                        rw [e0]
                        exact ⟨by first | (simp only [f_12, if_neg hc3_53, if_neg hc9_54, if_neg hc17_55, if_neg hc23_56, if_neg hc29_57, if_neg hc35_58, if_neg hc41_59, if_neg hc47_60, if_neg hc53_61, if_neg hc59_62, if_pos hc65_63]; done) | rfl | (simp [f_12, if_neg hc3_53, if_neg hc9_54, if_neg hc17_55, if_neg hc23_56, if_neg hc29_57, if_neg hc35_58, if_neg hc41_59, if_neg hc47_60, if_neg hc53_61, if_neg hc59_62, if_pos hc65_63]; done), N0, rfl⟩
                      · refine own_go (U' := s₁.setTop (mkF m 68 #[.val (.int p0)] [])) (fun _ k => XS.icmpNo X0.here hx rfl (hb hby d12_65) rfl (feq hc65_63).1 k) ?_
                        refine own_go (U' := s₁.setTop (mkF m 69 #[.val (.int p0)] [(.int p0)])) (fun _ k => XS.iloadN X0.here hx rfl (hb hby d12_68) rfl k) ?_
                        refine own_go (U' := s₁.setTop (mkF m 71 #[.val (.int p0)] [(.int (62 : Int32)), (.int p0)])) (fun _ k => XS.bipush X0.here hx rfl (hb hby d12_69) k) ?_
                        by_cases hc71_64 : p0 = (62 : Int32)
                        · refine own_go (U' := s₁.setTop (mkF m 120 #[.val (.int p0)] [])) (fun _ k => XS.icmpYes X0.here hx rfl (pc0 := 71) (pc' := 120) rfl (hb hby d12_71) rfl (teq hc71_64).1 (by decide) (by decide) k) ?_
                          refine own_go (U' := s₁.setTop (mkF m 121 #[.val (.int p0)] [(.int (0 : Int32))])) (fun _ k => XS.iconst X0.here hx rfl (hb hby d12_120) k) ?_
                          refine own_ret X0 (v := (some (.int (0 : Int32)))) hlk (fun h => by rw [Bd.returns] at h; cases h) (by decide) (by decide) (fun fs hr => retN X0 hx (t := .boolean) Bd.returns (by simp) (hb hby d12_121) hr) ?_
                          show (Q12 Z p0 h0 n0) _ s₁.heap _
                          rw [e0]
                          exact ⟨by first | (simp only [f_12, if_neg hc3_53, if_neg hc9_54, if_neg hc17_55, if_neg hc23_56, if_neg hc29_57, if_neg hc35_58, if_neg hc41_59, if_neg hc47_60, if_neg hc53_61, if_neg hc59_62, if_neg hc65_63, if_pos hc71_64]; done) | rfl | (simp [f_12, if_neg hc3_53, if_neg hc9_54, if_neg hc17_55, if_neg hc23_56, if_neg hc29_57, if_neg hc35_58, if_neg hc41_59, if_neg hc47_60, if_neg hc53_61, if_neg hc59_62, if_neg hc65_63, if_pos hc71_64]; done), N0, rfl⟩
                        · refine own_go (U' := s₁.setTop (mkF m 74 #[.val (.int p0)] [])) (fun _ k => XS.icmpNo X0.here hx rfl (hb hby d12_71) rfl (feq hc71_64).1 k) ?_
                          refine own_go (U' := s₁.setTop (mkF m 75 #[.val (.int p0)] [(.int p0)])) (fun _ k => XS.iloadN X0.here hx rfl (hb hby d12_74) rfl k) ?_
                          refine own_go (U' := s₁.setTop (mkF m 77 #[.val (.int p0)] [(.int (63 : Int32)), (.int p0)])) (fun _ k => XS.bipush X0.here hx rfl (hb hby d12_75) k) ?_
                          by_cases hc77_65 : p0 = (63 : Int32)
                          · refine own_go (U' := s₁.setTop (mkF m 120 #[.val (.int p0)] [])) (fun _ k => XS.icmpYes X0.here hx rfl (pc0 := 77) (pc' := 120) rfl (hb hby d12_77) rfl (teq hc77_65).1 (by decide) (by decide) k) ?_
                            refine own_go (U' := s₁.setTop (mkF m 121 #[.val (.int p0)] [(.int (0 : Int32))])) (fun _ k => XS.iconst X0.here hx rfl (hb hby d12_120) k) ?_
                            refine own_ret X0 (v := (some (.int (0 : Int32)))) hlk (fun h => by rw [Bd.returns] at h; cases h) (by decide) (by decide) (fun fs hr => retN X0 hx (t := .boolean) Bd.returns (by simp) (hb hby d12_121) hr) ?_
                            show (Q12 Z p0 h0 n0) _ s₁.heap _
                            rw [e0]
                            exact ⟨by first | (simp only [f_12, if_neg hc3_53, if_neg hc9_54, if_neg hc17_55, if_neg hc23_56, if_neg hc29_57, if_neg hc35_58, if_neg hc41_59, if_neg hc47_60, if_neg hc53_61, if_neg hc59_62, if_neg hc65_63, if_neg hc71_64, if_pos hc77_65]; done) | rfl | (simp [f_12, if_neg hc3_53, if_neg hc9_54, if_neg hc17_55, if_neg hc23_56, if_neg hc29_57, if_neg hc35_58, if_neg hc41_59, if_neg hc47_60, if_neg hc53_61, if_neg hc59_62, if_neg hc65_63, if_neg hc71_64, if_pos hc77_65]; done), N0, rfl⟩
                          · refine own_go (U' := s₁.setTop (mkF m 80 #[.val (.int p0)] [])) (fun _ k => XS.icmpNo X0.here hx rfl (hb hby d12_77) rfl (feq hc77_65).1 k) ?_
                            refine own_go (U' := s₁.setTop (mkF m 81 #[.val (.int p0)] [(.int p0)])) (fun _ k => XS.iloadN X0.here hx rfl (hb hby d12_80) rfl k) ?_
                            refine own_go (U' := s₁.setTop (mkF m 83 #[.val (.int p0)] [(.int (64 : Int32)), (.int p0)])) (fun _ k => XS.bipush X0.here hx rfl (hb hby d12_81) k) ?_
                            by_cases hc83_66 : p0 = (64 : Int32)
                            · refine own_go (U' := s₁.setTop (mkF m 120 #[.val (.int p0)] [])) (fun _ k => XS.icmpYes X0.here hx rfl (pc0 := 83) (pc' := 120) rfl (hb hby d12_83) rfl (teq hc83_66).1 (by decide) (by decide) k) ?_
                              refine own_go (U' := s₁.setTop (mkF m 121 #[.val (.int p0)] [(.int (0 : Int32))])) (fun _ k => XS.iconst X0.here hx rfl (hb hby d12_120) k) ?_
                              refine own_ret X0 (v := (some (.int (0 : Int32)))) hlk (fun h => by rw [Bd.returns] at h; cases h) (by decide) (by decide) (fun fs hr => retN X0 hx (t := .boolean) Bd.returns (by simp) (hb hby d12_121) hr) ?_
                              show (Q12 Z p0 h0 n0) _ s₁.heap _
                              rw [e0]
                              exact ⟨by first | (simp only [f_12, if_neg hc3_53, if_neg hc9_54, if_neg hc17_55, if_neg hc23_56, if_neg hc29_57, if_neg hc35_58, if_neg hc41_59, if_neg hc47_60, if_neg hc53_61, if_neg hc59_62, if_neg hc65_63, if_neg hc71_64, if_neg hc77_65, if_pos hc83_66]; done) | rfl | (simp [f_12, if_neg hc3_53, if_neg hc9_54, if_neg hc17_55, if_neg hc23_56, if_neg hc29_57, if_neg hc35_58, if_neg hc41_59, if_neg hc47_60, if_neg hc53_61, if_neg hc59_62, if_neg hc65_63, if_neg hc71_64, if_neg hc77_65, if_pos hc83_66]; done), N0, rfl⟩
                            · refine own_go (U' := s₁.setTop (mkF m 86 #[.val (.int p0)] [])) (fun _ k => XS.icmpNo X0.here hx rfl (hb hby d12_83) rfl (feq hc83_66).1 k) ?_
                              refine own_go (U' := s₁.setTop (mkF m 87 #[.val (.int p0)] [(.int p0)])) (fun _ k => XS.iloadN X0.here hx rfl (hb hby d12_86) rfl k) ?_
                              refine own_go (U' := s₁.setTop (mkF m 89 #[.val (.int p0)] [(.int (91 : Int32)), (.int p0)])) (fun _ k => XS.bipush X0.here hx rfl (hb hby d12_87) k) ?_
                              by_cases hc89_67 : p0 = (91 : Int32)
                              · refine own_go (U' := s₁.setTop (mkF m 120 #[.val (.int p0)] [])) (fun _ k => XS.icmpYes X0.here hx rfl (pc0 := 89) (pc' := 120) rfl (hb hby d12_89) rfl (teq hc89_67).1 (by decide) (by decide) k) ?_
                                refine own_go (U' := s₁.setTop (mkF m 121 #[.val (.int p0)] [(.int (0 : Int32))])) (fun _ k => XS.iconst X0.here hx rfl (hb hby d12_120) k) ?_
                                refine own_ret X0 (v := (some (.int (0 : Int32)))) hlk (fun h => by rw [Bd.returns] at h; cases h) (by decide) (by decide) (fun fs hr => retN X0 hx (t := .boolean) Bd.returns (by simp) (hb hby d12_121) hr) ?_
                                show (Q12 Z p0 h0 n0) _ s₁.heap _
                                rw [e0]
                                exact ⟨by first | (simp only [f_12, if_neg hc3_53, if_neg hc9_54, if_neg hc17_55, if_neg hc23_56, if_neg hc29_57, if_neg hc35_58, if_neg hc41_59, if_neg hc47_60, if_neg hc53_61, if_neg hc59_62, if_neg hc65_63, if_neg hc71_64, if_neg hc77_65, if_neg hc83_66, if_pos hc89_67]; done) | rfl | (simp [f_12, if_neg hc3_53, if_neg hc9_54, if_neg hc17_55, if_neg hc23_56, if_neg hc29_57, if_neg hc35_58, if_neg hc41_59, if_neg hc47_60, if_neg hc53_61, if_neg hc59_62, if_neg hc65_63, if_neg hc71_64, if_neg hc77_65, if_neg hc83_66, if_pos hc89_67]; done), N0, rfl⟩
                              · refine own_go (U' := s₁.setTop (mkF m 92 #[.val (.int p0)] [])) (fun _ k => XS.icmpNo X0.here hx rfl (hb hby d12_89) rfl (feq hc89_67).1 k) ?_
                                refine own_go (U' := s₁.setTop (mkF m 93 #[.val (.int p0)] [(.int p0)])) (fun _ k => XS.iloadN X0.here hx rfl (hb hby d12_92) rfl k) ?_
                                refine own_go (U' := s₁.setTop (mkF m 95 #[.val (.int p0)] [(.int (92 : Int32)), (.int p0)])) (fun _ k => XS.bipush X0.here hx rfl (hb hby d12_93) k) ?_
                                by_cases hc95_68 : p0 = (92 : Int32)
                                · refine own_go (U' := s₁.setTop (mkF m 120 #[.val (.int p0)] [])) (fun _ k => XS.icmpYes X0.here hx rfl (pc0 := 95) (pc' := 120) rfl (hb hby d12_95) rfl (teq hc95_68).1 (by decide) (by decide) k) ?_
                                  refine own_go (U' := s₁.setTop (mkF m 121 #[.val (.int p0)] [(.int (0 : Int32))])) (fun _ k => XS.iconst X0.here hx rfl (hb hby d12_120) k) ?_
                                  refine own_ret X0 (v := (some (.int (0 : Int32)))) hlk (fun h => by rw [Bd.returns] at h; cases h) (by decide) (by decide) (fun fs hr => retN X0 hx (t := .boolean) Bd.returns (by simp) (hb hby d12_121) hr) ?_
                                  show (Q12 Z p0 h0 n0) _ s₁.heap _
                                  rw [e0]
                                  exact ⟨by first | (simp only [f_12, if_neg hc3_53, if_neg hc9_54, if_neg hc17_55, if_neg hc23_56, if_neg hc29_57, if_neg hc35_58, if_neg hc41_59, if_neg hc47_60, if_neg hc53_61, if_neg hc59_62, if_neg hc65_63, if_neg hc71_64, if_neg hc77_65, if_neg hc83_66, if_neg hc89_67, if_pos hc95_68]; done) | rfl | (simp [f_12, if_neg hc3_53, if_neg hc9_54, if_neg hc17_55, if_neg hc23_56, if_neg hc29_57, if_neg hc35_58, if_neg hc41_59, if_neg hc47_60, if_neg hc53_61, if_neg hc59_62, if_neg hc65_63, if_neg hc71_64, if_neg hc77_65, if_neg hc83_66, if_neg hc89_67, if_pos hc95_68]; done), N0, rfl⟩
                                · refine own_go (U' := s₁.setTop (mkF m 98 #[.val (.int p0)] [])) (fun _ k => XS.icmpNo X0.here hx rfl (hb hby d12_95) rfl (feq hc95_68).1 k) ?_
                                  refine own_go (U' := s₁.setTop (mkF m 99 #[.val (.int p0)] [(.int p0)])) (fun _ k => XS.iloadN X0.here hx rfl (hb hby d12_98) rfl k) ?_
                                  refine own_go (U' := s₁.setTop (mkF m 101 #[.val (.int p0)] [(.int (93 : Int32)), (.int p0)])) (fun _ k => XS.bipush X0.here hx rfl (hb hby d12_99) k) ?_
                                  by_cases hc101_69 : p0 = (93 : Int32)
                                  · refine own_go (U' := s₁.setTop (mkF m 120 #[.val (.int p0)] [])) (fun _ k => XS.icmpYes X0.here hx rfl (pc0 := 101) (pc' := 120) rfl (hb hby d12_101) rfl (teq hc101_69).1 (by decide) (by decide) k) ?_
                                    refine own_go (U' := s₁.setTop (mkF m 121 #[.val (.int p0)] [(.int (0 : Int32))])) (fun _ k => XS.iconst X0.here hx rfl (hb hby d12_120) k) ?_
                                    refine own_ret X0 (v := (some (.int (0 : Int32)))) hlk (fun h => by rw [Bd.returns] at h; cases h) (by decide) (by decide) (fun fs hr => retN X0 hx (t := .boolean) Bd.returns (by simp) (hb hby d12_121) hr) ?_
                                    show (Q12 Z p0 h0 n0) _ s₁.heap _
                                    rw [e0]
                                    exact ⟨by first | (simp only [f_12, if_neg hc3_53, if_neg hc9_54, if_neg hc17_55, if_neg hc23_56, if_neg hc29_57, if_neg hc35_58, if_neg hc41_59, if_neg hc47_60, if_neg hc53_61, if_neg hc59_62, if_neg hc65_63, if_neg hc71_64, if_neg hc77_65, if_neg hc83_66, if_neg hc89_67, if_neg hc95_68, if_pos hc101_69]; done) | rfl | (simp [f_12, if_neg hc3_53, if_neg hc9_54, if_neg hc17_55, if_neg hc23_56, if_neg hc29_57, if_neg hc35_58, if_neg hc41_59, if_neg hc47_60, if_neg hc53_61, if_neg hc59_62, if_neg hc65_63, if_neg hc71_64, if_neg hc77_65, if_neg hc83_66, if_neg hc89_67, if_neg hc95_68, if_pos hc101_69]; done), N0, rfl⟩
                                  · refine own_go (U' := s₁.setTop (mkF m 104 #[.val (.int p0)] [])) (fun _ k => XS.icmpNo X0.here hx rfl (hb hby d12_101) rfl (feq hc101_69).1 k) ?_
                                    refine own_go (U' := s₁.setTop (mkF m 105 #[.val (.int p0)] [(.int p0)])) (fun _ k => XS.iloadN X0.here hx rfl (hb hby d12_104) rfl k) ?_
                                    refine own_go (U' := s₁.setTop (mkF m 107 #[.val (.int p0)] [(.int (123 : Int32)), (.int p0)])) (fun _ k => XS.bipush X0.here hx rfl (hb hby d12_105) k) ?_
                                    by_cases hc107_70 : p0 = (123 : Int32)
                                    · refine own_go (U' := s₁.setTop (mkF m 120 #[.val (.int p0)] [])) (fun _ k => XS.icmpYes X0.here hx rfl (pc0 := 107) (pc' := 120) rfl (hb hby d12_107) rfl (teq hc107_70).1 (by decide) (by decide) k) ?_
                                      refine own_go (U' := s₁.setTop (mkF m 121 #[.val (.int p0)] [(.int (0 : Int32))])) (fun _ k => XS.iconst X0.here hx rfl (hb hby d12_120) k) ?_
                                      refine own_ret X0 (v := (some (.int (0 : Int32)))) hlk (fun h => by rw [Bd.returns] at h; cases h) (by decide) (by decide) (fun fs hr => retN X0 hx (t := .boolean) Bd.returns (by simp) (hb hby d12_121) hr) ?_
                                      show (Q12 Z p0 h0 n0) _ s₁.heap _
                                      rw [e0]
                                      exact ⟨by first | (simp only [f_12, if_neg hc3_53, if_neg hc9_54, if_neg hc17_55, if_neg hc23_56, if_neg hc29_57, if_neg hc35_58, if_neg hc41_59, if_neg hc47_60, if_neg hc53_61, if_neg hc59_62, if_neg hc65_63, if_neg hc71_64, if_neg hc77_65, if_neg hc83_66, if_neg hc89_67, if_neg hc95_68, if_neg hc101_69, if_pos hc107_70]; done) | rfl | (simp [f_12, if_neg hc3_53, if_neg hc9_54, if_neg hc17_55, if_neg hc23_56, if_neg hc29_57, if_neg hc35_58, if_neg hc41_59, if_neg hc47_60, if_neg hc53_61, if_neg hc59_62, if_neg hc65_63, if_neg hc71_64, if_neg hc77_65, if_neg hc83_66, if_neg hc89_67, if_neg hc95_68, if_neg hc101_69, if_pos hc107_70]; done), N0, rfl⟩
                                    · refine own_go (U' := s₁.setTop (mkF m 110 #[.val (.int p0)] [])) (fun _ k => XS.icmpNo X0.here hx rfl (hb hby d12_107) rfl (feq hc107_70).1 k) ?_
                                      refine own_go (U' := s₁.setTop (mkF m 111 #[.val (.int p0)] [(.int p0)])) (fun _ k => XS.iloadN X0.here hx rfl (hb hby d12_110) rfl k) ?_
                                      refine own_go (U' := s₁.setTop (mkF m 113 #[.val (.int p0)] [(.int (125 : Int32)), (.int p0)])) (fun _ k => XS.bipush X0.here hx rfl (hb hby d12_111) k) ?_
                                      by_cases hc113_71 : p0 = (125 : Int32)
                                      · refine own_go (U' := s₁.setTop (mkF m 120 #[.val (.int p0)] [])) (fun _ k => XS.icmpYes X0.here hx rfl (pc0 := 113) (pc' := 120) rfl (hb hby d12_113) rfl (teq hc113_71).1 (by decide) (by decide) k) ?_
                                        refine own_go (U' := s₁.setTop (mkF m 121 #[.val (.int p0)] [(.int (0 : Int32))])) (fun _ k => XS.iconst X0.here hx rfl (hb hby d12_120) k) ?_
                                        refine own_ret X0 (v := (some (.int (0 : Int32)))) hlk (fun h => by rw [Bd.returns] at h; cases h) (by decide) (by decide) (fun fs hr => retN X0 hx (t := .boolean) Bd.returns (by simp) (hb hby d12_121) hr) ?_
                                        show (Q12 Z p0 h0 n0) _ s₁.heap _
                                        rw [e0]
                                        exact ⟨by first | (simp only [f_12, if_neg hc3_53, if_neg hc9_54, if_neg hc17_55, if_neg hc23_56, if_neg hc29_57, if_neg hc35_58, if_neg hc41_59, if_neg hc47_60, if_neg hc53_61, if_neg hc59_62, if_neg hc65_63, if_neg hc71_64, if_neg hc77_65, if_neg hc83_66, if_neg hc89_67, if_neg hc95_68, if_neg hc101_69, if_neg hc107_70, if_pos hc113_71]; done) | rfl | (simp [f_12, if_neg hc3_53, if_neg hc9_54, if_neg hc17_55, if_neg hc23_56, if_neg hc29_57, if_neg hc35_58, if_neg hc41_59, if_neg hc47_60, if_neg hc53_61, if_neg hc59_62, if_neg hc65_63, if_neg hc71_64, if_neg hc77_65, if_neg hc83_66, if_neg hc89_67, if_neg hc95_68, if_neg hc101_69, if_neg hc107_70, if_pos hc113_71]; done), N0, rfl⟩
                                      · refine own_go (U' := s₁.setTop (mkF m 116 #[.val (.int p0)] [])) (fun _ k => XS.icmpNo X0.here hx rfl (hb hby d12_113) rfl (feq hc113_71).1 k) ?_
                                        refine own_go (U' := s₁.setTop (mkF m 117 #[.val (.int p0)] [(.int (1 : Int32))])) (fun _ k => XS.iconst X0.here hx rfl (hb hby d12_116) k) ?_
                                        refine own_go (U' := s₁.setTop (mkF m 121 #[.val (.int p0)] [(.int (1 : Int32))])) (fun _ k => XS.goto X0.here hx rfl (pc0 := 117) (pc' := 121) rfl (hb hby d12_117) (by decide) (by decide) k) ?_
                                        refine own_ret X0 (v := (some (.int (1 : Int32)))) hlk (fun h => by rw [Bd.returns] at h; cases h) (by decide) (by decide) (fun fs hr => retN X0 hx (t := .boolean) Bd.returns (by simp) (hb hby d12_121) hr) ?_
                                        show (Q12 Z p0 h0 n0) _ s₁.heap _
                                        rw [e0]
                                        exact ⟨by first | (simp only [f_12, if_neg hc3_53, if_neg hc9_54, if_neg hc17_55, if_neg hc23_56, if_neg hc29_57, if_neg hc35_58, if_neg hc41_59, if_neg hc47_60, if_neg hc53_61, if_neg hc59_62, if_neg hc65_63, if_neg hc71_64, if_neg hc77_65, if_neg hc83_66, if_neg hc89_67, if_neg hc95_68, if_neg hc101_69, if_neg hc107_70, if_neg hc113_71]; done) | rfl | (simp [f_12, if_neg hc3_53, if_neg hc9_54, if_neg hc17_55, if_neg hc23_56, if_neg hc29_57, if_neg hc35_58, if_neg hc41_59, if_neg hc47_60, if_neg hc53_61, if_neg hc59_62, if_neg hc65_63, if_neg hc71_64, if_neg hc77_65, if_neg hc83_66, if_neg hc89_67, if_neg hc95_68, if_neg hc101_69, if_neg hc107_70, if_neg hc113_71]; done), N0, rfl⟩

def own_EL : List (String × Nat) := [("com/example/grantsmith/grantsmith/HeaderFields", 93)]
theorem own_EW {Z : State} {a0 : Array Value} (hw : ∀ d ∈ tables_1, d.before a0 Z = true) : EW Z a0 own_EL := EW.cons (hw _ (List.mem_of_getElem? (i := 4) rfl)) (by decide) EW.nil
theorem own_wS {Z : State} {a0 : Array Value} (hw : ∀ d ∈ tables_1, d.before a0 Z = true) : ∀ a ∈ Bundle.stringAtoms, a.before a0 Z = true := by
  intro d hd
  simp only [Bundle.stringAtoms, List.mem_cons, List.not_mem_nil, or_false] at hd
  rcases hd with rfl | rfl | rfl | rfl | rfl | rfl | rfl
  · exact hw _ (List.mem_of_getElem? (i := 5) rfl)
  · exact hw _ (List.mem_of_getElem? (i := 6) rfl)
  · exact hw _ (List.mem_of_getElem? (i := 7) rfl)
  · exact hw _ (List.mem_of_getElem? (i := 8) rfl)
  · exact hw _ (List.mem_of_getElem? (i := 9) rfl)
  · exact hw _ (List.mem_of_getElem? (i := 10) rfl)
  · exact hw _ (List.mem_of_getElem? (i := 11) rfl)
theorem own_text : (∀ c ∈ ("!#$%&'*+-.^_`|~" : String).toList, c.toNat < 256) ∧ ("!#$%&'*+-.^_`|~" : String).toList.map (fun c => Value.int (Jvm.Lit.byteI c.toNat.toUInt16)) = [(.int (33 : Int32)), (.int (35 : Int32)), (.int (36 : Int32)), (.int (37 : Int32)), (.int (38 : Int32)), (.int (39 : Int32)), (.int (42 : Int32)), (.int (43 : Int32)), (.int (45 : Int32)), (.int (46 : Int32)), (.int (94 : Int32)), (.int (95 : Int32)), (.int (96 : Int32)), (.int (124 : Int32)), (.int (126 : Int32))] := by decide +kernel
def own_A36 (c : Int32) : Int32 := if f_2 0 c 0 0 0 < 0 then 0 else 1
def own_A24 (c : Int32) : Int32 := if c < 65 then own_A36 c else if 90 < c then own_A36 c else 1
def own_A12 (c : Int32) : Int32 := if c < 97 then own_A24 c else if 122 < c then own_A24 c else 1
def own_tok (c : Int32) : Int32 := if c < 48 then own_A12 c else if 57 < c then own_A12 c else 1
theorem own_up {a b c : Int32} (h : c < a) (hab : ¬ b < a) : c < b := by
  simp only [Int32.lt_iff_toInt_lt] at *
  omega
theorem own_no {a b c : Int32} (h : a < c) (hab : ¬ a < b) : ¬ c < b := by
  simp only [Int32.lt_iff_toInt_lt] at *
  omega
theorem own_hi {a b c : Int32} (h : a < c) (hab : ¬ a < b) : b < c := by
  simp only [Int32.lt_iff_toInt_lt] at *
  omega

theorem d1_0 : decode prog_2_method_5_code 0 = .ok (.iload_n 0, 1) := by decide +kernel
theorem d1_1 : decode prog_2_method_5_code 1 = .ok (.bipush 48, 2) := by decide +kernel
theorem d1_3 : decode prog_2_method_5_code 3 = .ok (.if_icmp .lt 9, 3) := by decide +kernel
theorem d1_12 : decode prog_2_method_5_code 12 = .ok (.iload_n 0, 1) := by decide +kernel
theorem d1_13 : decode prog_2_method_5_code 13 = .ok (.bipush 97, 2) := by decide +kernel
theorem d1_15 : decode prog_2_method_5_code 15 = .ok (.if_icmp .lt 9, 3) := by decide +kernel
theorem d1_24 : decode prog_2_method_5_code 24 = .ok (.iload_n 0, 1) := by decide +kernel
theorem d1_25 : decode prog_2_method_5_code 25 = .ok (.bipush 65, 2) := by decide +kernel
theorem d1_27 : decode prog_2_method_5_code 27 = .ok (.if_icmp .lt 9, 3) := by decide +kernel
theorem d1_36 : decode prog_2_method_5_code 36 = .ok (.ldc 93, 2) := by decide +kernel
theorem d1_38 : decode prog_2_method_5_code 38 = .ok (.iload_n 0, 1) := by decide +kernel
theorem d1_39 : decode prog_2_method_5_code 39 = .ok (.invokevirtual 95, 3) := by decide +kernel
theorem own_pd6 : parseMethodDescriptor "(I)I" = some ⟨[.int], some .int⟩ := by decide +kernel
theorem d1_42 : decode prog_2_method_5_code 42 = .ok (.ifCond .lt 7, 3) := by decide +kernel
theorem d1_49 : decode prog_2_method_5_code 49 = .ok (.iconst 0, 1) := by decide +kernel
theorem d1_50 : decode prog_2_method_5_code 50 = .ok (.ireturn, 1) := by decide +kernel
theorem d1_45 : decode prog_2_method_5_code 45 = .ok (.iconst 1, 1) := by decide +kernel
theorem d1_46 : decode prog_2_method_5_code 46 = .ok (.goto 4, 3) := by decide +kernel
theorem d1_6 : decode prog_2_method_5_code 6 = .ok (.iload_n 0, 1) := by decide +kernel
theorem d1_7 : decode prog_2_method_5_code 7 = .ok (.bipush 57, 2) := by decide +kernel
theorem d1_9 : decode prog_2_method_5_code 9 = .ok (.if_icmp .le 36, 3) := by decide +kernel
theorem d1_30 : decode prog_2_method_5_code 30 = .ok (.iload_n 0, 1) := by decide +kernel
theorem d1_31 : decode prog_2_method_5_code 31 = .ok (.bipush 90, 2) := by decide +kernel
theorem d1_33 : decode prog_2_method_5_code 33 = .ok (.if_icmp .le 12, 3) := by decide +kernel
theorem d1_18 : decode prog_2_method_5_code 18 = .ok (.iload_n 0, 1) := by decide +kernel
theorem d1_19 : decode prog_2_method_5_code 19 = .ok (.bipush 122, 2) := by decide +kernel
theorem d1_21 : decode prog_2_method_5_code 21 = .ok (.if_icmp .le 24, 3) := by decide +kernel
theorem own_pn3 : plainName "com/example/grantsmith/grantsmith/HeaderFields" = true := by first | (simp [plainName, overriddenIn]; done) | decide +kernel
theorem own_ef1 (m : MethodId) (x0 : Int32) : entryFrame m #[(.int x0)] 1 = mkF m 0 #[.val (.int x0)] [] := by first | (simp [entryFrame, mkF, argsToLocals, Value.category]; done) | rfl
def Q1 (Z : State) (p0 : Int32) (cs : Int32) (h0 : Heap) (n0 : Nat) (v : Option Value) (h : Heap) (L : List Loc) : Prop := v = some (.int (own_tok p0)) ∧ Fr n0 L ∧ Keep h0 h []
set_option maxRecDepth 65536 in
set_option maxHeartbeats 40000000 in
theorem rm1 (l : Launch) (Z : State) (aw : Array Value) (hw : ∀ d ∈ tables_1, d.before aw Z = true) (ws : List Jvm.Cond) (p0 : Int32) (cs : Int32) (h0 : Heap) (n0 : Nat) (Z0 : n0 ≤ h0.size) (S_cs : Sta Z h0 "java/lang/String" "COMPACT_STRINGS" "Z" (.int cs)) (hcs : ¬ (cs = (0 : Int32))) :
    MetFree l (⟨"com/example/grantsmith/grantsmith/HeaderFields", "isTokenChar", "(I)Z"⟩ : MethodName) (head1 (Jvm.Cond.code (⟨"com/example/grantsmith/grantsmith/HeaderFields", "isTokenChar", "(I)Z"⟩ : MethodName) prog_2_method_5_code 1 (some .boolean) :: ws) ({ frames := 4, cells := 2, slots := 64, locals := 59 } : Room)) (fun a U => a = #[(.int p0)] ∧ Z.Warmed39 U.vm ∧ U.heap = h0 ∧ CHv Z own_EL U.vm h0) (fun _ _ _ _ _ => True) (fun _ U o U' => ∃ v L, o = .returned v ∧ (Q1 Z p0 cs h0 n0) v U'.heap L ∧ CHr Z own_EL U.vm U.heap U'.vm U'.heap ∧ ReturnedEndW U o U' L ({ frames := 4, cells := 2, slots := 64, locals := 59 } : Room).cells ({ frames := 4, cells := 2, slots := 64, locals := 59 } : Room).slots) := by
  refine MetFree.of_bodySF (plainFor_of_name own_pn3) hisR ?_
  intro p e s m args below meth c s₁ Bd hml0 hP hK
  obtain ⟨rfl, hZ, hh, hCH⟩ := hP
  have hx := Bd.exec
  have hby := Bd.bytes
  have hml : c.maxLocals = 1 := hml0
  have hown : s.vm.findClass "com/example/grantsmith/grantsmith/HeaderFields" = some m.cls := findClass_of_methodNamed Bd.named
  have hnm := (name_of_methodNamed Bd.named Bd.method).1
  have hlk : meth.locks = false := BodyLoose.notSynchronized (by assumption)
  have X0 : Stand p l e ({ frames := 4, cells := 2, slots := 64, locals := 59 } : Room) s m #[(.int p0)] below meth c s₁ [] 0 0 := Stand.of_body Bd
  have e0 : s₁.heap = h0 := by rw [← hh, Bd.state]; rfl
  have N0 := Fr.nil n0
  have hS0 : s.Since s.vm 0 := (State.WarmedH.refl s).since 0
  show own_DoneW p e below s Z own_EL (Q1 Z p0 cs h0 n0) ({ frames := 4, cells := 2, slots := 64, locals := 59 } : Room).cells ({ frames := 4, cells := 2, slots := 64, locals := 59 } : Room).slots (s₁.setTop (entryFrame m #[(.int p0)] 1))
  refine own_goW (U' := s₁.setTop (mkF m 0 #[.val (.int p0)] [])) (fun _ k => castTop (own_ef1 m p0) k) ?_
  refine own_goW (U' := s₁.setTop (mkF m 1 #[.val (.int p0)] [(.int p0)])) (fun _ k => XS.iloadN X0.here hx rfl (hb hby d1_0) rfl k) ?_
  refine own_goW (U' := s₁.setTop (mkF m 3 #[.val (.int p0)] [(.int (48 : Int32)), (.int p0)])) (fun _ k => XS.bipush X0.here hx rfl (hb hby d1_1) k) ?_
  by_cases hc3_72 : p0 < (48 : Int32)
  · refine own_goW (U' := s₁.setTop (mkF m 12 #[.val (.int p0)] [])) (fun _ k => XS.icmpYes X0.here hx rfl (pc0 := 3) (pc' := 12) rfl (hb hby d1_3) rfl (tlt hc3_72).1 (by decide) (by decide) k) ?_
    refine own_goW (U' := s₁.setTop (mkF m 13 #[.val (.int p0)] [(.int p0)])) (fun _ k => XS.iloadN X0.here hx rfl (hb hby d1_12) rfl k) ?_
    refine own_goW (U' := s₁.setTop (mkF m 15 #[.val (.int p0)] [(.int (97 : Int32)), (.int p0)])) (fun _ k => XS.bipush X0.here hx rfl (hb hby d1_13) k) ?_
    have hc15_73 : p0 < (97 : Int32) := own_up hc3_72 (by decide)
    refine own_goW (U' := s₁.setTop (mkF m 24 #[.val (.int p0)] [])) (fun _ k => XS.icmpYes X0.here hx rfl (pc0 := 15) (pc' := 24) rfl (hb hby d1_15) rfl (tlt hc15_73).1 (by decide) (by decide) k) ?_
    refine own_goW (U' := s₁.setTop (mkF m 25 #[.val (.int p0)] [(.int p0)])) (fun _ k => XS.iloadN X0.here hx rfl (hb hby d1_24) rfl k) ?_
    refine own_goW (U' := s₁.setTop (mkF m 27 #[.val (.int p0)] [(.int (65 : Int32)), (.int p0)])) (fun _ k => XS.bipush X0.here hx rfl (hb hby d1_25) k) ?_
    have hc27_74 : p0 < (65 : Int32) := own_up hc3_72 (by decide)
    refine own_goW (U' := s₁.setTop (mkF m 36 #[.val (.int p0)] [])) (fun _ k => XS.icmpYes X0.here hx rfl (pc0 := 27) (pc' := 36) rfl (hb hby d1_27) rfl (tlt hc27_74).1 (by decide) (by decide) k) ?_
    obtain ⟨a75, T75, h75, k75, b75, kc75, X75, e75, E75, hS75, hk75, hZ, hown, Ex75, Fc75, Fv75, Vb75, -, -, CH75, -, -, st75⟩ := ldcCH (s := s) (vm0 := s.vm) X0 hx hZ hown (hw _ (List.mem_of_getElem? (i := 4) rfl)) (own_wS hw) e0 hS0 (Nat.zero_le _) (own_EW hw) (List.mem_singleton.mpr rfl) hCH (z := (15 : Int32)) own_text (by decide) rfl (g := (mkF m 36 #[.val (.int p0)] [])) rfl (hb hby d1_36) (n := 60) (by decide) (by decide) (by decide) (by decide)
    have c75_0 : Sta Z h75 "java/lang/String" "COMPACT_STRINGS" "Z" (.int cs) := S_cs.ext E75
    have Z75 : n0 ≤ h75.size := Nat.le_trans Z0 E75.1
    have K75 := Keep.ext (Keep.refl h0 []) E75
    refine own_goW (U' := T75.setTop (mkF m 38 #[.val (.int p0)] [(.ref a75)])) (fun _ k => st75 _ k) ?_
    refine own_goW (U' := T75.setTop (mkF m 39 #[.val (.int p0)] [(.int p0), (.ref a75)])) (fun _ k => XS.iloadN X75.here hx rfl (hb hby d1_38) rfl k) ?_
    obtain ⟨cq76, kq76, q76a, q76b, q76c⟩ := isOf hZ e75 Ex75
    obtain ⟨_, _, ⟨T76, L76, k76, n76⟩, -, X76, ⟨Lc76, hQ76, l76, y76, z76⟩, st76⟩ := X75.virtualBack hx (y := (⟨"java/lang/String", "indexOf", "(I)I"⟩ : MethodName)) (z := (⟨"java/lang/String", "indexOf", "(I)I"⟩ : MethodName)) hown (mvT hZ (hw _ (List.mem_of_getElem? (i := 12) rfl))) (mvT hZ (hw _ (List.mem_of_getElem? (i := 13) rfl))) (notFace_of_selects (args := #[]) (mvT hZ (hw _ (List.mem_of_getElem? (i := 15) rfl)))) (mvT hZ (hw _ (List.mem_of_getElem? (i := 15) rfl))) (mvT hZ (hw _ (List.mem_of_getElem? (i := 14) rfl))) (by decide) (backOf (W := 0) (rm2 l Z aw hw [] a75 p0 cs b75 kc75 h75 n0 Z75 c75_0 Ex75 Fc75 Fv75 Vb75 (by first | assumption | decide)) hZ (hw _ (List.mem_of_getElem? (i := 16) rfl)) (hw _ (List.mem_of_getElem? (i := 5) rfl)) (by decide) (by decide)) q76a q76c (g := (mkF m 39 #[.val (.int p0)] [(.int p0), (.ref a75)])) rfl (by rw [hml]; rfl) (Steps.refl _) (argsL := [(.int p0)]) (rest := []) (lenOf own_pd6 rfl) rfl (by show 2 * 0 + _ ≤ _; exact Nat.le_of_eq rfl) (hb hby d1_39) (fun _ _ => ⟨rfl, e75, (by decide : 2 + 0 ≤ _), (by decide : 64 + 0 ≤ _)⟩)
    dsimp only [Pt.U, Pt.locs, Pt.cells, Pt.slots] at X76 l76 y76 z76 st76 hQ76
    subst l76 y76 z76
    obtain ⟨rfl, N76q, e76⟩ := hQ76
    have N76 := Fr.app N0 N76q
    refine own_goW (U' := T76.setTop (mkF m 42 #[.val (.int p0)] [(.int (f_2 a75 p0 cs b75 kc75))])) (fun _ k => st76.trans k) ?_
    by_cases hc42_77 : (f_2 a75 p0 cs b75 kc75) < (0 : Int32)
    · refine own_goW (U' := T76.setTop (mkF m 49 #[.val (.int p0)] [])) (fun _ k => XS.ifYes X76.here hx rfl (pc0 := 42) (pc' := 49) rfl (hb hby d1_42) rfl ((if0 _ _).trans (tlt hc42_77).1) (by decide) (by decide) k) ?_
      refine own_goW (U' := T76.setTop (mkF m 50 #[.val (.int p0)] [(.int (0 : Int32))])) (fun _ k => XS.iconst X76.here hx rfl (hb hby d1_49) k) ?_
      refine own_retW (vm₁ := T75.vm) X76 hS75 (by rw [show T76.heap = h75 from e76]; exact hk75) (by rw [hh, show T76.heap = h75 from e76]; exact CHr.trans CH75 (CHv.at (s := s) (vm0 := T75.vm) X76 hZ (own_EW hw) CH75.1)) (v := (some (.int (0 : Int32)))) hlk (fun h => by rw [Bd.returns] at h; cases h) (by decide) (by decide) (fun fs hr => retN X76 hx (t := .boolean) Bd.returns (by simp) (hb hby d1_50) hr) ?_
      show (Q1 Z p0 cs h0 n0) _ T76.heap _
      rw [e76]
      exact ⟨by simp only [own_tok, own_A12, own_A24, own_A36, if_pos hc3_72, if_pos hc15_73, if_pos hc27_74, if_pos (show f_2 0 p0 0 0 0 < 0 from hc42_77)], N76, K75⟩
    · refine own_goW (U' := T76.setTop (mkF m 45 #[.val (.int p0)] [])) (fun _ k => XS.ifNo X76.here hx rfl (hb hby d1_42) rfl ((if0 _ _).trans (flt hc42_77).1) k) ?_
      refine own_goW (U' := T76.setTop (mkF m 46 #[.val (.int p0)] [(.int (1 : Int32))])) (fun _ k => XS.iconst X76.here hx rfl (hb hby d1_45) k) ?_
      refine own_goW (U' := T76.setTop (mkF m 50 #[.val (.int p0)] [(.int (1 : Int32))])) (fun _ k => XS.goto X76.here hx rfl (pc0 := 46) (pc' := 50) rfl (hb hby d1_46) (by decide) (by decide) k) ?_
      refine own_retW (vm₁ := T75.vm) X76 hS75 (by rw [show T76.heap = h75 from e76]; exact hk75) (by rw [hh, show T76.heap = h75 from e76]; exact CHr.trans CH75 (CHv.at (s := s) (vm0 := T75.vm) X76 hZ (own_EW hw) CH75.1)) (v := (some (.int (1 : Int32)))) hlk (fun h => by rw [Bd.returns] at h; cases h) (by decide) (by decide) (fun fs hr => retN X76 hx (t := .boolean) Bd.returns (by simp) (hb hby d1_50) hr) ?_
      show (Q1 Z p0 cs h0 n0) _ T76.heap _
      rw [e76]
      exact ⟨by simp only [own_tok, own_A12, own_A24, own_A36, if_pos hc3_72, if_pos hc15_73, if_pos hc27_74, if_neg (show ¬ f_2 0 p0 0 0 0 < 0 from hc42_77)], N76, K75⟩
  · refine own_goW (U' := s₁.setTop (mkF m 6 #[.val (.int p0)] [])) (fun _ k => XS.icmpNo X0.here hx rfl (hb hby d1_3) rfl (flt hc3_72).1 k) ?_
    refine own_goW (U' := s₁.setTop (mkF m 7 #[.val (.int p0)] [(.int p0)])) (fun _ k => XS.iloadN X0.here hx rfl (hb hby d1_6) rfl k) ?_
    refine own_goW (U' := s₁.setTop (mkF m 9 #[.val (.int p0)] [(.int (57 : Int32)), (.int p0)])) (fun _ k => XS.bipush X0.here hx rfl (hb hby d1_7) k) ?_
    by_cases hc9_78 : (57 : Int32) < p0
    · refine own_goW (U' := s₁.setTop (mkF m 12 #[.val (.int p0)] [])) (fun _ k => XS.icmpNo X0.here hx rfl (hb hby d1_9) rfl (tlt hc9_78).2.2.2 k) ?_
      refine own_goW (U' := s₁.setTop (mkF m 13 #[.val (.int p0)] [(.int p0)])) (fun _ k => XS.iloadN X0.here hx rfl (hb hby d1_12) rfl k) ?_
      refine own_goW (U' := s₁.setTop (mkF m 15 #[.val (.int p0)] [(.int (97 : Int32)), (.int p0)])) (fun _ k => XS.bipush X0.here hx rfl (hb hby d1_13) k) ?_
      by_cases hc15_79 : p0 < (97 : Int32)
      · refine own_goW (U' := s₁.setTop (mkF m 24 #[.val (.int p0)] [])) (fun _ k => XS.icmpYes X0.here hx rfl (pc0 := 15) (pc' := 24) rfl (hb hby d1_15) rfl (tlt hc15_79).1 (by decide) (by decide) k) ?_
        refine own_goW (U' := s₁.setTop (mkF m 25 #[.val (.int p0)] [(.int p0)])) (fun _ k => XS.iloadN X0.here hx rfl (hb hby d1_24) rfl k) ?_
        refine own_goW (U' := s₁.setTop (mkF m 27 #[.val (.int p0)] [(.int (65 : Int32)), (.int p0)])) (fun _ k => XS.bipush X0.here hx rfl (hb hby d1_25) k) ?_
        by_cases hc27_80 : p0 < (65 : Int32)
        · refine own_goW (U' := s₁.setTop (mkF m 36 #[.val (.int p0)] [])) (fun _ k => XS.icmpYes X0.here hx rfl (pc0 := 27) (pc' := 36) rfl (hb hby d1_27) rfl (tlt hc27_80).1 (by decide) (by decide) k) ?_
          obtain ⟨a81, T81, h81, k81, b81, kc81, X81, e81, E81, hS81, hk81, hZ, hown, Ex81, Fc81, Fv81, Vb81, -, -, CH81, -, -, st81⟩ := ldcCH (s := s) (vm0 := s.vm) X0 hx hZ hown (hw _ (List.mem_of_getElem? (i := 4) rfl)) (own_wS hw) e0 hS0 (Nat.zero_le _) (own_EW hw) (List.mem_singleton.mpr rfl) hCH (z := (15 : Int32)) own_text (by decide) rfl (g := (mkF m 36 #[.val (.int p0)] [])) rfl (hb hby d1_36) (n := 60) (by decide) (by decide) (by decide) (by decide)
          have c81_0 : Sta Z h81 "java/lang/String" "COMPACT_STRINGS" "Z" (.int cs) := S_cs.ext E81
          have Z81 : n0 ≤ h81.size := Nat.le_trans Z0 E81.1
          have K81 := Keep.ext (Keep.refl h0 []) E81
          refine own_goW (U' := T81.setTop (mkF m 38 #[.val (.int p0)] [(.ref a81)])) (fun _ k => st81 _ k) ?_
          refine own_goW (U' := T81.setTop (mkF m 39 #[.val (.int p0)] [(.int p0), (.ref a81)])) (fun _ k => XS.iloadN X81.here hx rfl (hb hby d1_38) rfl k) ?_
          obtain ⟨cq82, kq82, q82a, q82b, q82c⟩ := isOf hZ e81 Ex81
          obtain ⟨_, _, ⟨T82, L82, k82, n82⟩, -, X82, ⟨Lc82, hQ82, l82, y82, z82⟩, st82⟩ := X81.virtualBack hx (y := (⟨"java/lang/String", "indexOf", "(I)I"⟩ : MethodName)) (z := (⟨"java/lang/String", "indexOf", "(I)I"⟩ : MethodName)) hown (mvT hZ (hw _ (List.mem_of_getElem? (i := 12) rfl))) (mvT hZ (hw _ (List.mem_of_getElem? (i := 13) rfl))) (notFace_of_selects (args := #[]) (mvT hZ (hw _ (List.mem_of_getElem? (i := 15) rfl)))) (mvT hZ (hw _ (List.mem_of_getElem? (i := 15) rfl))) (mvT hZ (hw _ (List.mem_of_getElem? (i := 14) rfl))) (by decide) (backOf (W := 0) (rm2 l Z aw hw [] a81 p0 cs b81 kc81 h81 n0 Z81 c81_0 Ex81 Fc81 Fv81 Vb81 (by first | assumption | decide)) hZ (hw _ (List.mem_of_getElem? (i := 16) rfl)) (hw _ (List.mem_of_getElem? (i := 5) rfl)) (by decide) (by decide)) q82a q82c (g := (mkF m 39 #[.val (.int p0)] [(.int p0), (.ref a81)])) rfl (by rw [hml]; rfl) (Steps.refl _) (argsL := [(.int p0)]) (rest := []) (lenOf own_pd6 rfl) rfl (by show 2 * 0 + _ ≤ _; exact Nat.le_of_eq rfl) (hb hby d1_39) (fun _ _ => ⟨rfl, e81, (by decide : 2 + 0 ≤ _), (by decide : 64 + 0 ≤ _)⟩)
          dsimp only [Pt.U, Pt.locs, Pt.cells, Pt.slots] at X82 l82 y82 z82 st82 hQ82
          subst l82 y82 z82
          obtain ⟨rfl, N82q, e82⟩ := hQ82
          have N82 := Fr.app N0 N82q
          refine own_goW (U' := T82.setTop (mkF m 42 #[.val (.int p0)] [(.int (f_2 a81 p0 cs b81 kc81))])) (fun _ k => st82.trans k) ?_
          by_cases hc42_83 : (f_2 a81 p0 cs b81 kc81) < (0 : Int32)
          · refine own_goW (U' := T82.setTop (mkF m 49 #[.val (.int p0)] [])) (fun _ k => XS.ifYes X82.here hx rfl (pc0 := 42) (pc' := 49) rfl (hb hby d1_42) rfl ((if0 _ _).trans (tlt hc42_83).1) (by decide) (by decide) k) ?_
            refine own_goW (U' := T82.setTop (mkF m 50 #[.val (.int p0)] [(.int (0 : Int32))])) (fun _ k => XS.iconst X82.here hx rfl (hb hby d1_49) k) ?_
            refine own_retW (vm₁ := T81.vm) X82 hS81 (by rw [show T82.heap = h81 from e82]; exact hk81) (by rw [hh, show T82.heap = h81 from e82]; exact CHr.trans CH81 (CHv.at (s := s) (vm0 := T81.vm) X82 hZ (own_EW hw) CH81.1)) (v := (some (.int (0 : Int32)))) hlk (fun h => by rw [Bd.returns] at h; cases h) (by decide) (by decide) (fun fs hr => retN X82 hx (t := .boolean) Bd.returns (by simp) (hb hby d1_50) hr) ?_
            show (Q1 Z p0 cs h0 n0) _ T82.heap _
            rw [e82]
            exact ⟨by simp only [own_tok, own_A12, own_A24, own_A36, if_neg hc3_72, if_pos hc9_78, if_pos hc15_79, if_pos hc27_80, if_pos (show f_2 0 p0 0 0 0 < 0 from hc42_83)], N82, K81⟩
          · refine own_goW (U' := T82.setTop (mkF m 45 #[.val (.int p0)] [])) (fun _ k => XS.ifNo X82.here hx rfl (hb hby d1_42) rfl ((if0 _ _).trans (flt hc42_83).1) k) ?_
            refine own_goW (U' := T82.setTop (mkF m 46 #[.val (.int p0)] [(.int (1 : Int32))])) (fun _ k => XS.iconst X82.here hx rfl (hb hby d1_45) k) ?_
            refine own_goW (U' := T82.setTop (mkF m 50 #[.val (.int p0)] [(.int (1 : Int32))])) (fun _ k => XS.goto X82.here hx rfl (pc0 := 46) (pc' := 50) rfl (hb hby d1_46) (by decide) (by decide) k) ?_
            refine own_retW (vm₁ := T81.vm) X82 hS81 (by rw [show T82.heap = h81 from e82]; exact hk81) (by rw [hh, show T82.heap = h81 from e82]; exact CHr.trans CH81 (CHv.at (s := s) (vm0 := T81.vm) X82 hZ (own_EW hw) CH81.1)) (v := (some (.int (1 : Int32)))) hlk (fun h => by rw [Bd.returns] at h; cases h) (by decide) (by decide) (fun fs hr => retN X82 hx (t := .boolean) Bd.returns (by simp) (hb hby d1_50) hr) ?_
            show (Q1 Z p0 cs h0 n0) _ T82.heap _
            rw [e82]
            exact ⟨by simp only [own_tok, own_A12, own_A24, own_A36, if_neg hc3_72, if_pos hc9_78, if_pos hc15_79, if_pos hc27_80, if_neg (show ¬ f_2 0 p0 0 0 0 < 0 from hc42_83)], N82, K81⟩
        · refine own_goW (U' := s₁.setTop (mkF m 30 #[.val (.int p0)] [])) (fun _ k => XS.icmpNo X0.here hx rfl (hb hby d1_27) rfl (flt hc27_80).1 k) ?_
          refine own_goW (U' := s₁.setTop (mkF m 31 #[.val (.int p0)] [(.int p0)])) (fun _ k => XS.iloadN X0.here hx rfl (hb hby d1_30) rfl k) ?_
          refine own_goW (U' := s₁.setTop (mkF m 33 #[.val (.int p0)] [(.int (90 : Int32)), (.int p0)])) (fun _ k => XS.bipush X0.here hx rfl (hb hby d1_31) k) ?_
          by_cases hc33_84 : (90 : Int32) < p0
          · refine own_goW (U' := s₁.setTop (mkF m 36 #[.val (.int p0)] [])) (fun _ k => XS.icmpNo X0.here hx rfl (hb hby d1_33) rfl (tlt hc33_84).2.2.2 k) ?_
            obtain ⟨a85, T85, h85, k85, b85, kc85, X85, e85, E85, hS85, hk85, hZ, hown, Ex85, Fc85, Fv85, Vb85, -, -, CH85, -, -, st85⟩ := ldcCH (s := s) (vm0 := s.vm) X0 hx hZ hown (hw _ (List.mem_of_getElem? (i := 4) rfl)) (own_wS hw) e0 hS0 (Nat.zero_le _) (own_EW hw) (List.mem_singleton.mpr rfl) hCH (z := (15 : Int32)) own_text (by decide) rfl (g := (mkF m 36 #[.val (.int p0)] [])) rfl (hb hby d1_36) (n := 60) (by decide) (by decide) (by decide) (by decide)
            have c85_0 : Sta Z h85 "java/lang/String" "COMPACT_STRINGS" "Z" (.int cs) := S_cs.ext E85
            have Z85 : n0 ≤ h85.size := Nat.le_trans Z0 E85.1
            have K85 := Keep.ext (Keep.refl h0 []) E85
            refine own_goW (U' := T85.setTop (mkF m 38 #[.val (.int p0)] [(.ref a85)])) (fun _ k => st85 _ k) ?_
            refine own_goW (U' := T85.setTop (mkF m 39 #[.val (.int p0)] [(.int p0), (.ref a85)])) (fun _ k => XS.iloadN X85.here hx rfl (hb hby d1_38) rfl k) ?_
            obtain ⟨cq86, kq86, q86a, q86b, q86c⟩ := isOf hZ e85 Ex85
            obtain ⟨_, _, ⟨T86, L86, k86, n86⟩, -, X86, ⟨Lc86, hQ86, l86, y86, z86⟩, st86⟩ := X85.virtualBack hx (y := (⟨"java/lang/String", "indexOf", "(I)I"⟩ : MethodName)) (z := (⟨"java/lang/String", "indexOf", "(I)I"⟩ : MethodName)) hown (mvT hZ (hw _ (List.mem_of_getElem? (i := 12) rfl))) (mvT hZ (hw _ (List.mem_of_getElem? (i := 13) rfl))) (notFace_of_selects (args := #[]) (mvT hZ (hw _ (List.mem_of_getElem? (i := 15) rfl)))) (mvT hZ (hw _ (List.mem_of_getElem? (i := 15) rfl))) (mvT hZ (hw _ (List.mem_of_getElem? (i := 14) rfl))) (by decide) (backOf (W := 0) (rm2 l Z aw hw [] a85 p0 cs b85 kc85 h85 n0 Z85 c85_0 Ex85 Fc85 Fv85 Vb85 (by first | assumption | decide)) hZ (hw _ (List.mem_of_getElem? (i := 16) rfl)) (hw _ (List.mem_of_getElem? (i := 5) rfl)) (by decide) (by decide)) q86a q86c (g := (mkF m 39 #[.val (.int p0)] [(.int p0), (.ref a85)])) rfl (by rw [hml]; rfl) (Steps.refl _) (argsL := [(.int p0)]) (rest := []) (lenOf own_pd6 rfl) rfl (by show 2 * 0 + _ ≤ _; exact Nat.le_of_eq rfl) (hb hby d1_39) (fun _ _ => ⟨rfl, e85, (by decide : 2 + 0 ≤ _), (by decide : 64 + 0 ≤ _)⟩)
            dsimp only [Pt.U, Pt.locs, Pt.cells, Pt.slots] at X86 l86 y86 z86 st86 hQ86
            subst l86 y86 z86
            obtain ⟨rfl, N86q, e86⟩ := hQ86
            have N86 := Fr.app N0 N86q
            refine own_goW (U' := T86.setTop (mkF m 42 #[.val (.int p0)] [(.int (f_2 a85 p0 cs b85 kc85))])) (fun _ k => st86.trans k) ?_
            by_cases hc42_87 : (f_2 a85 p0 cs b85 kc85) < (0 : Int32)
            · refine own_goW (U' := T86.setTop (mkF m 49 #[.val (.int p0)] [])) (fun _ k => XS.ifYes X86.here hx rfl (pc0 := 42) (pc' := 49) rfl (hb hby d1_42) rfl ((if0 _ _).trans (tlt hc42_87).1) (by decide) (by decide) k) ?_
              refine own_goW (U' := T86.setTop (mkF m 50 #[.val (.int p0)] [(.int (0 : Int32))])) (fun _ k => XS.iconst X86.here hx rfl (hb hby d1_49) k) ?_
              refine own_retW (vm₁ := T85.vm) X86 hS85 (by rw [show T86.heap = h85 from e86]; exact hk85) (by rw [hh, show T86.heap = h85 from e86]; exact CHr.trans CH85 (CHv.at (s := s) (vm0 := T85.vm) X86 hZ (own_EW hw) CH85.1)) (v := (some (.int (0 : Int32)))) hlk (fun h => by rw [Bd.returns] at h; cases h) (by decide) (by decide) (fun fs hr => retN X86 hx (t := .boolean) Bd.returns (by simp) (hb hby d1_50) hr) ?_
              show (Q1 Z p0 cs h0 n0) _ T86.heap _
              rw [e86]
              exact ⟨by simp only [own_tok, own_A12, own_A24, own_A36, if_neg hc3_72, if_pos hc9_78, if_pos hc15_79, if_neg hc27_80, if_pos hc33_84, if_pos (show f_2 0 p0 0 0 0 < 0 from hc42_87)], N86, K85⟩
            · refine own_goW (U' := T86.setTop (mkF m 45 #[.val (.int p0)] [])) (fun _ k => XS.ifNo X86.here hx rfl (hb hby d1_42) rfl ((if0 _ _).trans (flt hc42_87).1) k) ?_
              refine own_goW (U' := T86.setTop (mkF m 46 #[.val (.int p0)] [(.int (1 : Int32))])) (fun _ k => XS.iconst X86.here hx rfl (hb hby d1_45) k) ?_
              refine own_goW (U' := T86.setTop (mkF m 50 #[.val (.int p0)] [(.int (1 : Int32))])) (fun _ k => XS.goto X86.here hx rfl (pc0 := 46) (pc' := 50) rfl (hb hby d1_46) (by decide) (by decide) k) ?_
              refine own_retW (vm₁ := T85.vm) X86 hS85 (by rw [show T86.heap = h85 from e86]; exact hk85) (by rw [hh, show T86.heap = h85 from e86]; exact CHr.trans CH85 (CHv.at (s := s) (vm0 := T85.vm) X86 hZ (own_EW hw) CH85.1)) (v := (some (.int (1 : Int32)))) hlk (fun h => by rw [Bd.returns] at h; cases h) (by decide) (by decide) (fun fs hr => retN X86 hx (t := .boolean) Bd.returns (by simp) (hb hby d1_50) hr) ?_
              show (Q1 Z p0 cs h0 n0) _ T86.heap _
              rw [e86]
              exact ⟨by simp only [own_tok, own_A12, own_A24, own_A36, if_neg hc3_72, if_pos hc9_78, if_pos hc15_79, if_neg hc27_80, if_pos hc33_84, if_neg (show ¬ f_2 0 p0 0 0 0 < 0 from hc42_87)], N86, K85⟩
          · refine own_goW (U' := s₁.setTop (mkF m 45 #[.val (.int p0)] [])) (fun _ k => XS.icmpYes X0.here hx rfl (pc0 := 33) (pc' := 45) rfl (hb hby d1_33) rfl (flt hc33_84).2.2.2 (by decide) (by decide) k) ?_
            refine own_goW (U' := s₁.setTop (mkF m 46 #[.val (.int p0)] [(.int (1 : Int32))])) (fun _ k => XS.iconst X0.here hx rfl (hb hby d1_45) k) ?_
            refine own_goW (U' := s₁.setTop (mkF m 50 #[.val (.int p0)] [(.int (1 : Int32))])) (fun _ k => XS.goto X0.here hx rfl (pc0 := 46) (pc' := 50) rfl (hb hby d1_46) (by decide) (by decide) k) ?_
            refine own_retW (vm₁ := s.vm) X0 hS0 (Nat.zero_le _) (by rw [hh, e0]; exact (CHv.at (vm0 := s.vm) X0 hZ (own_EW hw) hCH)) (v := (some (.int (1 : Int32)))) hlk (fun h => by rw [Bd.returns] at h; cases h) (by decide) (by decide) (fun fs hr => retN X0 hx (t := .boolean) Bd.returns (by simp) (hb hby d1_50) hr) ?_
            show (Q1 Z p0 cs h0 n0) _ s₁.heap _
            rw [e0]
            exact ⟨by simp only [own_tok, own_A12, own_A24, own_A36, if_neg hc3_72, if_pos hc9_78, if_pos hc15_79, if_neg hc27_80, if_neg hc33_84], N0, (Keep.refl h0 [])⟩
      · refine own_goW (U' := s₁.setTop (mkF m 18 #[.val (.int p0)] [])) (fun _ k => XS.icmpNo X0.here hx rfl (hb hby d1_15) rfl (flt hc15_79).1 k) ?_
        refine own_goW (U' := s₁.setTop (mkF m 19 #[.val (.int p0)] [(.int p0)])) (fun _ k => XS.iloadN X0.here hx rfl (hb hby d1_18) rfl k) ?_
        refine own_goW (U' := s₁.setTop (mkF m 21 #[.val (.int p0)] [(.int (122 : Int32)), (.int p0)])) (fun _ k => XS.bipush X0.here hx rfl (hb hby d1_19) k) ?_
        by_cases hc21_88 : (122 : Int32) < p0
        · refine own_goW (U' := s₁.setTop (mkF m 24 #[.val (.int p0)] [])) (fun _ k => XS.icmpNo X0.here hx rfl (hb hby d1_21) rfl (tlt hc21_88).2.2.2 k) ?_
          refine own_goW (U' := s₁.setTop (mkF m 25 #[.val (.int p0)] [(.int p0)])) (fun _ k => XS.iloadN X0.here hx rfl (hb hby d1_24) rfl k) ?_
          refine own_goW (U' := s₁.setTop (mkF m 27 #[.val (.int p0)] [(.int (65 : Int32)), (.int p0)])) (fun _ k => XS.bipush X0.here hx rfl (hb hby d1_25) k) ?_
          have hc27_89 : ¬ (p0 < (65 : Int32)) := own_no hc21_88 (by decide)
          refine own_goW (U' := s₁.setTop (mkF m 30 #[.val (.int p0)] [])) (fun _ k => XS.icmpNo X0.here hx rfl (hb hby d1_27) rfl (flt hc27_89).1 k) ?_
          refine own_goW (U' := s₁.setTop (mkF m 31 #[.val (.int p0)] [(.int p0)])) (fun _ k => XS.iloadN X0.here hx rfl (hb hby d1_30) rfl k) ?_
          refine own_goW (U' := s₁.setTop (mkF m 33 #[.val (.int p0)] [(.int (90 : Int32)), (.int p0)])) (fun _ k => XS.bipush X0.here hx rfl (hb hby d1_31) k) ?_
          have hc33_90 : (90 : Int32) < p0 := own_hi hc21_88 (by decide)
          refine own_goW (U' := s₁.setTop (mkF m 36 #[.val (.int p0)] [])) (fun _ k => XS.icmpNo X0.here hx rfl (hb hby d1_33) rfl (tlt hc33_90).2.2.2 k) ?_
          obtain ⟨a91, T91, h91, k91, b91, kc91, X91, e91, E91, hS91, hk91, hZ, hown, Ex91, Fc91, Fv91, Vb91, -, -, CH91, -, -, st91⟩ := ldcCH (s := s) (vm0 := s.vm) X0 hx hZ hown (hw _ (List.mem_of_getElem? (i := 4) rfl)) (own_wS hw) e0 hS0 (Nat.zero_le _) (own_EW hw) (List.mem_singleton.mpr rfl) hCH (z := (15 : Int32)) own_text (by decide) rfl (g := (mkF m 36 #[.val (.int p0)] [])) rfl (hb hby d1_36) (n := 60) (by decide) (by decide) (by decide) (by decide)
          have c91_0 : Sta Z h91 "java/lang/String" "COMPACT_STRINGS" "Z" (.int cs) := S_cs.ext E91
          have Z91 : n0 ≤ h91.size := Nat.le_trans Z0 E91.1
          have K91 := Keep.ext (Keep.refl h0 []) E91
          refine own_goW (U' := T91.setTop (mkF m 38 #[.val (.int p0)] [(.ref a91)])) (fun _ k => st91 _ k) ?_
          refine own_goW (U' := T91.setTop (mkF m 39 #[.val (.int p0)] [(.int p0), (.ref a91)])) (fun _ k => XS.iloadN X91.here hx rfl (hb hby d1_38) rfl k) ?_
          obtain ⟨cq92, kq92, q92a, q92b, q92c⟩ := isOf hZ e91 Ex91
          obtain ⟨_, _, ⟨T92, L92, k92, n92⟩, -, X92, ⟨Lc92, hQ92, l92, y92, z92⟩, st92⟩ := X91.virtualBack hx (y := (⟨"java/lang/String", "indexOf", "(I)I"⟩ : MethodName)) (z := (⟨"java/lang/String", "indexOf", "(I)I"⟩ : MethodName)) hown (mvT hZ (hw _ (List.mem_of_getElem? (i := 12) rfl))) (mvT hZ (hw _ (List.mem_of_getElem? (i := 13) rfl))) (notFace_of_selects (args := #[]) (mvT hZ (hw _ (List.mem_of_getElem? (i := 15) rfl)))) (mvT hZ (hw _ (List.mem_of_getElem? (i := 15) rfl))) (mvT hZ (hw _ (List.mem_of_getElem? (i := 14) rfl))) (by decide) (backOf (W := 0) (rm2 l Z aw hw [] a91 p0 cs b91 kc91 h91 n0 Z91 c91_0 Ex91 Fc91 Fv91 Vb91 (by first | assumption | decide)) hZ (hw _ (List.mem_of_getElem? (i := 16) rfl)) (hw _ (List.mem_of_getElem? (i := 5) rfl)) (by decide) (by decide)) q92a q92c (g := (mkF m 39 #[.val (.int p0)] [(.int p0), (.ref a91)])) rfl (by rw [hml]; rfl) (Steps.refl _) (argsL := [(.int p0)]) (rest := []) (lenOf own_pd6 rfl) rfl (by show 2 * 0 + _ ≤ _; exact Nat.le_of_eq rfl) (hb hby d1_39) (fun _ _ => ⟨rfl, e91, (by decide : 2 + 0 ≤ _), (by decide : 64 + 0 ≤ _)⟩)
          dsimp only [Pt.U, Pt.locs, Pt.cells, Pt.slots] at X92 l92 y92 z92 st92 hQ92
          subst l92 y92 z92
          obtain ⟨rfl, N92q, e92⟩ := hQ92
          have N92 := Fr.app N0 N92q
          refine own_goW (U' := T92.setTop (mkF m 42 #[.val (.int p0)] [(.int (f_2 a91 p0 cs b91 kc91))])) (fun _ k => st92.trans k) ?_
          by_cases hc42_93 : (f_2 a91 p0 cs b91 kc91) < (0 : Int32)
          · refine own_goW (U' := T92.setTop (mkF m 49 #[.val (.int p0)] [])) (fun _ k => XS.ifYes X92.here hx rfl (pc0 := 42) (pc' := 49) rfl (hb hby d1_42) rfl ((if0 _ _).trans (tlt hc42_93).1) (by decide) (by decide) k) ?_
            refine own_goW (U' := T92.setTop (mkF m 50 #[.val (.int p0)] [(.int (0 : Int32))])) (fun _ k => XS.iconst X92.here hx rfl (hb hby d1_49) k) ?_
            refine own_retW (vm₁ := T91.vm) X92 hS91 (by rw [show T92.heap = h91 from e92]; exact hk91) (by rw [hh, show T92.heap = h91 from e92]; exact CHr.trans CH91 (CHv.at (s := s) (vm0 := T91.vm) X92 hZ (own_EW hw) CH91.1)) (v := (some (.int (0 : Int32)))) hlk (fun h => by rw [Bd.returns] at h; cases h) (by decide) (by decide) (fun fs hr => retN X92 hx (t := .boolean) Bd.returns (by simp) (hb hby d1_50) hr) ?_
            show (Q1 Z p0 cs h0 n0) _ T92.heap _
            rw [e92]
            exact ⟨by simp only [own_tok, own_A12, own_A24, own_A36, if_neg hc3_72, if_pos hc9_78, if_neg hc15_79, if_pos hc21_88, if_neg hc27_89, if_pos hc33_90, if_pos (show f_2 0 p0 0 0 0 < 0 from hc42_93)], N92, K91⟩
          · refine own_goW (U' := T92.setTop (mkF m 45 #[.val (.int p0)] [])) (fun _ k => XS.ifNo X92.here hx rfl (hb hby d1_42) rfl ((if0 _ _).trans (flt hc42_93).1) k) ?_
            refine own_goW (U' := T92.setTop (mkF m 46 #[.val (.int p0)] [(.int (1 : Int32))])) (fun _ k => XS.iconst X92.here hx rfl (hb hby d1_45) k) ?_
            refine own_goW (U' := T92.setTop (mkF m 50 #[.val (.int p0)] [(.int (1 : Int32))])) (fun _ k => XS.goto X92.here hx rfl (pc0 := 46) (pc' := 50) rfl (hb hby d1_46) (by decide) (by decide) k) ?_
            refine own_retW (vm₁ := T91.vm) X92 hS91 (by rw [show T92.heap = h91 from e92]; exact hk91) (by rw [hh, show T92.heap = h91 from e92]; exact CHr.trans CH91 (CHv.at (s := s) (vm0 := T91.vm) X92 hZ (own_EW hw) CH91.1)) (v := (some (.int (1 : Int32)))) hlk (fun h => by rw [Bd.returns] at h; cases h) (by decide) (by decide) (fun fs hr => retN X92 hx (t := .boolean) Bd.returns (by simp) (hb hby d1_50) hr) ?_
            show (Q1 Z p0 cs h0 n0) _ T92.heap _
            rw [e92]
            exact ⟨by simp only [own_tok, own_A12, own_A24, own_A36, if_neg hc3_72, if_pos hc9_78, if_neg hc15_79, if_pos hc21_88, if_neg hc27_89, if_pos hc33_90, if_neg (show ¬ f_2 0 p0 0 0 0 < 0 from hc42_93)], N92, K91⟩
        · refine own_goW (U' := s₁.setTop (mkF m 45 #[.val (.int p0)] [])) (fun _ k => XS.icmpYes X0.here hx rfl (pc0 := 21) (pc' := 45) rfl (hb hby d1_21) rfl (flt hc21_88).2.2.2 (by decide) (by decide) k) ?_
          refine own_goW (U' := s₁.setTop (mkF m 46 #[.val (.int p0)] [(.int (1 : Int32))])) (fun _ k => XS.iconst X0.here hx rfl (hb hby d1_45) k) ?_
          refine own_goW (U' := s₁.setTop (mkF m 50 #[.val (.int p0)] [(.int (1 : Int32))])) (fun _ k => XS.goto X0.here hx rfl (pc0 := 46) (pc' := 50) rfl (hb hby d1_46) (by decide) (by decide) k) ?_
          refine own_retW (vm₁ := s.vm) X0 hS0 (Nat.zero_le _) (by rw [hh, e0]; exact (CHv.at (vm0 := s.vm) X0 hZ (own_EW hw) hCH)) (v := (some (.int (1 : Int32)))) hlk (fun h => by rw [Bd.returns] at h; cases h) (by decide) (by decide) (fun fs hr => retN X0 hx (t := .boolean) Bd.returns (by simp) (hb hby d1_50) hr) ?_
          show (Q1 Z p0 cs h0 n0) _ s₁.heap _
          rw [e0]
          exact ⟨by simp only [own_tok, own_A12, own_A24, own_A36, if_neg hc3_72, if_pos hc9_78, if_neg hc15_79, if_neg hc21_88], N0, (Keep.refl h0 [])⟩
    · refine own_goW (U' := s₁.setTop (mkF m 45 #[.val (.int p0)] [])) (fun _ k => XS.icmpYes X0.here hx rfl (pc0 := 9) (pc' := 45) rfl (hb hby d1_9) rfl (flt hc9_78).2.2.2 (by decide) (by decide) k) ?_
      refine own_goW (U' := s₁.setTop (mkF m 46 #[.val (.int p0)] [(.int (1 : Int32))])) (fun _ k => XS.iconst X0.here hx rfl (hb hby d1_45) k) ?_
      refine own_goW (U' := s₁.setTop (mkF m 50 #[.val (.int p0)] [(.int (1 : Int32))])) (fun _ k => XS.goto X0.here hx rfl (pc0 := 46) (pc' := 50) rfl (hb hby d1_46) (by decide) (by decide) k) ?_
      refine own_retW (vm₁ := s.vm) X0 hS0 (Nat.zero_le _) (by rw [hh, e0]; exact (CHv.at (vm0 := s.vm) X0 hZ (own_EW hw) hCH)) (v := (some (.int (1 : Int32)))) hlk (fun h => by rw [Bd.returns] at h; cases h) (by decide) (by decide) (fun fs hr => retN X0 hx (t := .boolean) Bd.returns (by simp) (hb hby d1_50) hr) ?_
      show (Q1 Z p0 cs h0 n0) _ s₁.heap _
      rw [e0]
      exact ⟨by simp only [own_tok, own_A12, own_A24, own_A36, if_neg hc3_72, if_neg hc9_78], N0, (Keep.refl h0 [])⟩

theorem own_same (c : Int32) : own_tok c = f_12 c := by
  have key : ∀ i : Fin 256, own_tok (Int32.ofInt i.1) = f_12 (Int32.ofInt i.1) := by decide +kernel
  have a : (0 : Int32).toInt = 0 := by decide
  have b : (256 : Int32).toInt = 256 := by decide
  by_cases h : c < 0
  · have n8 : f_8 c = 0 := by unfold f_8; rw [if_pos h]
    have i2 : f_2 0 c 0 0 0 = -1 := by
      show f_7 0 c 0 = -1
      unfold f_7; rw [if_pos n8]
    have l48 : c < 48 := own_up h (by decide)
    have l97 : c < 97 := own_up h (by decide)
    have l65 : c < 65 := own_up h (by decide)
    have l33 : c < 33 := own_up h (by decide)
    unfold own_tok own_A12 own_A24 own_A36 f_12
    rw [if_pos l48, if_pos l97, if_pos l65, i2, if_pos l33]
    decide
  · by_cases h2 : c < 256
    · rw [Int32.lt_iff_toInt_lt, a] at h
      rw [Int32.lt_iff_toInt_lt, b] at h2
      have e : c = Int32.ofInt ((⟨c.toInt.toNat, by omega⟩ : Fin 256).1 : Nat) := by
        show c = Int32.ofInt (c.toInt.toNat : Int)
        rw [Int.toNat_of_nonneg (by omega), Int32.ofInt_toInt]
      rw [e]
      exact key _
    · have g255 : (255 : Int32) < c := by
        have k : (255 : Int32).toInt = 255 := by decide
        rw [Int32.lt_iff_toInt_lt, b] at h2
        rw [Int32.lt_iff_toInt_lt, k]
        omega
      have n8 : f_8 c = 0 := by unfold f_8; rw [if_neg h, if_pos g255]
      have i2 : f_2 0 c 0 0 0 = -1 := by
        show f_7 0 c 0 = -1
        unfold f_7; rw [if_pos n8]
      have m48 : ¬ c < 48 := own_no g255 (by decide)
      have m57 : 57 < c := own_hi g255 (by decide)
      have m97 : ¬ c < 97 := own_no g255 (by decide)
      have m122 : 122 < c := own_hi g255 (by decide)
      have m65 : ¬ c < 65 := own_no g255 (by decide)
      have m90 : 90 < c := own_hi g255 (by decide)
      have m33 : ¬ c < 33 := own_no g255 (by decide)
      have m126 : 126 < c := own_hi g255 (by decide)
      unfold own_tok own_A12 own_A24 own_A36 f_12
      rw [if_neg m48, if_pos m57, if_neg m97, if_pos m122, if_neg m65, if_pos m90, i2, if_neg m33, if_pos m126]
      decide

theorem own_ef0 (m : MethodId) (x0 : Int32) : entryFrame m #[(.int x0)] maxLocals = mkF m 0 #[.val (.int x0), .unset, .unset, .unset] [] := by first | (simp [entryFrame, mkF, argsToLocals, Value.category, maxLocals]; done) | rfl
def Q0 (Z : State) (p0 : Int32) (cs : Int32) (h0 : Heap) (n0 : Nat) (v : Option Value) (h : Heap) (L : List Loc) : Prop := v = some (.int 1) ∧ Fr n0 L
set_option maxRecDepth 65536 in
set_option maxHeartbeats 40000000 in
theorem rm0 (l : Launch) (Z : State) (aw : Array Value) (hw : ∀ d ∈ tables_1, d.before aw Z = true) (ws : List Jvm.Cond) (p0 : Int32) (cs : Int32) (h0 : Heap) (n0 : Nat) (Z0 : n0 ≤ h0.size) (S_cs : Sta Z h0 "java/lang/String" "COMPACT_STRINGS" "Z" (.int cs)) (hcs : ¬ (cs = (0 : Int32))) :
    MetFree l x (head1 (Jvm.Cond.code x code maxLocals ret :: ws) room_1) (fun a U => a = #[(.int p0)] ∧ Z.Warmed39 U.vm ∧ U.heap = h0 ∧ CHv Z own_EL U.vm h0) (fun _ _ _ _ _ => True) (fun _ U o U' => ∃ v L, o = .returned v ∧ (Q0 Z p0 cs h0 n0) v U'.heap L ∧ CHr Z own_EL U.vm U.heap U'.vm U'.heap ∧ ReturnedEndW U o U' L room_1.cells room_1.slots) := by
  refine MetFree.of_bodySF (plainFor_of_name own_pn2) hisR ?_
  intro p e s m args below meth c s₁ Bd hml0 hP hK
  obtain ⟨rfl, hZ, hh, hCH⟩ := hP
  have hx := Bd.exec
  have hby := Bd.bytes
  have hml : c.maxLocals = 4 := hml0
  have hown : s.vm.findClass "com/example/grantsmith/grantsmith/HeaderFieldsIsTokenCharPinLaw" = some m.cls := findClass_of_methodNamed Bd.named
  have hnm := (name_of_methodNamed Bd.named Bd.method).1
  have hlk : meth.locks = false := BodyLoose.notSynchronized (by assumption)
  have X0 : Stand p l e room_1 s m #[(.int p0)] below meth c s₁ [] 0 0 := Stand.of_body Bd
  have e0 : s₁.heap = h0 := by rw [← hh, Bd.state]; rfl
  have N0 := Fr.nil n0
  have hS0 : s.Since s.vm 0 := (State.WarmedH.refl s).since 0
  show own_DoneW p e below s Z own_EL (Q0 Z p0 cs h0 n0) room_1.cells room_1.slots (s₁.setTop (entryFrame m #[(.int p0)] maxLocals))
  refine own_goW (U' := s₁.setTop (mkF m 0 #[.val (.int p0), .unset, .unset, .unset] [])) (fun _ k => castTop (own_ef0 m p0) k) ?_
  refine own_goW (U' := s₁.setTop (mkF m 1 #[.val (.int p0), .unset, .unset, .unset] [(.int p0)])) (fun _ k => XS.iloadN X0.here hx rfl (hb hby at_0) rfl k) ?_
  refine own_goW (U' := s₁.setTop (mkF m 4 #[.val (.int p0), .unset, .unset, .unset] [(.int (255 : Int32)), (.int p0)])) (fun _ k => XS.sipush X0.here hx rfl (hb hby at_1) k) ?_
  refine own_goW (U' := s₁.setTop (mkF m 5 #[.val (.int p0), .unset, .unset, .unset] [(.int (p0 &&& (255 : Int32)))])) (fun _ k => XS.iand X0.here hx rfl (hb hby at_4) rfl k) ?_
  generalize hy5 : (p0 &&& (255 : Int32)) = y5
  refine own_goW (U' := s₁.setTop (mkF m 6 #[.val (.int p0), .val (.int y5), .unset, .unset] [])) (fun _ k => XS.istoreN X0.here hx rfl (hb hby at_5) rfl (l' := #[.val (.int p0), .val (.int y5), .unset, .unset]) rfl k) ?_
  refine own_goW (U' := s₁.setTop (mkF m 7 #[.val (.int p0), .val (.int y5), .unset, .unset] [(.int p0)])) (fun _ k => XS.iloadN X0.here hx rfl (hb hby at_6) rfl k) ?_
  obtain ⟨_, _, ⟨T94, L94, k94, n94⟩, -, X94, hS94, hg94, ⟨Lc94, hQ94, l94, y94, z94, C94⟩, st94⟩ := callSS X0 hx (y := (⟨"com/example/grantsmith/grantsmith/HeaderFields", "isTokenChar", "(I)Z"⟩ : MethodName)) hown (mvT hZ (hw _ (List.mem_of_getElem? (i := 0) rfl))) (mvT hZ (hw _ (List.mem_of_getElem? (i := 1) rfl))) (mvT hZ (hw _ (List.mem_of_getElem? (i := 2) rfl))) (mvT hZ (hw _ (List.mem_of_getElem? (i := 3) rfl))) (by decide) (backOfSH (s := s) (vm0 := s.vm) (W := 0) (rm1 l Z aw hw [] p0 cs h0 n0 Z0 S_cs (by first | assumption | decide)) hZ (hw _ (List.mem_of_getElem? (i := 3) rfl)) (hw _ (List.mem_of_getElem? (i := 2) rfl)) (by decide) (by decide) (own_EW hw) hCH) (g := (mkF m 7 #[.val (.int p0), .val (.int y5), .unset, .unset] [(.int p0)])) rfl (by rw [hml]; rfl) (argsL := [(.int p0)]) (rest := []) (lenOf own_pd1 rfl) rfl (by show 2 * 0 + _ ≤ _; exact Nat.le_of_eq rfl) (hb hby at_7) (fun _ _ => ⟨rfl, e0, (by decide : 0 + 2 ≤ _), (by decide : 0 + 64 ≤ _)⟩)
  dsimp only [Pt.U, Pt.locs, Pt.cells, Pt.slots] at X94 hS94 hg94 l94 y94 z94 C94 st94 hQ94
  subst l94 y94 z94
  obtain ⟨X94, hS94, hZ, hown⟩ := rebS hS0 (by rw [e0]; exact (Nat.zero_le _)) X94 hS94 hg94 hZ hown
  obtain ⟨rfl, N94q, K94q⟩ := hQ94
  have N94 := Fr.app N0 N94q
  have CT94 := C94
  have Z94 : n0 ≤ T94.heap.size := Nat.le_trans Z0 K94q.1
  have c94_0 : Sta Z T94.heap "java/lang/String" "COMPACT_STRINGS" "Z" (.int cs) := own_sta_keep S_cs K94q
  refine own_goW (U' := T94.setTop (mkF m 10 #[.val (.int p0), .val (.int y5), .unset, .unset] [(.int (own_tok p0))])) (fun _ k => st94.trans k) ?_
  refine own_goW (U' := T94.setTop (mkF m 11 #[.val (.int p0), .val (.int y5), .unset, .unset] [(.int p0), (.int (own_tok p0))])) (fun _ k => XS.iloadN X94.here hx rfl (hb hby at_10) rfl k) ?_
  obtain ⟨_, _, ⟨T95, L95, k95, n95⟩, -, X95, ⟨Lc95, hQ95, l95, y95, z95⟩, st95⟩ := Jvm.LawKit.callS X94 hx (y := (⟨"com/example/grantsmith/grantsmith/HeaderFieldsIsTokenCharPinLaw", "ref", "(I)Z"⟩ : MethodName)) hown (mvT hZ (hw _ (List.mem_of_getElem? (i := 57) rfl))) (mvT hZ (hw _ (List.mem_of_getElem? (i := 58) rfl))) (mvT hZ (hw _ (List.mem_of_getElem? (i := 59) rfl))) (mvT hZ (hw _ (List.mem_of_getElem? (i := 60) rfl))) (by decide) (backOf (W := 1) (rm12 l Z aw hw [] p0 T94.heap n0 Z94 ) hZ (hw _ (List.mem_of_getElem? (i := 60) rfl)) (hw _ (List.mem_of_getElem? (i := 59) rfl)) (by decide) (by decide)) (g := (mkF m 11 #[.val (.int p0), .val (.int y5), .unset, .unset] [(.int p0), (.int (own_tok p0))])) rfl (by rw [hml]; rfl) (argsL := [(.int p0)]) (rest := [(.int (own_tok p0))]) (lenOf own_pd1 rfl) rfl (by show 2 * 0 + _ ≤ _; exact Nat.le_of_eq rfl) (hb hby at_11) (fun _ _ => ⟨rfl, (rfl : T94.heap = T94.heap), (by decide : 2 + 0 ≤ _), (by decide : 64 + 0 ≤ _)⟩)
  dsimp only [Pt.U, Pt.locs, Pt.cells, Pt.slots] at X95 l95 y95 z95 st95 hQ95
  subst l95 y95 z95
  obtain ⟨rfl, N95q, e95⟩ := hQ95
  have N95 := Fr.app N94 N95q
  refine own_goW (U' := T95.setTop (mkF m 14 #[.val (.int p0), .val (.int y5), .unset, .unset] [(.int (f_12 p0)), (.int (own_tok p0))])) (fun _ k => st95 _ k) ?_
  have hc14_96 : (own_tok p0) = (f_12 p0) := own_same _
  refine own_goW (U' := T95.setTop (mkF m 17 #[.val (.int p0), .val (.int y5), .unset, .unset] [])) (fun _ k => XS.icmpNo X95.here hx rfl (hb hby at_14) rfl (teq hc14_96).2 k) ?_
  refine own_goW (U' := T95.setTop (mkF m 18 #[.val (.int p0), .val (.int y5), .unset, .unset] [(.int (1 : Int32))])) (fun _ k => XS.iconst X95.here hx rfl (hb hby at_17) k) ?_
  refine own_goW (U' := T95.setTop (mkF m 22 #[.val (.int p0), .val (.int y5), .unset, .unset] [(.int (1 : Int32))])) (fun _ k => XS.goto X95.here hx rfl (pc0 := 18) (pc' := 22) rfl (hb hby at_18) (by decide) (by decide) k) ?_
  refine own_goW (U' := T95.setTop (mkF m 23 #[.val (.int p0), .val (.int y5), .val (.int (1 : Int32)), .unset] [])) (fun _ k => XS.istoreN X95.here hx rfl (hb hby at_22) rfl (l' := #[.val (.int p0), .val (.int y5), .val (.int (1 : Int32)), .unset]) rfl k) ?_
  refine own_goW (U' := T95.setTop (mkF m 24 #[.val (.int p0), .val (.int y5), .val (.int (1 : Int32)), .unset] [(.int y5)])) (fun _ k => XS.iloadN X95.here hx rfl (hb hby at_23) rfl k) ?_
  obtain ⟨_, _, ⟨T97, L97, k97, n97⟩, -, X97, hS97, hg97, ⟨Lc97, hQ97, l97, y97, z97, C97⟩, st97⟩ := callSS X95 hx (y := (⟨"com/example/grantsmith/grantsmith/HeaderFields", "isTokenChar", "(I)Z"⟩ : MethodName)) hown (mvT hZ (hw _ (List.mem_of_getElem? (i := 0) rfl))) (mvT hZ (hw _ (List.mem_of_getElem? (i := 1) rfl))) (mvT hZ (hw _ (List.mem_of_getElem? (i := 2) rfl))) (mvT hZ (hw _ (List.mem_of_getElem? (i := 3) rfl))) (by decide) (backOfSH (s := s) (vm0 := T94.vm) (W := 0) (rm1 l Z aw hw [] y5 cs T94.heap n0 Z94 c94_0 (by first | assumption | decide)) hZ (hw _ (List.mem_of_getElem? (i := 3) rfl)) (hw _ (List.mem_of_getElem? (i := 2) rfl)) (by decide) (by decide) (own_EW hw) C94.1) (g := (mkF m 24 #[.val (.int p0), .val (.int y5), .val (.int (1 : Int32)), .unset] [(.int y5)])) rfl (by rw [hml]; rfl) (argsL := [(.int y5)]) (rest := []) (lenOf own_pd1 rfl) rfl (by show 2 * 0 + _ ≤ _; exact Nat.le_of_eq rfl) (hb hby at_24) (fun _ _ => ⟨rfl, e95, (by decide : 2 + 2 ≤ _), (by decide : 64 + 64 ≤ _)⟩)
  dsimp only [Pt.U, Pt.locs, Pt.cells, Pt.slots] at X97 hS97 hg97 l97 y97 z97 C97 st97 hQ97
  subst l97 y97 z97
  obtain ⟨X97, hS97, hZ, hown⟩ := rebS hS94 (by rw [e95]; exact (Nat.le_refl _)) X97 hS97 hg97 hZ hown
  obtain ⟨rfl, N97q, K97q⟩ := hQ97
  have N97 := Fr.app N95 N97q
  have CT97 := CHr.trans CT94 C97
  have Z97 : n0 ≤ T97.heap.size := Nat.le_trans Z94 K97q.1
  have c97_0 : Sta Z T97.heap "java/lang/String" "COMPACT_STRINGS" "Z" (.int cs) := own_sta_keep c94_0 K97q
  refine own_goW (U' := T97.setTop (mkF m 27 #[.val (.int p0), .val (.int y5), .val (.int (1 : Int32)), .unset] [(.int (own_tok y5))])) (fun _ k => st97.trans k) ?_
  refine own_goW (U' := T97.setTop (mkF m 28 #[.val (.int p0), .val (.int y5), .val (.int (1 : Int32)), .unset] [(.int y5), (.int (own_tok y5))])) (fun _ k => XS.iloadN X97.here hx rfl (hb hby at_27) rfl k) ?_
  obtain ⟨_, _, ⟨T98, L98, k98, n98⟩, -, X98, ⟨Lc98, hQ98, l98, y98, z98⟩, st98⟩ := Jvm.LawKit.callS X97 hx (y := (⟨"com/example/grantsmith/grantsmith/HeaderFieldsIsTokenCharPinLaw", "ref", "(I)Z"⟩ : MethodName)) hown (mvT hZ (hw _ (List.mem_of_getElem? (i := 57) rfl))) (mvT hZ (hw _ (List.mem_of_getElem? (i := 58) rfl))) (mvT hZ (hw _ (List.mem_of_getElem? (i := 59) rfl))) (mvT hZ (hw _ (List.mem_of_getElem? (i := 60) rfl))) (by decide) (backOf (W := 1) (rm12 l Z aw hw [] y5 T97.heap n0 Z97 ) hZ (hw _ (List.mem_of_getElem? (i := 60) rfl)) (hw _ (List.mem_of_getElem? (i := 59) rfl)) (by decide) (by decide)) (g := (mkF m 28 #[.val (.int p0), .val (.int y5), .val (.int (1 : Int32)), .unset] [(.int y5), (.int (own_tok y5))])) rfl (by rw [hml]; rfl) (argsL := [(.int y5)]) (rest := [(.int (own_tok y5))]) (lenOf own_pd1 rfl) rfl (by show 2 * 0 + _ ≤ _; exact Nat.le_of_eq rfl) (hb hby at_28) (fun _ _ => ⟨rfl, (rfl : T97.heap = T97.heap), (by decide : 4 + 0 ≤ _), (by decide : 128 + 0 ≤ _)⟩)
  dsimp only [Pt.U, Pt.locs, Pt.cells, Pt.slots] at X98 l98 y98 z98 st98 hQ98
  subst l98 y98 z98
  obtain ⟨rfl, N98q, e98⟩ := hQ98
  have N98 := Fr.app N97 N98q
  refine own_goW (U' := T98.setTop (mkF m 31 #[.val (.int p0), .val (.int y5), .val (.int (1 : Int32)), .unset] [(.int (f_12 y5)), (.int (own_tok y5))])) (fun _ k => st98 _ k) ?_
  have hc31_99 : (own_tok y5) = (f_12 y5) := own_same _
  refine own_goW (U' := T98.setTop (mkF m 34 #[.val (.int p0), .val (.int y5), .val (.int (1 : Int32)), .unset] [])) (fun _ k => XS.icmpNo X98.here hx rfl (hb hby at_31) rfl (teq hc31_99).2 k) ?_
  refine own_goW (U' := T98.setTop (mkF m 35 #[.val (.int p0), .val (.int y5), .val (.int (1 : Int32)), .unset] [(.int (1 : Int32))])) (fun _ k => XS.iconst X98.here hx rfl (hb hby at_34) k) ?_
  refine own_goW (U' := T98.setTop (mkF m 39 #[.val (.int p0), .val (.int y5), .val (.int (1 : Int32)), .unset] [(.int (1 : Int32))])) (fun _ k => XS.goto X98.here hx rfl (pc0 := 35) (pc' := 39) rfl (hb hby at_35) (by decide) (by decide) k) ?_
  refine own_goW (U' := T98.setTop (mkF m 40 #[.val (.int p0), .val (.int y5), .val (.int (1 : Int32)), .val (.int (1 : Int32))] [])) (fun _ k => XS.istoreN X98.here hx rfl (hb hby at_39) rfl (l' := #[.val (.int p0), .val (.int y5), .val (.int (1 : Int32)), .val (.int (1 : Int32))]) rfl k) ?_
  refine own_goW (U' := T98.setTop (mkF m 41 #[.val (.int p0), .val (.int y5), .val (.int (1 : Int32)), .val (.int (1 : Int32))] [(.int (1 : Int32))])) (fun _ k => XS.iloadN X98.here hx rfl (hb hby at_40) rfl k) ?_
  refine own_goW (U' := T98.setTop (mkF m 44 #[.val (.int p0), .val (.int y5), .val (.int (1 : Int32)), .val (.int (1 : Int32))] [])) (fun _ k => XS.ifNo X98.here hx rfl (hb hby at_41) rfl ((if0 _ _).trans (feq (by decide : ¬ ((1 : Int32) = (0 : Int32)))).1) k) ?_
  refine own_goW (U' := T98.setTop (mkF m 45 #[.val (.int p0), .val (.int y5), .val (.int (1 : Int32)), .val (.int (1 : Int32))] [(.int (1 : Int32))])) (fun _ k => XS.iloadN X98.here hx rfl (hb hby at_44) rfl k) ?_
  refine own_goW (U' := T98.setTop (mkF m 48 #[.val (.int p0), .val (.int y5), .val (.int (1 : Int32)), .val (.int (1 : Int32))] [])) (fun _ k => XS.ifNo X98.here hx rfl (hb hby at_45) rfl ((if0 _ _).trans (feq (by decide : ¬ ((1 : Int32) = (0 : Int32)))).1) k) ?_
  refine own_goW (U' := T98.setTop (mkF m 49 #[.val (.int p0), .val (.int y5), .val (.int (1 : Int32)), .val (.int (1 : Int32))] [(.int (1 : Int32))])) (fun _ k => XS.iconst X98.here hx rfl (hb hby at_48) k) ?_
  refine own_goW (U' := T98.setTop (mkF m 53 #[.val (.int p0), .val (.int y5), .val (.int (1 : Int32)), .val (.int (1 : Int32))] [(.int (1 : Int32))])) (fun _ k => XS.goto X98.here hx rfl (pc0 := 49) (pc' := 53) rfl (hb hby at_49) (by decide) (by decide) k) ?_
  refine own_retW (vm₁ := T97.vm) X98 hS97 (by rw [show T98.heap = T97.heap from e98]; exact Nat.le_refl _) (by rw [hh, show T98.heap = T97.heap from e98]; exact CHr.trans CT97 (CHv.at (s := s) (vm0 := T97.vm) X98 hZ (own_EW hw) CT97.1)) (v := (some (.int (1 : Int32)))) hlk (fun h => by rw [Bd.returns] at h; cases h) (by decide) (by decide) (fun fs hr => retN X98 hx (t := .boolean) Bd.returns (by simp) (hb hby at_53) hr) ?_
  show (Q0 Z p0 cs h0 n0) _ T98.heap _
  rw [e98]
  exact ⟨rfl, N98⟩
set_option maxRecDepth 65536 in
set_option maxHeartbeats 40000000 in
theorem comes_1 {Post : Tables → Env → Array Value → State → Outcome → State → Prop} (hpost : ∀ tb e args s v u, (limb_1_1.after args s (.returned v) u = true ∧ limb_1_2.after args s (.returned v) u = true ∧ True) → ReturnedEndW s (.returned v) u (Jvm.fieldLocs frame_1_writes args s ++ Jvm.arrayLocs frame_1_arrays args s ++ Jvm.staticLocs frame_1_statics s) 8 1088 → Post tb e args s (.returned v) u) :
    ArmFor flags0 classFile x code maxLocals ret World_1 tables_1 room_1 Calls_1 rest_1 Pre_1 Post := by
  intro l hfl _ _ p e ha hc hk s m args below hf hA hF happ hP
  obtain ⟨hcalls, hrest, hpre⟩ := hP
  obtain ⟨-, -, -, hnamed, -, -, -, hat⟩ := (Spec.applies_iff hf).mp happ
  obtain ⟨hg, hn⟩ := and_e (Cond.before_iff.mp (show (Jvm.Cond.and given_1 narrow_1).before args s = true from hpre))
  obtain ⟨hcnt, hg0⟩ := and_e hg
  have hv0 := hg0
  obtain ⟨w0, rfl⟩ : ∃ w0 : Value, args = #[w0] := by
    have hs : args.size = 1 := by simpa [Cond.value, given_1] using hcnt
    obtain ⟨L⟩ := args
    match L, hs with
    | [w0], _ => exact ⟨w0, rfl⟩
  have hw := fun d (hd : d ∈ tables_1) => atoms_spec (ws := Jvm.Cond.code x code maxLocals ret :: tables_1) hat d (List.mem_cons_of_mem _ hd)
  have hfit : Fit s := fun {y c} hc i hi => by
    obtain ⟨ha, rfl⟩ := Array.getElem?_eq_some_iff.mp hc
    have q := List.all_eq_true.mp ((Array.all_eq_true_iff_forall_mem.mp hF) _ (Array.getElem_mem ha)) i (List.mem_range.mpr hi)
    simpa [Array.getElem?_eq_getElem hi] using q
  obtain ⟨hsets, hown0⟩ := atoms_of _ (rest_1_c_eq ▸ (show rest_1_c.before _ s = true from hrest))
  have hr0 := Cond.before_iff.mp hown0
  obtain ⟨i0, ei0⟩ := is_v hv0
  obtain rfl : w0 = (.int i0) := Option.some.inj ei0
  obtain ⟨cs, ecs⟩ := is_v (Cond.before_iff.mp (hsets _ (List.mem_of_getElem? (i := 1) rfl)))
  have S_cs := Sta.start ecs (Or.inl (hsets _ (List.mem_of_getElem? (i := 0) rfl)))
  have hcs : ¬ (cs = (0 : Int32)) := fun q => by
    have u := not_v (Cond.before_iff.mp (hsets _ (List.mem_of_getElem? (i := 2) rfl)))
    rw [eq_i ecs (Term.int_eval (0 : Int32)) (by rw [q])] at u
    cases u
  have CH := CHv.start (own_EW hw) (EL := own_EL) (fun q hq => hcalls.1 q hq) (hsets _ (List.mem_of_getElem? (i := 2) rfl)) (hw _ (List.mem_of_getElem? (i := 7) rfl)) (hw _ (List.mem_of_getElem? (i := 6) rfl))
  obtain ⟨n, o, h1, h2, h3, _, L, rfl, ⟨rfl, N⟩, -, hq⟩ := rm0 l s _ hw tables_1 i0 cs s.heap s.heap.size (Nat.le_refl _) S_cs hcs p e ha hc hk s m _ below hf ((Spec.applies_iff_loose hf).mp happ).1 ⟨rfl, State.Warmed39.refl s, rfl, CH⟩ trivial
  refine ⟨n, _, h1, h2, h3, hpost _ _ _ _ _ _ ⟨Cond.after_iff.mpr rfl, Cond.after_iff.mpr (eq_i res_at (Term.int_eval (1)) rfl), trivial⟩ ⟨hq.1, hq.2.1, hq.2.2.1, (hq.2.2.2.sift fun y hy => Or.inr (N y hy)).mono (by decide) (by decide)⟩⟩
theorem main_1_1 : Claimed_1_1 := comes_1 fun _ _ _ _ _ _ h hF => ⟨h.1, hF⟩
theorem main_1_2 : Claimed_1_2 := comes_1 fun _ _ _ _ _ _ h hF => ⟨h.2.1, hF⟩
end Jvm.Pilot.@@N@@
namespace Jvm.Pilot.@@N@@
open Jvm Jvm.ClassFile Sem Op Lib Jvm.Free Jvm.Stand Jvm.Pilot.@@N@@.Jvm.D
/-! MADE BY PROGRAM (witnessworld.py) out of the Statement's table words and the real class files: 18 classes; the members and pool entries that the words name. The judged class is class 1, her method 2. -/
namespace start1
open Jvm.ClassFile
def u (s : String) : CpInfo := .utf8 (stringToUtf16 s)
/-- a pool by its gaps: so many unusable entries, then the entry; so many at the end -/
def gap : Nat → List CpInfo → List CpInfo
  | 0, r => r
  | n + 1, r => .unusable :: gap n r
def poolList (es : List (Nat × CpInfo)) (last : Nat) : List CpInfo := es.foldr (fun e r => gap e.1 (e.2 :: r)) (gap last [])
def pool (es : List (Nat × CpInfo)) (last : Nat) : Array CpInfo := ⟨poolList es last⟩
def fileOf (pool : Array CpInfo) (this : Nat) (attrs : Array Attribute := #[]) (ms : Array MethodInfo := #[]) (fl : Nat := 33) (sup : Nat := 0) (ifs : Array Nat := #[]) (fds : Array FieldInfo := #[]) : ClassFile where
  minorVersion := 0
  majorVersion := 65
  constantPool := pool
  accessFlags := fl
  thisClass := this
  superClass := sup
  interfaces := ifs
  fields := fds
  methods := ms
  attributes := attrs
def plain (name : String) (sup : Option ClassId) : Class where
  name := name
  kind := .ordinary
  loader := none
  accessFlags := 33
  super := sup
  interfaces := #[]
  cf := none
  fields := #[]
  methods := #[]
  instanceTypes := #[]
  staticTypes := #[]
  resolved := #[]
  callSites := []
  init := .initialized
  statics := none
  mirror := none

def pool0 : Array CpInfo := pool [(5, u "<init>"), (0, u "()V"), (1, .class_ 10), (1, u "java/lang/Object")] 113

def k0m0 : Method := { name := "<init>", desc := "()V", sig := { parameters := [], returnType := none }, accessFlags := 1, code := none }
/-- java/lang/Object -/
def k0 : Class := { plain "java/lang/Object" none with
  accessFlags := 33
  interfaces := #[]
  cf := some (fileOf pool0 8 #[] #[{ accessFlags := 1, nameIndex := 5, descriptorIndex := 6, attributes := #[] }] 33 0 #[] #[])
  fields := #[]
  methods := #[k0m0]
  instanceTypes := #[]
  staticTypes := #[]
  resolved := Array.replicate 124 none
  statics := none }

def pool1 : Array CpInfo := pool [(2, .class_ 4), (1, u "java/lang/Object"), (0, u "<init>"), (0, u "()V"), (0, .methodref 8 9), (0, .class_ 10), (0, .nameAndType 11 12), (0, u "com/example/grantsmith/grantsmith/HeaderFields"), (0, u "isTokenChar"), (0, u "(I)Z"), (0, .methodref 14 15), (0, .class_ 16), (0, .nameAndType 17 12), (0, u "com/example/grantsmith/grantsmith/HeaderFieldsIsTokenCharPinLaw"), (0, u "ref"), (3, u "law")] 2

def k1m0 : Method := { name := "<init>", desc := "()V", sig := { parameters := [], returnType := none }, accessFlags := 2, code := none }
def k1c1 : Code := { maxStack := 2, maxLocals := 1, code := method_2_code, exceptionTable := #[], attributes := #[] }
def k1m1 : Method := { name := "ref", desc := "(I)Z", sig := { parameters := [.int], returnType := some .boolean }, accessFlags := 10, code := some k1c1 }
def k1c2 : Code := { maxStack := 2, maxLocals := 4, code := code, exceptionTable := #[], attributes := #[] }
def k1m2 : Method := { name := "law", desc := "(I)Z", sig := { parameters := [.int], returnType := some .boolean }, accessFlags := 9, code := some k1c2 }
/-- com/example/grantsmith/grantsmith/HeaderFieldsIsTokenCharPinLaw -/
def k1 : Class := { plain "com/example/grantsmith/grantsmith/HeaderFieldsIsTokenCharPinLaw" (some 0) with
  accessFlags := 49
  interfaces := #[]
  cf := some (fileOf pool1 14 #[] #[{ accessFlags := 2, nameIndex := 5, descriptorIndex := 6, attributes := #[] }, { accessFlags := 10, nameIndex := 17, descriptorIndex := 12, attributes := #[] }, { accessFlags := 9, nameIndex := 21, descriptorIndex := 12, attributes := #[] }] 49 2 #[] #[])
  fields := #[]
  methods := #[k1m0, k1m1, k1m2]
  instanceTypes := #[]
  staticTypes := #[]
  resolved := Array.replicate 24 none
  statics := none }

def pool2 : Array CpInfo := pool [(2, .class_ 4), (1, u "java/lang/Object"), (3, .class_ 10), (1, u "com/example/grantsmith/grantsmith/HeaderFields"), (0, u "fields"), (0, u "[B"), (2, u "maxBytes"), (0, u "I"), (14, u "(I)Z"), (4, u "length"), (18, u "(I)I"), (11, u "indexOf"), (5, .class_ 74), (0, u "java/lang/String"), (18, .string 94), (0, u "!#$%&'*+-.^_`|~"), (0, .methodref 73 96), (0, .nameAndType 67 55), (2, u "isTokenChar"), (7, u "TOKEN_SYMBOLS"), (0, u "Ljava/lang/String;")] 15

def k2c0 : Code := { maxStack := 2, maxLocals := 1, code := prog_2_method_5_code, exceptionTable := #[], attributes := #[] }
def k2m0 : Method := { name := "isTokenChar", desc := "(I)Z", sig := { parameters := [.int], returnType := some .boolean }, accessFlags := 8, code := some k2c0 }
/-- com/example/grantsmith/grantsmith/HeaderFields -/
def k2 : Class := { plain "com/example/grantsmith/grantsmith/HeaderFields" (some 0) with
  accessFlags := 48
  interfaces := #[]
  cf := some (fileOf pool2 8 #[] #[{ accessFlags := 8, nameIndex := 99, descriptorIndex := 31, attributes := #[] }] 48 2 #[] #[{ accessFlags := 26, nameIndex := 107, descriptorIndex := 108, attributes := #[] }, { accessFlags := 18, nameIndex := 15, descriptorIndex := 16, attributes := #[] }, { accessFlags := 2, nameIndex := 11, descriptorIndex := 12, attributes := #[] }, { accessFlags := 2, nameIndex := 36, descriptorIndex := 16, attributes := #[] }])
  fields := #[{ name := "TOKEN_SYMBOLS", type := (.object "java/lang/String"), accessFlags := 26, slot := 0, constantValue := 0 }, { name := "maxBytes", type := .int, accessFlags := 18, slot := 0, constantValue := 0 }, { name := "fields", type := (.array .byte), accessFlags := 2, slot := 1, constantValue := 0 }, { name := "length", type := .int, accessFlags := 2, slot := 2, constantValue := 0 }]
  methods := #[k2m0]
  instanceTypes := #[.int, (.array .byte), .int]
  staticTypes := #[(.object "java/lang/String")]
  resolved := Array.replicate 124 none
  statics := none }

def pool3 : Array CpInfo := pool [(1, .class_ 2), (0, u "java/io/Serializable"), (0, .class_ 4), (0, u "java/lang/Object")] 2

/-- java/io/Serializable -/
def k3 : Class := { plain "java/io/Serializable" (some 0) with
  accessFlags := 1537
  interfaces := #[]
  cf := some (fileOf pool3 1 #[] #[] 1537 3 #[] #[])
  fields := #[]
  methods := #[]
  instanceTypes := #[]
  staticTypes := #[]
  resolved := Array.replicate 7 none
  statics := none }

def pool4 : Array CpInfo := pool [(1, .class_ 2), (0, u "java/lang/Comparable"), (0, .class_ 4), (0, u "java/lang/Object")] 7

/-- java/lang/Comparable -/
def k4 : Class := { plain "java/lang/Comparable" (some 0) with
  accessFlags := 1537
  interfaces := #[]
  cf := some (fileOf pool4 1 #[] #[] 1537 3 #[] #[])
  fields := #[]
  methods := #[]
  instanceTypes := #[]
  staticTypes := #[]
  resolved := Array.replicate 12 none
  statics := none }

def pool5 : Array CpInfo := pool [(2, .class_ 4), (1, u "java/lang/CharSequence"), (42, .class_ 48), (0, u "java/lang/CharSequence$1CodePointIterator"), (10, .class_ 60), (0, u "java/lang/CharSequence$1CharIterator"), (5, .class_ 67), (0, u "java/lang/Object")] 63

/-- java/lang/CharSequence -/
def k5 : Class := { plain "java/lang/CharSequence" (some 0) with
  accessFlags := 1537
  interfaces := #[]
  cf := some (fileOf pool5 2 #[.nestMembers #[47, 59]] #[] 1537 66 #[] #[])
  fields := #[]
  methods := #[]
  instanceTypes := #[]
  staticTypes := #[]
  resolved := Array.replicate 131 none
  statics := none }

def pool6 : Array CpInfo := pool [(1, .class_ 2), (0, u "java/lang/constant/Constable"), (0, .class_ 4), (0, u "java/lang/Object")] 6

/-- java/lang/constant/Constable -/
def k6 : Class := { plain "java/lang/constant/Constable" (some 0) with
  accessFlags := 1537
  interfaces := #[]
  cf := some (fileOf pool6 1 #[] #[] 1537 3 #[] #[])
  fields := #[]
  methods := #[]
  instanceTypes := #[]
  staticTypes := #[]
  resolved := Array.replicate 11 none
  statics := none }

def pool7 : Array CpInfo := pool [(1, .class_ 2), (0, u "java/lang/constant/ConstantDesc"), (0, .class_ 4), (0, u "java/lang/Object")] 32

/-- java/lang/constant/ConstantDesc -/
def k7 : Class := { plain "java/lang/constant/ConstantDesc" (some 0) with
  accessFlags := 1537
  interfaces := #[]
  cf := some (fileOf pool7 1 #[] #[] 1537 3 #[] #[])
  fields := #[]
  methods := #[]
  instanceTypes := #[]
  staticTypes := #[]
  resolved := Array.replicate 37 none
  statics := none }

def pool8 : Array CpInfo := pool [(2, .class_ 4), (1, u "java/lang/Object"), (0, u "<init>"), (0, u "()V"), (2, .fieldref 10 11), (0, .class_ 12), (0, .nameAndType 13 14), (0, u "java/lang/String"), (0, u "value"), (0, u "[B"), (0, .fieldref 10 16), (0, .nameAndType 17 18), (0, u "coder"), (0, u "B"), (2, u "hash"), (0, u "I"), (2, u "hashIsZero"), (0, u "Z"), (11, .fieldref 10 39), (0, .nameAndType 40 26), (0, u "COMPACT_STRINGS"), (66, .class_ 109), (1, u "java/lang/StringLatin1"), (32, u "()Z"), (191, u "()I"), (0, .methodref 10 336), (0, .nameAndType 17 337), (0, u "()B"), (154, .methodref 10 493), (0, .nameAndType 494 142), (0, u "isLatin1"), (10, .methodref 10 506), (0, .nameAndType 507 334), (0, u "length"), (67, .class_ 576), (0, u "java/lang/CharSequence"), (22, u "CASE_INSENSITIVE_ORDER"), (0, u "Ljava/util/Comparator;"), (32, .methodref 10 634), (0, .nameAndType 635 636), (0, u "indexOf"), (0, u "(II)I"), (0, .methodref 107 638), (0, .nameAndType 635 639), (0, u "([BIII)I"), (125, u "(I)I"), (335, u "serialPersistentFields"), (0, u "[Ljava/io/ObjectStreamField;"), (0, .class_ 1104), (0, u "java/lang/String$CaseInsensitiveComparator"), (1, .class_ 1107), (0, u "java/io/Serializable"), (0, .class_ 1109), (0, u "java/lang/Comparable"), (0, .class_ 1111), (0, u "java/lang/constant/Constable"), (0, .class_ 1113), (0, u "java/lang/constant/ConstantDesc"), (2, u "serialVersionUID"), (0, u "J"), (3, u "REPL"), (0, u "C"), (2, u "LATIN1"), (1, u "UTF16")] 323

def k8m0 : Method := { name := "<init>", desc := "()V", sig := { parameters := [], returnType := none }, accessFlags := 1, code := none }
def k8c1 : Code := { maxStack := 2, maxLocals := 1, code := jdk_42_method_54_code, exceptionTable := #[], attributes := #[] }
def k8m1 : Method := { name := "length", desc := "()I", sig := { parameters := [], returnType := some .int }, accessFlags := 1, code := some k8c1 }
def k8c2 : Code := { maxStack := 3, maxLocals := 2, code := jdk_42_method_79_code, exceptionTable := #[], attributes := #[] }
def k8m2 : Method := { name := "indexOf", desc := "(I)I", sig := { parameters := [.int], returnType := some .int }, accessFlags := 1, code := some k8c2 }
def k8c3 : Code := { maxStack := 4, maxLocals := 3, code := jdk_42_method_80_code, exceptionTable := #[], attributes := #[] }
def k8m3 : Method := { name := "indexOf", desc := "(II)I", sig := { parameters := [.int, .int], returnType := some .int }, accessFlags := 1, code := some k8c3 }
def k8c4 : Code := { maxStack := 1, maxLocals := 1, code := jdk_42_method_152_code, exceptionTable := #[], attributes := #[] }
def k8m4 : Method := { name := "coder", desc := "()B", sig := { parameters := [], returnType := some .byte }, accessFlags := 0, code := some k8c4 }
def k8c5 : Code := { maxStack := 1, maxLocals := 1, code := jdk_42_method_154_code, exceptionTable := #[], attributes := #[] }
def k8m5 : Method := { name := "isLatin1", desc := "()Z", sig := { parameters := [], returnType := some .boolean }, accessFlags := 0, code := some k8c5 }
/-- java/lang/String -/
def k8 : Class := { plain "java/lang/String" (some 0) with
  accessFlags := 49
  interfaces := #[3, 4, 5, 6, 7]
  cf := some (fileOf pool8 10 #[.nestMembers #[1103]] #[{ accessFlags := 1, nameIndex := 5, descriptorIndex := 6, attributes := #[] }, { accessFlags := 1, nameIndex := 507, descriptorIndex := 334, attributes := #[] }, { accessFlags := 1, nameIndex := 635, descriptorIndex := 765, attributes := #[] }, { accessFlags := 1, nameIndex := 635, descriptorIndex := 636, attributes := #[] }, { accessFlags := 0, nameIndex := 17, descriptorIndex := 337, attributes := #[] }, { accessFlags := 0, nameIndex := 494, descriptorIndex := 142, attributes := #[] }] 49 2 #[1106, 1108, 575, 1110, 1112] #[{ accessFlags := 18, nameIndex := 13, descriptorIndex := 14, attributes := #[] }, { accessFlags := 18, nameIndex := 17, descriptorIndex := 18, attributes := #[] }, { accessFlags := 2, nameIndex := 21, descriptorIndex := 22, attributes := #[] }, { accessFlags := 2, nameIndex := 25, descriptorIndex := 26, attributes := #[] }, { accessFlags := 26, nameIndex := 1116, descriptorIndex := 1117, attributes := #[] }, { accessFlags := 24, nameIndex := 40, descriptorIndex := 26, attributes := #[] }, { accessFlags := 26, nameIndex := 1101, descriptorIndex := 1102, attributes := #[] }, { accessFlags := 26, nameIndex := 1121, descriptorIndex := 1122, attributes := #[] }, { accessFlags := 25, nameIndex := 599, descriptorIndex := 600, attributes := #[] }, { accessFlags := 24, nameIndex := 1125, descriptorIndex := 18, attributes := #[] }, { accessFlags := 24, nameIndex := 1127, descriptorIndex := 18, attributes := #[] }])
  fields := #[{ name := "value", type := (.array .byte), accessFlags := 18, slot := 0, constantValue := 0 }, { name := "coder", type := .byte, accessFlags := 18, slot := 1, constantValue := 0 }, { name := "hash", type := .int, accessFlags := 2, slot := 2, constantValue := 0 }, { name := "hashIsZero", type := .boolean, accessFlags := 2, slot := 3, constantValue := 0 }, { name := "serialVersionUID", type := .long, accessFlags := 26, slot := 0, constantValue := 0 }, { name := "COMPACT_STRINGS", type := .boolean, accessFlags := 24, slot := 1, constantValue := 0 }, { name := "serialPersistentFields", type := (.array (.object "java/io/ObjectStreamField")), accessFlags := 26, slot := 2, constantValue := 0 }, { name := "REPL", type := .char, accessFlags := 26, slot := 3, constantValue := 0 }, { name := "CASE_INSENSITIVE_ORDER", type := (.object "java/util/Comparator"), accessFlags := 25, slot := 4, constantValue := 0 }, { name := "LATIN1", type := .byte, accessFlags := 24, slot := 5, constantValue := 0 }, { name := "UTF16", type := .byte, accessFlags := 24, slot := 6, constantValue := 0 }]
  methods := #[k8m0, k8m1, k8m2, k8m3, k8m4, k8m5]
  instanceTypes := #[(.array .byte), .byte, .int, .boolean]
  staticTypes := #[.long, .boolean, (.array (.object "java/io/ObjectStreamField")), .char, (.object "java/util/Comparator"), .byte, .byte]
  resolved := Array.replicate 1451 none
  statics := some 0 }

def pool9 : Array CpInfo := pool [(4, .class_ 6), (1, u "java/lang/Object"), (0, u "<init>"), (0, u "()V"), (5, .class_ 16), (1, u "java/lang/StringLatin1"), (21, .methodref 39 40), (0, .class_ 41), (0, .nameAndType 42 43), (0, u "java/lang/Math"), (0, u "min"), (0, u "(II)I"), (44, .methodref 14 89), (0, .nameAndType 90 91), (0, u "canEncode"), (0, u "(I)Z"), (0, .methodref 39 93), (0, .nameAndType 94 43), (0, u "max"), (0, .methodref 14 96), (0, .nameAndType 97 98), (0, u "indexOfChar"), (0, u "([BIII)I"), (2, u "indexOf"), (19, u "$assertionsDisabled"), (0, u "Z"), (98, .class_ 223), (1, u "java/lang/StringLatin1$LinesSpliterator"), (166, .class_ 391), (0, u "java/lang/StringLatin1$CharsSpliterator")] 3

def k9m0 : Method := { name := "<init>", desc := "()V", sig := { parameters := [], returnType := none }, accessFlags := 0, code := none }
def k9c1 : Code := { maxStack := 2, maxLocals := 1, code := jdk_43_method_4_code, exceptionTable := #[], attributes := #[] }
def k9m1 : Method := { name := "canEncode", desc := "(I)Z", sig := { parameters := [.int], returnType := some .boolean }, accessFlags := 9, code := some k9c1 }
def k9c2 : Code := { maxStack := 4, maxLocals := 4, code := jdk_43_method_22_code, exceptionTable := #[], attributes := #[] }
def k9m2 : Method := { name := "indexOf", desc := "([BIII)I", sig := { parameters := [(.array .byte), .int, .int, .int], returnType := some .int }, accessFlags := 9, code := some k9c2 }
def k9c3 : Code := { maxStack := 2, maxLocals := 6, code := jdk_43_method_23_code, exceptionTable := #[], attributes := #[] }
def k9m3 : Method := { name := "indexOfChar", desc := "([BIII)I", sig := { parameters := [(.array .byte), .int, .int, .int], returnType := some .int }, accessFlags := 10, code := some k9c3 }
/-- java/lang/StringLatin1 -/
def k9 : Class := { plain "java/lang/StringLatin1" (some 0) with
  accessFlags := 48
  interfaces := #[]
  cf := some (fileOf pool9 14 #[.nestMembers #[390, 221]] #[{ accessFlags := 0, nameIndex := 7, descriptorIndex := 8, attributes := #[] }, { accessFlags := 9, nameIndex := 90, descriptorIndex := 91, attributes := #[] }, { accessFlags := 9, nameIndex := 101, descriptorIndex := 98, attributes := #[] }, { accessFlags := 10, nameIndex := 97, descriptorIndex := 98, attributes := #[] }] 48 4 #[] #[{ accessFlags := 4120, nameIndex := 121, descriptorIndex := 122, attributes := #[] }])
  fields := #[{ name := "$assertionsDisabled", type := .boolean, accessFlags := 4120, slot := 0, constantValue := 0 }]
  methods := #[k9m0, k9m1, k9m2, k9m3]
  instanceTypes := #[]
  staticTypes := #[.boolean]
  resolved := Array.replicate 395 none
  statics := none }

def pool10 : Array CpInfo := pool [(1, .class_ 2), (0, u "java/lang/Math"), (1, .class_ 6), (1, u "java/lang/Object"), (0, u "<init>"), (0, u "()V"), (89, .class_ 100), (1, u "java/lang/Math$RandomNumberGeneratorHolder"), (71, u "negativeZeroFloatBits"), (0, u "J"), (2, u "negativeZeroDoubleBits"), (21, u "max"), (2, u "min"), (43, u "$assertionsDisabled"), (0, u "Z"), (88, u "(II)I"), (2, u "twoToTheDoubleScaleDown"), (0, u "D"), (4, u "twoToTheDoubleScaleUp"), (9, u "E"), (3, u "PI"), (2, u "TAU"), (2, u "DEGREES_TO_RADIANS"), (0, u "RADIANS_TO_DEGREES")] 94

def k10m0 : Method := { name := "<init>", desc := "()V", sig := { parameters := [], returnType := none }, accessFlags := 2, code := none }
def k10c1 : Code := { maxStack := 2, maxLocals := 2, code := jdk_29_method_65_code, exceptionTable := #[], attributes := #[] }
def k10m1 : Method := { name := "max", desc := "(II)I", sig := { parameters := [.int, .int], returnType := some .int }, accessFlags := 9, code := some k10c1 }
def k10c2 : Code := { maxStack := 2, maxLocals := 2, code := jdk_29_method_69_code, exceptionTable := #[], attributes := #[] }
def k10m2 : Method := { name := "min", desc := "(II)I", sig := { parameters := [.int, .int], returnType := some .int }, accessFlags := 9, code := some k10c2 }
/-- java/lang/Math -/
def k10 : Class := { plain "java/lang/Math" (some 0) with
  accessFlags := 49
  interfaces := #[]
  cf := some (fileOf pool10 1 #[.nestMembers #[98]] #[{ accessFlags := 2, nameIndex := 7, descriptorIndex := 8, attributes := #[] }, { accessFlags := 9, nameIndex := 198, descriptorIndex := 335, attributes := #[] }, { accessFlags := 9, nameIndex := 201, descriptorIndex := 335, attributes := #[] }] 49 4 #[] #[{ accessFlags := 25, nameIndex := 354, descriptorIndex := 339, attributes := #[] }, { accessFlags := 25, nameIndex := 358, descriptorIndex := 339, attributes := #[] }, { accessFlags := 25, nameIndex := 361, descriptorIndex := 339, attributes := #[] }, { accessFlags := 26, nameIndex := 364, descriptorIndex := 339, attributes := #[] }, { accessFlags := 26, nameIndex := 365, descriptorIndex := 339, attributes := #[] }, { accessFlags := 26, nameIndex := 172, descriptorIndex := 173, attributes := #[] }, { accessFlags := 26, nameIndex := 176, descriptorIndex := 173, attributes := #[] }, { accessFlags := 8, nameIndex := 344, descriptorIndex := 339, attributes := #[] }, { accessFlags := 8, nameIndex := 338, descriptorIndex := 339, attributes := #[] }, { accessFlags := 4120, nameIndex := 245, descriptorIndex := 246, attributes := #[] }])
  fields := #[{ name := "E", type := .double, accessFlags := 25, slot := 0, constantValue := 0 }, { name := "PI", type := .double, accessFlags := 25, slot := 1, constantValue := 0 }, { name := "TAU", type := .double, accessFlags := 25, slot := 2, constantValue := 0 }, { name := "DEGREES_TO_RADIANS", type := .double, accessFlags := 26, slot := 3, constantValue := 0 }, { name := "RADIANS_TO_DEGREES", type := .double, accessFlags := 26, slot := 4, constantValue := 0 }, { name := "negativeZeroFloatBits", type := .long, accessFlags := 26, slot := 5, constantValue := 0 }, { name := "negativeZeroDoubleBits", type := .long, accessFlags := 26, slot := 6, constantValue := 0 }, { name := "twoToTheDoubleScaleUp", type := .double, accessFlags := 8, slot := 7, constantValue := 0 }, { name := "twoToTheDoubleScaleDown", type := .double, accessFlags := 8, slot := 8, constantValue := 0 }, { name := "$assertionsDisabled", type := .boolean, accessFlags := 4120, slot := 9, constantValue := 0 }]
  methods := #[k10m0, k10m1, k10m2]
  instanceTypes := #[]
  staticTypes := #[.double, .double, .double, .double, .double, .long, .long, .double, .double, .boolean]
  resolved := Array.replicate 460 none
  statics := none }

def pool11 : Array CpInfo := pool [(2, .class_ 4), (1, u "java/lang/Object"), (0, u "<init>"), (0, u "()V"), (17, .class_ 26), (1, u "jdk/internal/util/Preconditions"), (28, .class_ 56), (0, u "jdk/internal/util/Preconditions$4"), (57, .class_ 115), (0, u "jdk/internal/util/Preconditions$1"), (7, u "SIOOBE_FORMATTER"), (0, u "Ljava/util/function/BiFunction;"), (0, .class_ 126), (0, u "jdk/internal/util/Preconditions$2"), (3, u "AIOOBE_FORMATTER"), (0, .class_ 132), (0, u "jdk/internal/util/Preconditions$3"), (3, u "IOOBE_FORMATTER")] 57

def k11m0 : Method := { name := "<init>", desc := "()V", sig := { parameters := [], returnType := none }, accessFlags := 1, code := none }
/-- jdk/internal/util/Preconditions -/
def k11 : Class := { plain "jdk/internal/util/Preconditions" (some 0) with
  accessFlags := 33
  interfaces := #[]
  cf := some (fileOf pool11 24 #[.nestMembers #[55, 131, 125, 114]] #[{ accessFlags := 1, nameIndex := 5, descriptorIndex := 6, attributes := #[] }] 33 2 #[] #[{ accessFlags := 25, nameIndex := 123, descriptorIndex := 124, attributes := #[] }, { accessFlags := 25, nameIndex := 130, descriptorIndex := 124, attributes := #[] }, { accessFlags := 25, nameIndex := 136, descriptorIndex := 124, attributes := #[] }])
  fields := #[{ name := "SIOOBE_FORMATTER", type := (.object "java/util/function/BiFunction"), accessFlags := 25, slot := 0, constantValue := 0 }, { name := "AIOOBE_FORMATTER", type := (.object "java/util/function/BiFunction"), accessFlags := 25, slot := 1, constantValue := 0 }, { name := "IOOBE_FORMATTER", type := (.object "java/util/function/BiFunction"), accessFlags := 25, slot := 2, constantValue := 0 }]
  methods := #[k11m0]
  instanceTypes := #[]
  staticTypes := #[(.object "java/util/function/BiFunction"), (.object "java/util/function/BiFunction"), (.object "java/util/function/BiFunction")]
  resolved := Array.replicate 194 none
  statics := some 1 }

def pool12 : Array CpInfo := pool [(9, u "<init>"), (6, .class_ 18), (1, u "java/lang/Object"), (0, u "()V"), (1, .class_ 23), (1, u "jdk/internal/util/ArraysSupport"), (0, u "LOG2_ARRAY_LONG_INDEX_SCALE"), (0, u "I"), (2, u "U"), (0, u "Ljdk/internal/misc/Unsafe;"), (8, u "BIG_ENDIAN"), (0, u "Z"), (8, u "LOG2_BYTE_BIT_SIZE"), (4, u "LOG2_ARRAY_INT_INDEX_SCALE"), (54, u "JLA"), (0, u "Ljdk/internal/access/JavaLangAccess;"), (11, u "LOG2_ARRAY_BOOLEAN_INDEX_SCALE"), (9, u "LOG2_ARRAY_BYTE_INDEX_SCALE"), (5, u "LOG2_ARRAY_CHAR_INDEX_SCALE"), (5, u "LOG2_ARRAY_SHORT_INDEX_SCALE"), (18, u "LOG2_ARRAY_FLOAT_INDEX_SCALE"), (24, u "LOG2_ARRAY_DOUBLE_INDEX_SCALE"), (89, u "T_BOOLEAN"), (2, u "T_CHAR"), (1, u "T_FLOAT"), (1, u "T_DOUBLE"), (1, u "T_BYTE"), (1, u "T_SHORT"), (1, u "T_INT"), (1, u "T_LONG"), (1, u "SOFT_MAX_ARRAY_LENGTH")] 83

def k12m0 : Method := { name := "<init>", desc := "()V", sig := { parameters := [], returnType := none }, accessFlags := 2, code := none }
/-- jdk/internal/util/ArraysSupport -/
def k12 : Class := { plain "jdk/internal/util/ArraysSupport" (some 0) with
  accessFlags := 33
  interfaces := #[]
  cf := some (fileOf pool12 21 #[] #[{ accessFlags := 2, nameIndex := 9, descriptorIndex := 19, attributes := #[] }] 33 16 #[] #[{ accessFlags := 24, nameIndex := 28, descriptorIndex := 29, attributes := #[] }, { accessFlags := 26, nameIndex := 38, descriptorIndex := 39, attributes := #[] }, { accessFlags := 25, nameIndex := 121, descriptorIndex := 25, attributes := #[] }, { accessFlags := 25, nameIndex := 131, descriptorIndex := 25, attributes := #[] }, { accessFlags := 25, nameIndex := 137, descriptorIndex := 25, attributes := #[] }, { accessFlags := 25, nameIndex := 143, descriptorIndex := 25, attributes := #[] }, { accessFlags := 25, nameIndex := 53, descriptorIndex := 25, attributes := #[] }, { accessFlags := 25, nameIndex := 24, descriptorIndex := 25, attributes := #[] }, { accessFlags := 25, nameIndex := 162, descriptorIndex := 25, attributes := #[] }, { accessFlags := 25, nameIndex := 187, descriptorIndex := 25, attributes := #[] }, { accessFlags := 26, nameIndex := 48, descriptorIndex := 25, attributes := #[] }, { accessFlags := 25, nameIndex := 277, descriptorIndex := 25, attributes := #[] }, { accessFlags := 25, nameIndex := 280, descriptorIndex := 25, attributes := #[] }, { accessFlags := 25, nameIndex := 282, descriptorIndex := 25, attributes := #[] }, { accessFlags := 25, nameIndex := 284, descriptorIndex := 25, attributes := #[] }, { accessFlags := 25, nameIndex := 286, descriptorIndex := 25, attributes := #[] }, { accessFlags := 25, nameIndex := 288, descriptorIndex := 25, attributes := #[] }, { accessFlags := 25, nameIndex := 290, descriptorIndex := 25, attributes := #[] }, { accessFlags := 25, nameIndex := 292, descriptorIndex := 25, attributes := #[] }, { accessFlags := 26, nameIndex := 108, descriptorIndex := 109, attributes := #[] }, { accessFlags := 25, nameIndex := 294, descriptorIndex := 25, attributes := #[] }])
  fields := #[{ name := "U", type := (.object "jdk/internal/misc/Unsafe"), accessFlags := 24, slot := 0, constantValue := 0 }, { name := "BIG_ENDIAN", type := .boolean, accessFlags := 26, slot := 1, constantValue := 0 }, { name := "LOG2_ARRAY_BOOLEAN_INDEX_SCALE", type := .int, accessFlags := 25, slot := 2, constantValue := 0 }, { name := "LOG2_ARRAY_BYTE_INDEX_SCALE", type := .int, accessFlags := 25, slot := 3, constantValue := 0 }, { name := "LOG2_ARRAY_CHAR_INDEX_SCALE", type := .int, accessFlags := 25, slot := 4, constantValue := 0 }, { name := "LOG2_ARRAY_SHORT_INDEX_SCALE", type := .int, accessFlags := 25, slot := 5, constantValue := 0 }, { name := "LOG2_ARRAY_INT_INDEX_SCALE", type := .int, accessFlags := 25, slot := 6, constantValue := 0 }, { name := "LOG2_ARRAY_LONG_INDEX_SCALE", type := .int, accessFlags := 25, slot := 7, constantValue := 0 }, { name := "LOG2_ARRAY_FLOAT_INDEX_SCALE", type := .int, accessFlags := 25, slot := 8, constantValue := 0 }, { name := "LOG2_ARRAY_DOUBLE_INDEX_SCALE", type := .int, accessFlags := 25, slot := 9, constantValue := 0 }, { name := "LOG2_BYTE_BIT_SIZE", type := .int, accessFlags := 26, slot := 10, constantValue := 0 }, { name := "T_BOOLEAN", type := .int, accessFlags := 25, slot := 11, constantValue := 0 }, { name := "T_CHAR", type := .int, accessFlags := 25, slot := 12, constantValue := 0 }, { name := "T_FLOAT", type := .int, accessFlags := 25, slot := 13, constantValue := 0 }, { name := "T_DOUBLE", type := .int, accessFlags := 25, slot := 14, constantValue := 0 }, { name := "T_BYTE", type := .int, accessFlags := 25, slot := 15, constantValue := 0 }, { name := "T_SHORT", type := .int, accessFlags := 25, slot := 16, constantValue := 0 }, { name := "T_INT", type := .int, accessFlags := 25, slot := 17, constantValue := 0 }, { name := "T_LONG", type := .int, accessFlags := 25, slot := 18, constantValue := 0 }, { name := "JLA", type := (.object "jdk/internal/access/JavaLangAccess"), accessFlags := 26, slot := 19, constantValue := 0 }, { name := "SOFT_MAX_ARRAY_LENGTH", type := .int, accessFlags := 25, slot := 20, constantValue := 0 }]
  methods := #[k12m0]
  instanceTypes := #[]
  staticTypes := #[(.object "jdk/internal/misc/Unsafe"), .boolean, .int, .int, .int, .int, .int, .int, .int, .int, .int, .int, .int, .int, .int, .int, .int, .int, .int, (.object "jdk/internal/access/JavaLangAccess"), .int]
  resolved := Array.replicate 378 none
  statics := none }

def pool13 : Array CpInfo := pool [(1, u "java/lang/Cloneable"), (0, .class_ 1), (0, u "java/lang/Object"), (0, .class_ 3)] 3

/-- java/lang/Cloneable -/
def k13 : Class := { plain "java/lang/Cloneable" (some 0) with
  accessFlags := 1537
  interfaces := #[]
  cf := some (fileOf pool13 2 #[] #[] 1537 4 #[] #[])
  fields := #[]
  methods := #[]
  instanceTypes := #[]
  staticTypes := #[]
  resolved := Array.replicate 8 none
  statics := none }

/-- the primitive byte -/
def k14 : Class := { plain "byte" none with kind := .primitive 'B', accessFlags := 0x411 }
/-- [B -/
def k15 : Class := { plain "[B" (some 0) with kind := .array 14 .byte, interfaces := #[13, 3], accessFlags := 1041 }

/-- the primitive int -/
def k16 : Class := { plain "int" none with kind := .primitive 'I', accessFlags := 0x411 }
/-- [I -/
def k17 : Class := { plain "[I" (some 0) with kind := .array 16 .int, interfaces := #[13, 3], accessFlags := 1041 }

def heap : Heap := #[{ cls := 8, slots := #[.long 0, .int 1, .null, .int 0, .null, .int 0, .int 0], vm := .statics 8 },
  { cls := 11, slots := #[.null, .null, .null], vm := .statics 11 }]
def classes : Array Class := #[k0, k1, k2, k3, k4, k5, k6, k7, k8, k9, k10, k11, k12, k13, k14, k15, k16, k17]
def interned : List (Array UInt16 × Addr) := []
def slotsUsed : Nat := 10
def theMethod : MethodId := ⟨1, 2⟩
def args0 : Array Value := #[.int 65]
def aboutOver (below : List Frame) : State where
  vm := { classes := classes, interned := interned.toArray }
  heap := heap
  slotsUsed := slotsUsed
  threads := #[{ frames := .invoking theMethod args0 :: below }]
def below0 : List Frame := [.native { method := ⟨0, 0⟩, args := #[] }]
def about1 : State := aboutOver below0
def p0 : Program := .bare "" "" ""
def e0 : Env := launch0.env 0 0 0
theorem w_frames : about1.frames = Frame.invoking theMethod args0 :: below0 := rfl
set_option maxRecDepth 65536 in
theorem w_args : argsFit about1.vm theMethod args0 = true := by decide +kernel
set_option maxRecDepth 65536 in
theorem w_heap : heapFits about1 = true := by decide +kernel
set_option maxRecDepth 65536 in
theorem w_runnable : about1.curStatus? = some .runnable := by decide +kernel
set_option maxRecDepth 65536 in
theorem w_alone : about1.alone = true := by decide +kernel
set_option maxRecDepth 65536 in
theorem w_named : about1.methodNamed? x = some theMethod := by decide +kernel
set_option maxRecDepth 65536 in
theorem w_hears : about1.hears theMethod below0 = true := by decide +kernel
set_option maxRecDepth 65536 in
theorem w_ripe : about1.ripe theMethod args0 below0 = true := by decide +kernel
theorem w_running : about1.status = .running := rfl
set_option maxRecDepth 65536 in
theorem w_room : about1.hasRoom e0.platform room_1 = true :=
  launch0.hasRoom_least _ room_1 (by decide +kernel) (by decide +kernel) (by decide +kernel) (by decide +kernel) (by decide +kernel) (by decide +kernel)
theorem allAtoms_all (ts : List Jvm.Cond) (a : Array Jvm.Value) (st : Jvm.State) : (allAtoms ts).before a st = ts.all (fun c => c.before a st) := by
  induction ts with
  | nil => rfl
  | cons c t ih =>
    show (Jvm.Cond.and c (allAtoms t)).before a st = _
    rw [Jvm.Cond.before_and, ih, List.all_cons]
def words1 : List Jvm.Cond := Jvm.Cond.code x code maxLocals ret :: tables_1
/-- a 'code' word, met by the world's own term for the bytes: nothing is compared byte by byte -/
theorem code_word {y : MethodName} {bytes : ByteArray} {mx : Nat} {rt : Option FieldType} {a : Array Value} {s : State} {m : MethodId} {meth : Method} {c : Code} (h1 : s.methodNamed? y = some m) (h2 : s.vm.method? m = some meth) (h3 : meth.code = some c) (h4 : c.code = bytes)
    (h5 : (c.maxLocals == mx && c.exceptionTable.isEmpty && decide (c.maxStack ≤ mostOperands) && decide (meth.sig.returnType = rt) && !meth.locks && decide (parseMethodDescriptor y.desc = some meth.sig)) = true) : (Jvm.Cond.code y bytes mx rt).before a s = true := by
  simp only [Bool.and_eq_true, beq_iff_eq, Bool.not_eq_true', decide_eq_true_eq] at h5
  obtain ⟨⟨⟨⟨⟨g1, g2⟩, g3⟩, g4⟩, g5⟩, g6⟩ := h5
  simp [Cond.before, Cond.holds, Cond.value, h1, h2, h3, h4, g1, g2, g3, g4, g5, g6]
def isCode : Jvm.Cond → Bool
  | .code _ _ _ _ => true
  | _ => false
theorem all_split {L : List Jvm.Cond} {P : Jvm.Cond → Bool} (h1 : L.all (fun c => isCode c || P c) = true) (h2 : ∀ c ∈ L.filter isCode, P c = true) : L.all P = true := by
  refine List.all_eq_true.mpr fun c hc => ?_
  have h := List.all_eq_true.mp h1 c hc
  rcases Bool.eq_false_or_eq_true (isCode c) with hi | hi
  · exact h2 c (List.mem_filter.mpr ⟨hc, hi⟩)
  · simpa [hi] using h
set_option maxRecDepth 65536 in
theorem w_c0 : (Jvm.Cond.code x code maxLocals ret).before args0 about1 = true := code_word (m := ⟨1, 2⟩) (meth := k1m2) (c := k1c2) (by decide +kernel) rfl rfl rfl (by decide +kernel)
set_option maxRecDepth 65536 in
theorem w_c1 : (Jvm.Cond.code ({ cls := "com/example/grantsmith/grantsmith/HeaderFields", name := "isTokenChar", desc := "(I)Z" } : Jvm.MethodName) prog_2_method_5_code (1 : Nat) (Option.some Jvm.ClassFile.FieldType.boolean)).before args0 about1 = true := code_word (m := ⟨2, 0⟩) (meth := k2m0) (c := k2c0) (by decide +kernel) rfl rfl rfl (by decide +kernel)
set_option maxRecDepth 65536 in
theorem w_c2 : (Jvm.Cond.code ({ cls := "java/lang/String", name := "indexOf", desc := "(I)I" } : Jvm.MethodName) jdk_42_method_79_code (2 : Nat) (Option.some Jvm.ClassFile.FieldType.int)).before args0 about1 = true := code_word (m := ⟨8, 2⟩) (meth := k8m2) (c := k8c2) (by decide +kernel) rfl rfl rfl (by decide +kernel)
set_option maxRecDepth 65536 in
theorem w_c3 : (Jvm.Cond.code ({ cls := "java/lang/String", name := "indexOf", desc := "(II)I" } : Jvm.MethodName) jdk_42_method_80_code (3 : Nat) (Option.some Jvm.ClassFile.FieldType.int)).before args0 about1 = true := code_word (m := ⟨8, 3⟩) (meth := k8m3) (c := k8c3) (by decide +kernel) rfl rfl rfl (by decide +kernel)
set_option maxRecDepth 65536 in
theorem w_c4 : (Jvm.Cond.code ({ cls := "java/lang/String", name := "isLatin1", desc := "()Z" } : Jvm.MethodName) jdk_42_method_154_code (1 : Nat) (Option.some Jvm.ClassFile.FieldType.boolean)).before args0 about1 = true := code_word (m := ⟨8, 5⟩) (meth := k8m5) (c := k8c5) (by decide +kernel) rfl rfl rfl (by decide +kernel)
set_option maxRecDepth 65536 in
theorem w_c5 : (Jvm.Cond.code ({ cls := "java/lang/String", name := "length", desc := "()I" } : Jvm.MethodName) jdk_42_method_54_code (1 : Nat) (Option.some Jvm.ClassFile.FieldType.int)).before args0 about1 = true := code_word (m := ⟨8, 1⟩) (meth := k8m1) (c := k8c1) (by decide +kernel) rfl rfl rfl (by decide +kernel)
set_option maxRecDepth 65536 in
theorem w_c6 : (Jvm.Cond.code ({ cls := "java/lang/String", name := "coder", desc := "()B" } : Jvm.MethodName) jdk_42_method_152_code (1 : Nat) (Option.some Jvm.ClassFile.FieldType.byte)).before args0 about1 = true := code_word (m := ⟨8, 4⟩) (meth := k8m4) (c := k8c4) (by decide +kernel) rfl rfl rfl (by decide +kernel)
set_option maxRecDepth 65536 in
theorem w_c7 : (Jvm.Cond.code ({ cls := "java/lang/StringLatin1", name := "indexOf", desc := "([BIII)I" } : Jvm.MethodName) jdk_43_method_22_code (4 : Nat) (Option.some Jvm.ClassFile.FieldType.int)).before args0 about1 = true := code_word (m := ⟨9, 2⟩) (meth := k9m2) (c := k9c2) (by decide +kernel) rfl rfl rfl (by decide +kernel)
set_option maxRecDepth 65536 in
theorem w_c8 : (Jvm.Cond.code ({ cls := "java/lang/StringLatin1", name := "canEncode", desc := "(I)Z" } : Jvm.MethodName) jdk_43_method_4_code (1 : Nat) (Option.some Jvm.ClassFile.FieldType.boolean)).before args0 about1 = true := code_word (m := ⟨9, 1⟩) (meth := k9m1) (c := k9c1) (by decide +kernel) rfl rfl rfl (by decide +kernel)
set_option maxRecDepth 65536 in
theorem w_c9 : (Jvm.Cond.code ({ cls := "java/lang/Math", name := "max", desc := "(II)I" } : Jvm.MethodName) jdk_29_method_65_code (2 : Nat) (Option.some Jvm.ClassFile.FieldType.int)).before args0 about1 = true := code_word (m := ⟨10, 1⟩) (meth := k10m1) (c := k10c1) (by decide +kernel) rfl rfl rfl (by decide +kernel)
set_option maxRecDepth 65536 in
theorem w_c10 : (Jvm.Cond.code ({ cls := "java/lang/Math", name := "min", desc := "(II)I" } : Jvm.MethodName) jdk_29_method_69_code (2 : Nat) (Option.some Jvm.ClassFile.FieldType.int)).before args0 about1 = true := code_word (m := ⟨10, 2⟩) (meth := k10m2) (c := k10c2) (by decide +kernel) rfl rfl rfl (by decide +kernel)
set_option maxRecDepth 65536 in
theorem w_c11 : (Jvm.Cond.code ({ cls := "java/lang/StringLatin1", name := "indexOfChar", desc := "([BIII)I" } : Jvm.MethodName) jdk_43_method_23_code (6 : Nat) (Option.some Jvm.ClassFile.FieldType.int)).before args0 about1 = true := code_word (m := ⟨9, 3⟩) (meth := k9m3) (c := k9c3) (by decide +kernel) rfl rfl rfl (by decide +kernel)
set_option maxRecDepth 65536 in
theorem w_c12 : (Jvm.Cond.code ({ cls := "com/example/grantsmith/grantsmith/HeaderFieldsIsTokenCharPinLaw", name := "ref", desc := "(I)Z" } : Jvm.MethodName) method_2_code (1 : Nat) (Option.some Jvm.ClassFile.FieldType.boolean)).before args0 about1 = true := code_word (m := ⟨1, 1⟩) (meth := k1m1) (c := k1c1) (by decide +kernel) rfl rfl rfl (by decide +kernel)
def codes1 : List Jvm.Cond := [Jvm.Cond.code x code maxLocals ret, Jvm.Cond.code ({ cls := "com/example/grantsmith/grantsmith/HeaderFields", name := "isTokenChar", desc := "(I)Z" } : Jvm.MethodName) prog_2_method_5_code (1 : Nat) (Option.some Jvm.ClassFile.FieldType.boolean), Jvm.Cond.code ({ cls := "java/lang/String", name := "indexOf", desc := "(I)I" } : Jvm.MethodName) jdk_42_method_79_code (2 : Nat) (Option.some Jvm.ClassFile.FieldType.int), Jvm.Cond.code ({ cls := "java/lang/String", name := "indexOf", desc := "(II)I" } : Jvm.MethodName) jdk_42_method_80_code (3 : Nat) (Option.some Jvm.ClassFile.FieldType.int), Jvm.Cond.code ({ cls := "java/lang/String", name := "isLatin1", desc := "()Z" } : Jvm.MethodName) jdk_42_method_154_code (1 : Nat) (Option.some Jvm.ClassFile.FieldType.boolean), Jvm.Cond.code ({ cls := "java/lang/String", name := "length", desc := "()I" } : Jvm.MethodName) jdk_42_method_54_code (1 : Nat) (Option.some Jvm.ClassFile.FieldType.int), Jvm.Cond.code ({ cls := "java/lang/String", name := "coder", desc := "()B" } : Jvm.MethodName) jdk_42_method_152_code (1 : Nat) (Option.some Jvm.ClassFile.FieldType.byte), Jvm.Cond.code ({ cls := "java/lang/StringLatin1", name := "indexOf", desc := "([BIII)I" } : Jvm.MethodName) jdk_43_method_22_code (4 : Nat) (Option.some Jvm.ClassFile.FieldType.int), Jvm.Cond.code ({ cls := "java/lang/StringLatin1", name := "canEncode", desc := "(I)Z" } : Jvm.MethodName) jdk_43_method_4_code (1 : Nat) (Option.some Jvm.ClassFile.FieldType.boolean), Jvm.Cond.code ({ cls := "java/lang/Math", name := "max", desc := "(II)I" } : Jvm.MethodName) jdk_29_method_65_code (2 : Nat) (Option.some Jvm.ClassFile.FieldType.int), Jvm.Cond.code ({ cls := "java/lang/Math", name := "min", desc := "(II)I" } : Jvm.MethodName) jdk_29_method_69_code (2 : Nat) (Option.some Jvm.ClassFile.FieldType.int), Jvm.Cond.code ({ cls := "java/lang/StringLatin1", name := "indexOfChar", desc := "([BIII)I" } : Jvm.MethodName) jdk_43_method_23_code (6 : Nat) (Option.some Jvm.ClassFile.FieldType.int), Jvm.Cond.code ({ cls := "com/example/grantsmith/grantsmith/HeaderFieldsIsTokenCharPinLaw", name := "ref", desc := "(I)Z" } : Jvm.MethodName) method_2_code (1 : Nat) (Option.some Jvm.ClassFile.FieldType.boolean)]
set_option maxRecDepth 65536 in
theorem codes_eq : words1.filter isCode = codes1 := rfl
theorem w_codes : ∀ c ∈ words1.filter isCode, c.before args0 about1 = true := by
  rw [codes_eq]
  intro c hc
  simp only [codes1, List.mem_cons, List.not_mem_nil, or_false] at hc
  rcases hc with rfl | rfl | rfl | rfl | rfl | rfl | rfl | rfl | rfl | rfl | rfl | rfl | rfl
  · exact w_c0
  · exact w_c1
  · exact w_c2
  · exact w_c3
  · exact w_c4
  · exact w_c5
  · exact w_c6
  · exact w_c7
  · exact w_c8
  · exact w_c9
  · exact w_c10
  · exact w_c11
  · exact w_c12
set_option maxRecDepth 65536 in
theorem w_t1 : (words1.take 24).all (fun c => isCode c || c.before args0 about1) = true := by decide +kernel
set_option maxRecDepth 65536 in
theorem w_t2 : ((words1.drop 24).take 24).all (fun c => isCode c || c.before args0 about1) = true := by decide +kernel
set_option maxRecDepth 65536 in
theorem w_t3 : ((words1.drop 24).drop 24).all (fun c => isCode c || c.before args0 about1) = true := by decide +kernel
theorem w_tables : (allAtoms (Jvm.Cond.code x code maxLocals ret :: tables_1)).before args0 about1 = true := by
  rw [allAtoms_all]
  show words1.all (fun c => c.before args0 about1) = true
  refine all_split ?_ w_codes
  rw [← List.take_append_drop 24 words1, List.all_append, w_t1, ← List.take_append_drop 24 (words1.drop 24), List.all_append, w_t2, w_t3]
  rfl
set_option maxRecDepth 65536 in
theorem w_rest : rest_1_c.before args0 about1 = true := by decide +kernel
set_option maxRecDepth 65536 in
theorem w_case : (Jvm.Cond.and given_1 narrow_1).before args0 about1 = true := by decide +kernel
set_option maxRecDepth 65536 in
theorem w_consts : constsHeld consts_1 about1 := Jvm.Lit.constsHeldB_iff.mp (by decide +kernel)
theorem w_applies : (headSpec (Jvm.Cond.code x code maxLocals ret :: tables_1) room_1).applies x e0.platform about1 = true :=
  (Spec.applies_iff w_frames).mpr ⟨w_running, w_runnable, w_alone, w_named, w_hears, w_ripe, w_room, w_tables⟩
theorem atStart : AtStart classFile x code maxLocals ret World_1 tables_1 room_1 Calls_1 rest_1 Pre_1 launch0 p0 e0 about1 theMethod args0 below0 :=
  ⟨lists_1, trivial, launch0.admits_env _ _ _, launch0.least_env, fairChoices_fair.cas, fairChoices_fair.clock, w_frames, w_args, w_heap, w_applies, ⟨w_consts, trivial⟩, w_rest, w_case⟩
end start1
theorem witness_1 : WitnessClaimed_1 := ⟨start1.p0, start1.e0, start1.about1, start1.theMethod, start1.args0, start1.below0, start1.atStart⟩
end Jvm.Pilot.@@N@@
