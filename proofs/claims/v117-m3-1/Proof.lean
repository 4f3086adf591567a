import JvmDerived
import JvmDerived.Pilot.@@N@@Statement
import JvmDerived.Pilot.@@N@@Code
set_option linter.unusedVariables false
set_option linter.unusedSimpArgs false
namespace Jvm.RoadKit
open Sem ClassFile Op Lib Jvm.Stand Jvm.Free Jvm.LawKit
section New
variable {p : Program} {l : Launch} {e : Env} {R : Room} {s : State} {m : MethodId} {args : Array Value} {below : List Frame} {meth : Method} {c : Code} {T : State} {locs : List Loc} {cells slots : Nat}
theorem retI (X : Stand p l e R s m args below meth c T locs cells slots) (hx : p.tables.exec = Jvm.exec) {pc : Nat} {Ls : Array Slot} {z : Int32} {rest : List Value} (hret : meth.sig.returnType = some .int) (hd : decode c.code pc = .ok (.ireturn, 1)) {fs : List Frame}
    (hl : ∀ (f : JFrame) (acts : List Action), f.method = m → f.locked = none → f.entered = [] → (doReturn e (T.setTop f) acts (some (.int z))).1 = T.setFrames fs) : Steps p.tables e below (T.setTop (mkF m pc Ls (.int z :: rest))) (T.setFrames fs) := by
  have hm' : T.vm.method? m = some meth := X.method'
  have hn : narrow .int (.int z) = .int z := rfl
  show Steps p.tables e below (T.setTop { method := m, pc := pc, locals := Ls, stack := _ :: rest, locked := none }) _
  jvm_step X.here [X.here.top, hx, hd, hm', hret, hn]
  first | (intro acts; rw [hl _ acts rfl rfl rfl]) | rw [hl _ _ rfl rfl rfl]
  exact Steps.refl _
end New
end Jvm.RoadKit
namespace Jvm.Pilot.@@N@@
open Jvm Jvm.ClassFile Sem Op Lib Jvm.Free Jvm.Stand Jvm.LawKit Jvm.RoadKit Bundle Jvm.Pilot.@@N@@.Jvm.D

def Rch (p : Program) (e : Env) (below : List Frame) (s : State) (C S : Nat) (st : State) (K : Option Value → Heap → List Loc → Prop) : Prop :=
  ∃ s₂ v L, Steps p.tables e below st s₂ ∧ s₂.status = .running ∧ Ended s₂ below (.returned v) ∧ K v s₂.heap L ∧ FrameEnd s (.returned v) s₂ L C S
section Own
variable {p : Program} {l : Launch} {e : Env} {R : Room} {s : State} {m : MethodId} {args : Array Value} {below : List Frame} {meth : Method} {c : Code} {T : State} {locs : List Loc} {cells slots C S : Nat} {K : Option Value → Heap → List Loc → Prop}
theorem Rch.step {st st' : State} (h : ∀ t, Steps p.tables e below st' t → Steps p.tables e below st t) (k : Rch p e below s C S st' K) : Rch p e below s C S st K := by
  obtain ⟨s₂, v, L, h1, h2⟩ := k
  exact ⟨s₂, v, L, h _ h1, h2⟩
theorem Rch.imp {st : State} {K' : Option Value → Heap → List Loc → Prop} (h : ∀ v hh L, K v hh L → K' v hh L) (k : Rch p e below s C S st K) : Rch p e below s C S st K' := by
  obtain ⟨s₂, v, L, h1, h2, h3, h4, h5⟩ := k
  exact ⟨s₂, v, L, h1, h2, h3, h _ _ _ h4, h5⟩
theorem Rch.retI (X : Stand p l e R s m args below meth c T locs cells slots) (hx : p.tables.exec = Jvm.exec) (hret : meth.sig.returnType = some .int) (hlk : meth.locks = false) {pc : Nat} {Ls : Array Slot} {z : Int32} {rest : List Value} (hd : decode c.code pc = .ok (.ireturn, 1)) (hC : cells ≤ C) (hS : slots ≤ S) (hK : K (some (.int z)) T.heap locs) :
    Rch p e below s C S (T.setTop (mkF m pc Ls (.int z :: rest))) K := by
  obtain ⟨fs, hr, hrun, hended, hW, hsame⟩ := X.leave (v := some (.int z)) (fun h => by rw [hret] at h; cases h) hlk
  exact ⟨_, _, _, Jvm.RoadKit.retI X hx hret hd hr, hrun, hended, hK, ⟨_, rfl⟩, hW, hsame.mono hC hS⟩
theorem Rch.retN (X : Stand p l e R s m args below meth c T locs cells slots) (hx : p.tables.exec = Jvm.exec) {t : FieldType} (hret : meth.sig.returnType = some t) (hlk : meth.locks = false) (ht : t = .boolean ∨ t = .byte ∨ t = .char ∨ t = .short) {pc : Nat} {Ls : Array Slot} {z : Int32} {rest : List Value} (hd : decode c.code pc = .ok (.ireturn, 1)) (hC : cells ≤ C) (hS : slots ≤ S) (hK : K (some (.int (nar t z))) T.heap locs) :
    Rch p e below s C S (T.setTop (mkF m pc Ls (.int z :: rest))) K := by
  obtain ⟨fs, hr, hrun, hended, hW, hsame⟩ := X.leave (v := some (.int (nar t z))) (fun h => by rw [hret] at h; cases h) hlk
  exact ⟨_, _, _, Jvm.RoadKit.retN X hx hret ht hd hr, hrun, hended, hK, ⟨_, rfl⟩, hW, hsame.mono hC hS⟩
theorem Rch.retJ (X : Stand p l e R s m args below meth c T locs cells slots) (hx : p.tables.exec = Jvm.exec) (hret : meth.sig.returnType = some .long) (hlk : meth.locks = false) {pc : Nat} {Ls : Array Slot} {z : Int64} (hd : decode c.code pc = .ok (.lreturn, 1)) (hC : cells ≤ C) (hS : slots ≤ S) (hK : K (some (.long z)) T.heap locs) :
    Rch p e below s C S (T.setTop (mkF m pc Ls [.long z])) K := by
  obtain ⟨fs, hr, hrun, hended, hW, hsame⟩ := X.leave (v := some (.long z)) (fun h => by rw [hret] at h; cases h) hlk
  exact ⟨_, _, _, X.lreturnOut hx hret hd hr, hrun, hended, hK, ⟨_, rfl⟩, hW, hsame.mono hC hS⟩
theorem Rch.retV (X : Stand p l e R s m args below meth c T locs cells slots) (hx : p.tables.exec = Jvm.exec) (hret : meth.sig.returnType = none) (hlk : meth.locks = false) {pc : Nat} {Ls : Array Slot} (hd : decode c.code pc = .ok (.return_, 1)) (hC : cells ≤ C) (hS : slots ≤ S) (hK : K none T.heap locs) :
    Rch p e below s C S (T.setTop (mkF m pc Ls [])) K := by
  obtain ⟨fs, hr, hrun, hended, hW, hsame⟩ := X.leave (v := none) (fun _ => rfl) hlk
  exact ⟨_, _, _, X.returnOut hx hret hd hr, hrun, hended, hK, ⟨_, rfl⟩, hW, hsame.mono hC hS⟩
end Own
def PI (z : Int32) (h0 : Heap) (n0 : Nat) : Option Value → Heap → List Loc → Prop := fun v h L => v = some (.int z) ∧ Fr n0 L ∧ h = h0
def PJ (z : Int64) (h0 : Heap) (n0 : Nat) : Option Value → Heap → List Loc → Prop := fun v h L => v = some (.long z) ∧ Fr n0 L ∧ h = h0
def Cx (R : Room) (bytes : ByteArray) (ml : Nat) (own : String) (rt : Option FieldType) (p : Program) (l : Launch) (e : Env) (s : State) (m : MethodId) (args : Array Value) (below : List Frame) (meth : Method) (c : Code) (T : State) (locs : List Loc) (cells slots : Nat) (Z : State) (a0 : Array Value) (h0 : Heap) (n0 : Nat) : Prop :=
  Stand p l e R s m args below meth c T locs cells slots ∧ p.tables.exec = Jvm.exec ∧ Z.Warmed39 s.vm ∧ (∀ d ∈ tables_1, d.before a0 Z = true) ∧ c.code = bytes ∧ c.maxLocals = ml ∧ s.vm.findClass own = some m.cls ∧ meth.sig.returnType = rt ∧ meth.locks = false ∧ T.heap = h0 ∧ n0 ≤ h0.size ∧ Fr n0 locs
theorem own_nz {x : Int32} (h : ¬ x < (1 : Int32)) : x.toInt64 ≠ 0 := fun q => by
  have e := congrArg Int64.toInt q
  rw [c_i2l] at e
  rw [Int32.lt_iff_toInt_lt] at h
  simp only [Int32.reduceToInt, Int64.reduceToInt] at h e
  omega
theorem own_nzb (b : Int32) : ((b &&& (31 : Int32)) + (1 : Int32)).toInt64 ≠ 0 := fun q => by
  have e := congrArg Int64.toInt q
  have m := c_mask b 31 5 (by decide) (by decide)
  have ha := c_iadd (b &&& 31) 1
  have hr := rng32 ((b &&& 31) + 1)
  rw [c_i2l] at e
  rw [show (1 : Int32).toInt = 1 from rfl] at ha
  simp only [Int64.reduceToInt] at e
  omega
-- body 2
theorem d2_0 : decode prog_18_method_4_code 0 = .ok (.lload_n 0, 1) := by decide +kernel
theorem d2_1 : decode prog_18_method_4_code 1 = .ok (.iload_n 2, 1) := by decide +kernel
theorem d2_2 : decode prog_18_method_4_code 2 = .ok (.i2l, 1) := by decide +kernel
theorem d2_3 : decode prog_18_method_4_code 3 = .ok (.lmul, 1) := by decide +kernel
theorem d2_4 : decode prog_18_method_4_code 4 = .ok (.ldc2_w 40, 3) := by decide +kernel
theorem d2_7 : decode prog_18_method_4_code 7 = .ok (.ladd, 1) := by decide +kernel
theorem d2_8 : decode prog_18_method_4_code 8 = .ok (.lconst 1, 1) := by decide +kernel
theorem d2_9 : decode prog_18_method_4_code 9 = .ok (.lsub, 1) := by decide +kernel
theorem d2_10 : decode prog_18_method_4_code 10 = .ok (.ldc2_w 40, 3) := by decide +kernel
theorem d2_13 : decode prog_18_method_4_code 13 = .ok (.ldiv, 1) := by decide +kernel
theorem d2_14 : decode prog_18_method_4_code 14 = .ok (.lreturn, 1) := by decide +kernel
theorem pn2 : plainName "com/example/vigilant_filter/vigilantfilter/filter/PackedTable" = true := by first | (simp [plainName, overriddenIn]; done) | decide +kernel
theorem pd2 : parseMethodDescriptor "(JI)J" = some ⟨[.long, .int], some .long⟩ := by decide +kernel
def f2_0 (vj0 : Int64) (vi2 : Int32) : Int64 := ((((vj0 * (vi2.toInt64)) + (64 : Int64)) - (1 : Int64)) / (64 : Int64))
set_option maxRecDepth 65536 in
set_option maxHeartbeats 40000000 in
theorem b2_0 {p : Program} {l : Launch} {e : Env} {s : State} {m : MethodId} {args : Array Value} {below : List Frame} {meth : Method} {c : Code} {T : State} {locs : List Loc} {Z : State} {a0 : Array Value} {h0 : Heap} {n0 : Nat} (cx : Cx ({ frames := 0, cells := 0, slots := 0, locals := 0 } : Room) prog_18_method_4_code 3 "com/example/vigilant_filter/vigilantfilter/filter/PackedTable" (some .long) p l e s m args below meth c T locs 0 0 Z a0 h0 n0) (vj0 : Int64) (vi2 : Int32) :
    Rch p e below s 0 0 (T.setTop (mkF m 0 #[.val (.long vj0), .second, .val (.int vi2)] [])) (PJ (f2_0 vj0 vi2) h0 n0) := by
  obtain ⟨X0, hx, hZ, hw, hby, hml, hown, hret, hlk, e0, Z0, N0⟩ := cx
  unfold f2_0
  refine Rch.step (st' := T.setTop (mkF m 1 #[.val (.long vj0), .second, .val (.int vi2)] [(.long vj0)])) (fun _ hr => XS.lloadN X0.here hx rfl (hb hby d2_0) rfl hr) ?_
  refine Rch.step (st' := T.setTop (mkF m 2 #[.val (.long vj0), .second, .val (.int vi2)] [(.int vi2), (.long vj0)])) (fun _ hr => XS.iloadN X0.here hx rfl (hb hby d2_1) rfl hr) ?_
  refine Rch.step (st' := T.setTop (mkF m 3 #[.val (.long vj0), .second, .val (.int vi2)] [(.long (vi2.toInt64)), (.long vj0)])) (fun _ hr => XS.i2l X0.here hx rfl (hb hby d2_2) rfl hr) ?_
  refine Rch.step (st' := T.setTop (mkF m 4 #[.val (.long vj0), .second, .val (.int vi2)] [(.long (vj0 * (vi2.toInt64)))])) (fun _ hr => XS.lmul X0.here hx rfl (hb hby d2_3) rfl hr) ?_
  refine Rch.step (st' := T.setTop (mkF m 7 #[.val (.long vj0), .second, .val (.int vi2)] [(.long (64 : Int64)), (.long (vj0 * (vi2.toInt64)))])) (fun _ hr => X0.ldc2Long hx hown (mvT hZ (hw _ (List.mem_of_getElem? (i := 12) rfl))) (g := (mkF m 4 #[.val (.long vj0), .second, .val (.int vi2)] [(.long (vj0 * (vi2.toInt64)))])) rfl (hb hby d2_4) _ hr) ?_
  refine Rch.step (st' := T.setTop (mkF m 8 #[.val (.long vj0), .second, .val (.int vi2)] [(.long ((vj0 * (vi2.toInt64)) + (64 : Int64)))])) (fun _ hr => XS.ladd X0.here hx rfl (hb hby d2_7) rfl hr) ?_
  refine Rch.step (st' := T.setTop (mkF m 9 #[.val (.long vj0), .second, .val (.int vi2)] [(.long (1 : Int64)), (.long ((vj0 * (vi2.toInt64)) + (64 : Int64)))])) (fun _ hr => XS.lconst X0.here hx rfl (hb hby d2_8) hr) ?_
  refine Rch.step (st' := T.setTop (mkF m 10 #[.val (.long vj0), .second, .val (.int vi2)] [(.long (((vj0 * (vi2.toInt64)) + (64 : Int64)) - (1 : Int64)))])) (fun _ hr => XS.lsub X0.here hx rfl (hb hby d2_9) rfl hr) ?_
  refine Rch.step (st' := T.setTop (mkF m 13 #[.val (.long vj0), .second, .val (.int vi2)] [(.long (64 : Int64)), (.long (((vj0 * (vi2.toInt64)) + (64 : Int64)) - (1 : Int64)))])) (fun _ hr => X0.ldc2Long hx hown (mvT hZ (hw _ (List.mem_of_getElem? (i := 12) rfl))) (g := (mkF m 10 #[.val (.long vj0), .second, .val (.int vi2)] [(.long (((vj0 * (vi2.toInt64)) + (64 : Int64)) - (1 : Int64)))])) rfl (hb hby d2_10) _ hr) ?_
  refine Rch.step (st' := T.setTop (mkF m 14 #[.val (.long vj0), .second, .val (.int vi2)] [(.long ((((vj0 * (vi2.toInt64)) + (64 : Int64)) - (1 : Int64)) / (64 : Int64)))])) (fun _ hr => XS.ldiv X0.here hx rfl (hb hby d2_13) rfl (by decide) hr) ?_
  exact Rch.retJ X0 hx hret hlk (hb hby d2_14) (by decide) (by decide) ⟨rfl, N0, e0⟩
theorem ef2 (m : MethodId) (x0 : Int64) (x1 : Int32) : entryFrame m #[(.long x0), (.int x1)] 3 = mkF m 0 #[.val (.long x0), .second, .val (.int x1)] [] := by first | (simp [entryFrame, mkF, argsToLocals, Value.category]; done) | rfl
set_option maxRecDepth 65536 in
set_option maxHeartbeats 40000000 in
theorem rm2 (l : Launch) (Z : State) (a0 : Array Value) (hw : ∀ d ∈ tables_1, d.before a0 Z = true) (ws : List Jvm.Cond) (vj0 : Int64) (vi2 : Int32) (h0 : Heap) (n0 : Nat) (Z0 : n0 ≤ h0.size) :
    MetFree l (⟨"com/example/vigilant_filter/vigilantfilter/filter/PackedTable", "wordCount", "(JI)J"⟩ : MethodName) (head1 (Jvm.Cond.code (⟨"com/example/vigilant_filter/vigilantfilter/filter/PackedTable", "wordCount", "(JI)J"⟩ : MethodName) prog_18_method_4_code 3 (some .long) :: ws) ({ frames := 0, cells := 0, slots := 0, locals := 0 } : Room)) (fun a U => a = #[(.long vj0), (.int vi2)] ∧ Z.Warmed39 U.vm ∧ U.heap = h0) (fun _ _ _ _ _ => True) (fun _ U o U' => ∃ v L, o = .returned v ∧ PJ (f2_0 vj0 vi2) h0 n0 v U'.heap L ∧ FrameEnd U o U' L ({ frames := 0, cells := 0, slots := 0, locals := 0 } : Room).cells ({ frames := 0, cells := 0, slots := 0, locals := 0 } : Room).slots) := by
  refine MetFree.of_bodySF (plainFor_of_name pn2) hisR ?_
  intro p e s m args below meth c s₁ Bd hml0 hP hK
  obtain ⟨rfl, hZ, hh⟩ := hP
  have hown : s.vm.findClass "com/example/vigilant_filter/vigilantfilter/filter/PackedTable" = some m.cls := findClass_of_methodNamed Bd.named
  have e0 : s₁.heap = h0 := by rw [← hh, Bd.state]; rfl
  obtain ⟨s₂, v, L, h1, h2, h3, h4, h5⟩ := b2_0 (T := s₁) ⟨Stand.of_body Bd, Bd.exec, hZ, hw, Bd.bytes, hml0, hown, Bd.returns, BodyLoose.notSynchronized Bd, e0, Z0, Fr.nil n0⟩ vj0 vi2
  exact ⟨s₂, .returned v, castTop (ef2 m vj0 vi2) h1, h2, h3, v, L, rfl, h4, h5⟩
-- body 1
theorem d1_0 : decode prog_18_method_3_code 0 = .ok (.lload_n 0, 1) := by decide +kernel
theorem d1_1 : decode prog_18_method_3_code 1 = .ok (.lconst 1, 1) := by decide +kernel
theorem d1_2 : decode prog_18_method_3_code 2 = .ok (.lcmp, 1) := by decide +kernel
theorem d1_3 : decode prog_18_method_3_code 3 = .ok (.ifCond .lt 38, 3) := by decide +kernel
theorem d1_6 : decode prog_18_method_3_code 6 = .ok (.lload_n 0, 1) := by decide +kernel
theorem d1_7 : decode prog_18_method_3_code 7 = .ok (.ldc2_w 32, 3) := by decide +kernel
theorem d1_10 : decode prog_18_method_3_code 10 = .ok (.lcmp, 1) := by decide +kernel
theorem d1_11 : decode prog_18_method_3_code 11 = .ok (.ifCond .gt 30, 3) := by decide +kernel
theorem d1_14 : decode prog_18_method_3_code 14 = .ok (.iload_n 2, 1) := by decide +kernel
theorem d1_15 : decode prog_18_method_3_code 15 = .ok (.iconst 1, 1) := by decide +kernel
theorem d1_16 : decode prog_18_method_3_code 16 = .ok (.if_icmp .lt 25, 3) := by decide +kernel
theorem d1_19 : decode prog_18_method_3_code 19 = .ok (.iload_n 2, 1) := by decide +kernel
theorem d1_20 : decode prog_18_method_3_code 20 = .ok (.bipush 32, 2) := by decide +kernel
theorem d1_22 : decode prog_18_method_3_code 22 = .ok (.if_icmp .gt 19, 3) := by decide +kernel
theorem d1_25 : decode prog_18_method_3_code 25 = .ok (.lload_n 0, 1) := by decide +kernel
theorem d1_26 : decode prog_18_method_3_code 26 = .ok (.iload_n 2, 1) := by decide +kernel
theorem d1_27 : decode prog_18_method_3_code 27 = .ok (.invokestatic 34, 3) := by decide +kernel
theorem d1_30 : decode prog_18_method_3_code 30 = .ok (.ldc2_w 38, 3) := by decide +kernel
theorem d1_33 : decode prog_18_method_3_code 33 = .ok (.lcmp, 1) := by decide +kernel
theorem d1_34 : decode prog_18_method_3_code 34 = .ok (.ifCond .gt 7, 3) := by decide +kernel
theorem d1_37 : decode prog_18_method_3_code 37 = .ok (.iconst 1, 1) := by decide +kernel
theorem d1_38 : decode prog_18_method_3_code 38 = .ok (.goto 4, 3) := by decide +kernel
theorem d1_41 : decode prog_18_method_3_code 41 = .ok (.iconst 0, 1) := by decide +kernel
theorem d1_42 : decode prog_18_method_3_code 42 = .ok (.ireturn, 1) := by decide +kernel
theorem pn1 : plainName "com/example/vigilant_filter/vigilantfilter/filter/PackedTable" = true := by first | (simp [plainName, overriddenIn]; done) | decide +kernel
theorem pd1 : parseMethodDescriptor "(JI)Z" = some ⟨[.long, .int], some .boolean⟩ := by decide +kernel
def f1_0 (vj0 : Int64) (vi2 : Int32) : Int32 := (if vj0 < (1 : Int64) then (0 : Int32) else (if (137438952896 : Int64) < vj0 then (0 : Int32) else (if vi2 < (1 : Int32) then (0 : Int32) else (if (32 : Int32) < vi2 then (0 : Int32) else (if (2147483639 : Int64) < (f2_0 vj0 vi2) then (0 : Int32) else (1 : Int32))))))
set_option maxRecDepth 65536 in
set_option maxHeartbeats 40000000 in
theorem b1_0 {p : Program} {l : Launch} {e : Env} {s : State} {m : MethodId} {args : Array Value} {below : List Frame} {meth : Method} {c : Code} {T : State} {locs : List Loc} {Z : State} {a0 : Array Value} {h0 : Heap} {n0 : Nat} (cx : Cx ({ frames := 1, cells := 0, slots := 0, locals := 14 } : Room) prog_18_method_3_code 3 "com/example/vigilant_filter/vigilantfilter/filter/PackedTable" (some .boolean) p l e s m args below meth c T locs 0 0 Z a0 h0 n0) (vj0 : Int64) (vi2 : Int32) :
    Rch p e below s 0 0 (T.setTop (mkF m 0 #[.val (.long vj0), .second, .val (.int vi2)] [])) (PI (f1_0 vj0 vi2) h0 n0) := by
  obtain ⟨X0, hx, hZ, hw, hby, hml, hown, hret, hlk, e0, Z0, N0⟩ := cx
  unfold f1_0
  refine Rch.step (st' := T.setTop (mkF m 1 #[.val (.long vj0), .second, .val (.int vi2)] [(.long vj0)])) (fun _ hr => XS.lloadN X0.here hx rfl (hb hby d1_0) rfl hr) ?_
  refine Rch.step (st' := T.setTop (mkF m 2 #[.val (.long vj0), .second, .val (.int vi2)] [(.long (1 : Int64)), (.long vj0)])) (fun _ hr => XS.lconst X0.here hx rfl (hb hby d1_1) hr) ?_
  refine Rch.step (st' := T.setTop (mkF m 3 #[.val (.long vj0), .second, .val (.int vi2)] [(.int (lcmpW vj0 (1 : Int64)))])) (fun _ hr => XS.lcmp X0.here hx rfl (hb hby d1_2) rfl hr) ?_
  by_cases hc1 : vj0 < (1 : Int64)
  · rw [if_pos hc1]
    refine Rch.step (st' := T.setTop (mkF m 41 #[.val (.long vj0), .second, .val (.int vi2)] [])) (fun _ hr => XS.ifYes X0.here hx rfl (pc0 := 3) (pc' := 41) rfl (hb hby d1_3) rfl ((if0 _ _).trans (tlt ((lw_lt vj0 (1 : Int64)).mpr hc1)).1) (by decide) (by decide) hr) ?_
    refine Rch.step (st' := T.setTop (mkF m 42 #[.val (.long vj0), .second, .val (.int vi2)] [(.int (0 : Int32))])) (fun _ hr => XS.iconst X0.here hx rfl (hb hby d1_41) hr) ?_
    exact Rch.retN X0 hx (t := .boolean) hret hlk (by simp) (hb hby d1_42) (by decide) (by decide) ⟨rfl, N0, e0⟩
  · rw [if_neg hc1]
    refine Rch.step (st' := T.setTop (mkF m 6 #[.val (.long vj0), .second, .val (.int vi2)] [])) (fun _ hr => XS.ifNo X0.here hx rfl (hb hby d1_3) rfl ((if0 _ _).trans (flt (fun q => hc1 ((lw_lt vj0 (1 : Int64)).mp q))).1) hr) ?_
    refine Rch.step (st' := T.setTop (mkF m 7 #[.val (.long vj0), .second, .val (.int vi2)] [(.long vj0)])) (fun _ hr => XS.lloadN X0.here hx rfl (hb hby d1_6) rfl hr) ?_
    refine Rch.step (st' := T.setTop (mkF m 10 #[.val (.long vj0), .second, .val (.int vi2)] [(.long (137438952896 : Int64)), (.long vj0)])) (fun _ hr => X0.ldc2Long hx hown (mvT hZ (hw _ (List.mem_of_getElem? (i := 6) rfl))) (g := (mkF m 7 #[.val (.long vj0), .second, .val (.int vi2)] [(.long vj0)])) rfl (hb hby d1_7) _ hr) ?_
    refine Rch.step (st' := T.setTop (mkF m 11 #[.val (.long vj0), .second, .val (.int vi2)] [(.int (lcmpW vj0 (137438952896 : Int64)))])) (fun _ hr => XS.lcmp X0.here hx rfl (hb hby d1_10) rfl hr) ?_
    by_cases hc2 : (137438952896 : Int64) < vj0
    · rw [if_pos hc2]
      refine Rch.step (st' := T.setTop (mkF m 41 #[.val (.long vj0), .second, .val (.int vi2)] [])) (fun _ hr => XS.ifYes X0.here hx rfl (pc0 := 11) (pc' := 41) rfl (hb hby d1_11) rfl ((if0 _ _).trans (tlt ((lw_gt vj0 (137438952896 : Int64)).mpr hc2)).2.2.1) (by decide) (by decide) hr) ?_
      refine Rch.step (st' := T.setTop (mkF m 42 #[.val (.long vj0), .second, .val (.int vi2)] [(.int (0 : Int32))])) (fun _ hr => XS.iconst X0.here hx rfl (hb hby d1_41) hr) ?_
      exact Rch.retN X0 hx (t := .boolean) hret hlk (by simp) (hb hby d1_42) (by decide) (by decide) ⟨rfl, N0, e0⟩
    · rw [if_neg hc2]
      refine Rch.step (st' := T.setTop (mkF m 14 #[.val (.long vj0), .second, .val (.int vi2)] [])) (fun _ hr => XS.ifNo X0.here hx rfl (hb hby d1_11) rfl ((if0 _ _).trans (flt (fun q => hc2 ((lw_gt vj0 (137438952896 : Int64)).mp q))).2.2.1) hr) ?_
      refine Rch.step (st' := T.setTop (mkF m 15 #[.val (.long vj0), .second, .val (.int vi2)] [(.int vi2)])) (fun _ hr => XS.iloadN X0.here hx rfl (hb hby d1_14) rfl hr) ?_
      refine Rch.step (st' := T.setTop (mkF m 16 #[.val (.long vj0), .second, .val (.int vi2)] [(.int (1 : Int32)), (.int vi2)])) (fun _ hr => XS.iconst X0.here hx rfl (hb hby d1_15) hr) ?_
      by_cases hc3 : vi2 < (1 : Int32)
      · rw [if_pos hc3]
        refine Rch.step (st' := T.setTop (mkF m 41 #[.val (.long vj0), .second, .val (.int vi2)] [])) (fun _ hr => XS.icmpYes X0.here hx rfl (pc0 := 16) (pc' := 41) rfl (hb hby d1_16) rfl (tlt hc3).1 (by decide) (by decide) hr) ?_
        refine Rch.step (st' := T.setTop (mkF m 42 #[.val (.long vj0), .second, .val (.int vi2)] [(.int (0 : Int32))])) (fun _ hr => XS.iconst X0.here hx rfl (hb hby d1_41) hr) ?_
        exact Rch.retN X0 hx (t := .boolean) hret hlk (by simp) (hb hby d1_42) (by decide) (by decide) ⟨rfl, N0, e0⟩
      · rw [if_neg hc3]
        refine Rch.step (st' := T.setTop (mkF m 19 #[.val (.long vj0), .second, .val (.int vi2)] [])) (fun _ hr => XS.icmpNo X0.here hx rfl (hb hby d1_16) rfl (flt hc3).1 hr) ?_
        refine Rch.step (st' := T.setTop (mkF m 20 #[.val (.long vj0), .second, .val (.int vi2)] [(.int vi2)])) (fun _ hr => XS.iloadN X0.here hx rfl (hb hby d1_19) rfl hr) ?_
        refine Rch.step (st' := T.setTop (mkF m 22 #[.val (.long vj0), .second, .val (.int vi2)] [(.int (32 : Int32)), (.int vi2)])) (fun _ hr => XS.bipush X0.here hx rfl (hb hby d1_20) hr) ?_
        by_cases hc4 : (32 : Int32) < vi2
        · rw [if_pos hc4]
          refine Rch.step (st' := T.setTop (mkF m 41 #[.val (.long vj0), .second, .val (.int vi2)] [])) (fun _ hr => XS.icmpYes X0.here hx rfl (pc0 := 22) (pc' := 41) rfl (hb hby d1_22) rfl (tlt hc4).2.2.1 (by decide) (by decide) hr) ?_
          refine Rch.step (st' := T.setTop (mkF m 42 #[.val (.long vj0), .second, .val (.int vi2)] [(.int (0 : Int32))])) (fun _ hr => XS.iconst X0.here hx rfl (hb hby d1_41) hr) ?_
          exact Rch.retN X0 hx (t := .boolean) hret hlk (by simp) (hb hby d1_42) (by decide) (by decide) ⟨rfl, N0, e0⟩
        · rw [if_neg hc4]
          refine Rch.step (st' := T.setTop (mkF m 25 #[.val (.long vj0), .second, .val (.int vi2)] [])) (fun _ hr => XS.icmpNo X0.here hx rfl (hb hby d1_22) rfl (flt hc4).2.2.1 hr) ?_
          refine Rch.step (st' := T.setTop (mkF m 26 #[.val (.long vj0), .second, .val (.int vi2)] [(.long vj0)])) (fun _ hr => XS.lloadN X0.here hx rfl (hb hby d1_25) rfl hr) ?_
          refine Rch.step (st' := T.setTop (mkF m 27 #[.val (.long vj0), .second, .val (.int vi2)] [(.int vi2), (.long vj0)])) (fun _ hr => XS.iloadN X0.here hx rfl (hb hby d1_26) rfl hr) ?_
          obtain ⟨_, _, ⟨T5, L5, k5, n5⟩, -, X5, ⟨Lc5, hQ5, l5, y5, z5⟩, st5⟩ := Jvm.LawKit.callS X0 hx (y := (⟨"com/example/vigilant_filter/vigilantfilter/filter/PackedTable", "wordCount", "(JI)J"⟩ : MethodName)) hown (mvT hZ (hw _ (List.mem_of_getElem? (i := 9) rfl))) (mvT hZ (hw _ (List.mem_of_getElem? (i := 10) rfl))) (mvT hZ (hw _ (List.mem_of_getElem? (i := 4) rfl))) (mvT hZ (hw _ (List.mem_of_getElem? (i := 11) rfl))) (by decide) (backOf (W := 0) (rm2 l Z a0 hw [] vj0 vi2 h0 n0 Z0) hZ (hw _ (List.mem_of_getElem? (i := 11) rfl)) (hw _ (List.mem_of_getElem? (i := 4) rfl)) (by decide) (by decide)) (g := (mkF m 27 #[.val (.long vj0), .second, .val (.int vi2)] [(.int vi2), (.long vj0)])) rfl (by rw [hml]; rfl) (argsL := [(.long vj0), (.int vi2)]) (rest := []) (lenOf pd2 rfl) rfl (by show 2 * 0 + _ ≤ _; exact Nat.le_of_eq rfl) (hb hby d1_27) (fun _ _ => ⟨rfl, e0, (by decide : 0 + 0 ≤ _), (by decide : 0 + 0 ≤ _)⟩)
          dsimp only [Pt.U, Pt.locs, Pt.cells, Pt.slots] at X5 l5 y5 z5 st5 hQ5
          subst l5 y5 z5
          obtain ⟨rfl, N5q, e5⟩ := hQ5
          have N5 := Fr.app N0 N5q
          refine Rch.step (st' := T5.setTop (mkF m 30 #[.val (.long vj0), .second, .val (.int vi2)] [(.long (f2_0 vj0 vi2))])) (fun _ hr => st5 _ hr) ?_
          refine Rch.step (st' := T5.setTop (mkF m 33 #[.val (.long vj0), .second, .val (.int vi2)] [(.long (2147483639 : Int64)), (.long (f2_0 vj0 vi2))])) (fun _ hr => X5.ldc2Long hx hown (mvT hZ (hw _ (List.mem_of_getElem? (i := 13) rfl))) (g := (mkF m 30 #[.val (.long vj0), .second, .val (.int vi2)] [(.long (f2_0 vj0 vi2))])) rfl (hb hby d1_30) _ hr) ?_
          refine Rch.step (st' := T5.setTop (mkF m 34 #[.val (.long vj0), .second, .val (.int vi2)] [(.int (lcmpW (f2_0 vj0 vi2) (2147483639 : Int64)))])) (fun _ hr => XS.lcmp X5.here hx rfl (hb hby d1_33) rfl hr) ?_
          by_cases hc6 : (2147483639 : Int64) < (f2_0 vj0 vi2)
          · rw [if_pos hc6]
            refine Rch.step (st' := T5.setTop (mkF m 41 #[.val (.long vj0), .second, .val (.int vi2)] [])) (fun _ hr => XS.ifYes X5.here hx rfl (pc0 := 34) (pc' := 41) rfl (hb hby d1_34) rfl ((if0 _ _).trans (tlt ((lw_gt (f2_0 vj0 vi2) (2147483639 : Int64)).mpr hc6)).2.2.1) (by decide) (by decide) hr) ?_
            refine Rch.step (st' := T5.setTop (mkF m 42 #[.val (.long vj0), .second, .val (.int vi2)] [(.int (0 : Int32))])) (fun _ hr => XS.iconst X5.here hx rfl (hb hby d1_41) hr) ?_
            exact Rch.retN X5 hx (t := .boolean) hret hlk (by simp) (hb hby d1_42) (by decide) (by decide) ⟨rfl, N5, e5⟩
          · rw [if_neg hc6]
            refine Rch.step (st' := T5.setTop (mkF m 37 #[.val (.long vj0), .second, .val (.int vi2)] [])) (fun _ hr => XS.ifNo X5.here hx rfl (hb hby d1_34) rfl ((if0 _ _).trans (flt (fun q => hc6 ((lw_gt (f2_0 vj0 vi2) (2147483639 : Int64)).mp q))).2.2.1) hr) ?_
            refine Rch.step (st' := T5.setTop (mkF m 38 #[.val (.long vj0), .second, .val (.int vi2)] [(.int (1 : Int32))])) (fun _ hr => XS.iconst X5.here hx rfl (hb hby d1_37) hr) ?_
            refine Rch.step (st' := T5.setTop (mkF m 42 #[.val (.long vj0), .second, .val (.int vi2)] [(.int (1 : Int32))])) (fun _ hr => XS.goto X5.here hx rfl (pc0 := 38) (pc' := 42) rfl (hb hby d1_38) (by decide) (by decide) hr) ?_
            exact Rch.retN X5 hx (t := .boolean) hret hlk (by simp) (hb hby d1_42) (by decide) (by decide) ⟨rfl, N5, e5⟩
theorem ef1 (m : MethodId) (x0 : Int64) (x1 : Int32) : entryFrame m #[(.long x0), (.int x1)] 3 = mkF m 0 #[.val (.long x0), .second, .val (.int x1)] [] := by first | (simp [entryFrame, mkF, argsToLocals, Value.category]; done) | rfl
set_option maxRecDepth 65536 in
set_option maxHeartbeats 40000000 in
theorem rm1 (l : Launch) (Z : State) (a0 : Array Value) (hw : ∀ d ∈ tables_1, d.before a0 Z = true) (ws : List Jvm.Cond) (vj0 : Int64) (vi2 : Int32) (h0 : Heap) (n0 : Nat) (Z0 : n0 ≤ h0.size) :
    MetFree l (⟨"com/example/vigilant_filter/vigilantfilter/filter/PackedTable", "fits", "(JI)Z"⟩ : MethodName) (head1 (Jvm.Cond.code (⟨"com/example/vigilant_filter/vigilantfilter/filter/PackedTable", "fits", "(JI)Z"⟩ : MethodName) prog_18_method_3_code 3 (some .boolean) :: ws) ({ frames := 1, cells := 0, slots := 0, locals := 14 } : Room)) (fun a U => a = #[(.long vj0), (.int vi2)] ∧ Z.Warmed39 U.vm ∧ U.heap = h0) (fun _ _ _ _ _ => True) (fun _ U o U' => ∃ v L, o = .returned v ∧ PI (f1_0 vj0 vi2) h0 n0 v U'.heap L ∧ FrameEnd U o U' L ({ frames := 1, cells := 0, slots := 0, locals := 14 } : Room).cells ({ frames := 1, cells := 0, slots := 0, locals := 14 } : Room).slots) := by
  refine MetFree.of_bodySF (plainFor_of_name pn1) hisR ?_
  intro p e s m args below meth c s₁ Bd hml0 hP hK
  obtain ⟨rfl, hZ, hh⟩ := hP
  have hown : s.vm.findClass "com/example/vigilant_filter/vigilantfilter/filter/PackedTable" = some m.cls := findClass_of_methodNamed Bd.named
  have e0 : s₁.heap = h0 := by rw [← hh, Bd.state]; rfl
  obtain ⟨s₂, v, L, h1, h2, h3, h4, h5⟩ := b1_0 (T := s₁) ⟨Stand.of_body Bd, Bd.exec, hZ, hw, Bd.bytes, hml0, hown, Bd.returns, BodyLoose.notSynchronized Bd, e0, Z0, Fr.nil n0⟩ vj0 vi2
  exact ⟨s₂, .returned v, castTop (ef1 m vj0 vi2) h1, h2, h3, v, L, rfl, h4, h5⟩
-- body 0
theorem pn0 : plainName "com/example/vigilant_filter/vigilantfilter/filter/PackedTableFitsPinLaw" = true := by first | (simp [plainName, overriddenIn]; done) | decide +kernel
def f0_137 (vj8 : Int64) (vi10 : Int32) (si0 : Int32) : Int32 := (if (f1_0 vj8 vi10) = si0 then (1 : Int32) else (0 : Int32))
def f0_136 (vj8 : Int64) (vi10 : Int32) : Int32 := (f0_137 vj8 vi10 (0 : Int32))
def f0_100 (vj5 : Int64) (vj8 : Int64) (vi10 : Int32) : Int32 := (if vj8 < (1 : Int64) then (f0_136 vj8 vi10) else (if vi10 < (1 : Int32) then (f0_136 vj8 vi10) else (if (32 : Int32) < vi10 then (f0_136 vj8 vi10) else (if (vj5 / (vi10.toInt64)) < vj8 then (f0_136 vj8 vi10) else (f0_137 vj8 vi10 (1 : Int32))))))
def f0_0 (vj0 : Int64) (vi2 : Int32) (vi3 : Int32) (vi4 : Int32) : Int32 := (if (vi3 &&& (3 : Int32)) = (0 : Int32) then (f0_100 (137438952896 : Int64) vj0 vi2) else (if (vi3 &&& (3 : Int32)) = (1 : Int32) then (f0_100 (137438952896 : Int64) (vj0 &&& (1099511627775 : Int64)) ((vi2 &&& (63 : Int32)) - (8 : Int32))) else (if (vi3 &&& (3 : Int32)) = (2 : Int32) then (f0_100 (137438952896 : Int64) (((137438952896 : Int64) / (((vi2 &&& (31 : Int32)) + (1 : Int32)).toInt64)) + ((vi4 - (vi4 / (5 : Int32)) * (5 : Int32)).toInt64)) ((vi2 &&& (31 : Int32)) + (1 : Int32))) else (f0_100 (137438952896 : Int64) ((vj0 &&& (7 : Int64)) - (3 : Int64)) ((vi2 &&& (63 : Int32)) - (15 : Int32))))))
set_option maxRecDepth 65536 in
set_option maxHeartbeats 40000000 in
theorem b0_137 {p : Program} {l : Launch} {e : Env} {s : State} {m : MethodId} {args : Array Value} {below : List Frame} {meth : Method} {c : Code} {T : State} {locs : List Loc} {Z : State} {a0 : Array Value} {h0 : Heap} {n0 : Nat} (cx : Cx room_1 code 12 "com/example/vigilant_filter/vigilantfilter/filter/PackedTableFitsPinLaw" (some .boolean) p l e s m args below meth c T locs 0 0 Z a0 h0 n0) (vj0 : Int64) (vi2 : Int32) (vi3 : Int32) (vi4 : Int32) (vj5 : Int64) (vi7 : Int32) (vj8 : Int64) (vi10 : Int32) (si0 : Int32) :
    Rch p e below s 0 0 (T.setTop (mkF m 137 #[.val (.long vj0), .second, .val (.int vi2), .val (.int vi3), .val (.int vi4), .val (.long vj5), .second, .val (.int vi7), .val (.long vj8), .second, .val (.int vi10), .unset] [(.int si0)])) (PI (f0_137 vj8 vi10 si0) h0 n0) := by
  obtain ⟨X0, hx, hZ, hw, hby, hml, hown, hret, hlk, e0, Z0, N0⟩ := cx
  unfold f0_137
  refine Rch.step (st' := T.setTop (mkF m 139 #[.val (.long vj0), .second, .val (.int vi2), .val (.int vi3), .val (.int vi4), .val (.long vj5), .second, .val (.int vi7), .val (.long vj8), .second, .val (.int vi10), .val (.int si0)] [])) (fun _ hr => XS.istore X0.here hx rfl (hb hby at_137) rfl (l' := #[.val (.long vj0), .second, .val (.int vi2), .val (.int vi3), .val (.int vi4), .val (.long vj5), .second, .val (.int vi7), .val (.long vj8), .second, .val (.int vi10), .val (.int si0)]) rfl hr) ?_
  refine Rch.step (st' := T.setTop (mkF m 141 #[.val (.long vj0), .second, .val (.int vi2), .val (.int vi3), .val (.int vi4), .val (.long vj5), .second, .val (.int vi7), .val (.long vj8), .second, .val (.int vi10), .val (.int si0)] [(.long vj8)])) (fun _ hr => XS.lload X0.here hx rfl (hb hby at_139) rfl hr) ?_
  refine Rch.step (st' := T.setTop (mkF m 143 #[.val (.long vj0), .second, .val (.int vi2), .val (.int vi3), .val (.int vi4), .val (.long vj5), .second, .val (.int vi7), .val (.long vj8), .second, .val (.int vi10), .val (.int si0)] [(.int vi10), (.long vj8)])) (fun _ hr => XS.iload X0.here hx rfl (hb hby at_141) rfl hr) ?_
  obtain ⟨_, _, ⟨T1, L1, k1, n1⟩, -, X1, ⟨Lc1, hQ1, l1, y1, z1⟩, st1⟩ := Jvm.LawKit.callS X0 hx (y := (⟨"com/example/vigilant_filter/vigilantfilter/filter/PackedTable", "fits", "(JI)Z"⟩ : MethodName)) hown (mvT hZ (hw _ (List.mem_of_getElem? (i := 2) rfl))) (mvT hZ (hw _ (List.mem_of_getElem? (i := 3) rfl))) (mvT hZ (hw _ (List.mem_of_getElem? (i := 4) rfl))) (mvT hZ (hw _ (List.mem_of_getElem? (i := 5) rfl))) (by decide) (backOf (W := 0) (rm1 l Z a0 hw [] vj8 vi10 h0 n0 Z0) hZ (hw _ (List.mem_of_getElem? (i := 5) rfl)) (hw _ (List.mem_of_getElem? (i := 4) rfl)) (by decide) (by decide)) (g := (mkF m 143 #[.val (.long vj0), .second, .val (.int vi2), .val (.int vi3), .val (.int vi4), .val (.long vj5), .second, .val (.int vi7), .val (.long vj8), .second, .val (.int vi10), .val (.int si0)] [(.int vi10), (.long vj8)])) rfl (by rw [hml]; rfl) (argsL := [(.long vj8), (.int vi10)]) (rest := []) (lenOf pd1 rfl) rfl (by show 2 * 0 + _ ≤ _; exact Nat.le_of_eq rfl) (hb hby at_143) (fun _ _ => ⟨rfl, e0, (by decide : 0 + 0 ≤ _), (by decide : 0 + 0 ≤ _)⟩)
  dsimp only [Pt.U, Pt.locs, Pt.cells, Pt.slots] at X1 l1 y1 z1 st1 hQ1
  subst l1 y1 z1
  obtain ⟨rfl, N1q, e1⟩ := hQ1
  have N1 := Fr.app N0 N1q
  refine Rch.step (st' := T1.setTop (mkF m 146 #[.val (.long vj0), .second, .val (.int vi2), .val (.int vi3), .val (.int vi4), .val (.long vj5), .second, .val (.int vi7), .val (.long vj8), .second, .val (.int vi10), .val (.int si0)] [(.int (f1_0 vj8 vi10))])) (fun _ hr => st1 _ hr) ?_
  refine Rch.step (st' := T1.setTop (mkF m 148 #[.val (.long vj0), .second, .val (.int vi2), .val (.int vi3), .val (.int vi4), .val (.long vj5), .second, .val (.int vi7), .val (.long vj8), .second, .val (.int vi10), .val (.int si0)] [(.int si0), (.int (f1_0 vj8 vi10))])) (fun _ hr => XS.iload X1.here hx rfl (hb hby at_146) rfl hr) ?_
  by_cases hc2 : (f1_0 vj8 vi10) = si0
  · rw [if_pos hc2]
    refine Rch.step (st' := T1.setTop (mkF m 151 #[.val (.long vj0), .second, .val (.int vi2), .val (.int vi3), .val (.int vi4), .val (.long vj5), .second, .val (.int vi7), .val (.long vj8), .second, .val (.int vi10), .val (.int si0)] [])) (fun _ hr => XS.icmpNo X1.here hx rfl (hb hby at_148) rfl (teq hc2).2 hr) ?_
    refine Rch.step (st' := T1.setTop (mkF m 152 #[.val (.long vj0), .second, .val (.int vi2), .val (.int vi3), .val (.int vi4), .val (.long vj5), .second, .val (.int vi7), .val (.long vj8), .second, .val (.int vi10), .val (.int si0)] [(.int (1 : Int32))])) (fun _ hr => XS.iconst X1.here hx rfl (hb hby at_151) hr) ?_
    refine Rch.step (st' := T1.setTop (mkF m 156 #[.val (.long vj0), .second, .val (.int vi2), .val (.int vi3), .val (.int vi4), .val (.long vj5), .second, .val (.int vi7), .val (.long vj8), .second, .val (.int vi10), .val (.int si0)] [(.int (1 : Int32))])) (fun _ hr => XS.goto X1.here hx rfl (pc0 := 152) (pc' := 156) rfl (hb hby at_152) (by decide) (by decide) hr) ?_
    exact Rch.retN X1 hx (t := .boolean) hret hlk (by simp) (hb hby at_156) (by decide) (by decide) ⟨rfl, N1, e1⟩
  · rw [if_neg hc2]
    refine Rch.step (st' := T1.setTop (mkF m 155 #[.val (.long vj0), .second, .val (.int vi2), .val (.int vi3), .val (.int vi4), .val (.long vj5), .second, .val (.int vi7), .val (.long vj8), .second, .val (.int vi10), .val (.int si0)] [])) (fun _ hr => XS.icmpYes X1.here hx rfl (pc0 := 148) (pc' := 155) rfl (hb hby at_148) rfl (feq hc2).2 (by decide) (by decide) hr) ?_
    refine Rch.step (st' := T1.setTop (mkF m 156 #[.val (.long vj0), .second, .val (.int vi2), .val (.int vi3), .val (.int vi4), .val (.long vj5), .second, .val (.int vi7), .val (.long vj8), .second, .val (.int vi10), .val (.int si0)] [(.int (0 : Int32))])) (fun _ hr => XS.iconst X1.here hx rfl (hb hby at_155) hr) ?_
    exact Rch.retN X1 hx (t := .boolean) hret hlk (by simp) (hb hby at_156) (by decide) (by decide) ⟨rfl, N1, e1⟩
set_option maxRecDepth 65536 in
set_option maxHeartbeats 40000000 in
theorem b0_136 {p : Program} {l : Launch} {e : Env} {s : State} {m : MethodId} {args : Array Value} {below : List Frame} {meth : Method} {c : Code} {T : State} {locs : List Loc} {Z : State} {a0 : Array Value} {h0 : Heap} {n0 : Nat} (cx : Cx room_1 code 12 "com/example/vigilant_filter/vigilantfilter/filter/PackedTableFitsPinLaw" (some .boolean) p l e s m args below meth c T locs 0 0 Z a0 h0 n0) (vj0 : Int64) (vi2 : Int32) (vi3 : Int32) (vi4 : Int32) (vj5 : Int64) (vi7 : Int32) (vj8 : Int64) (vi10 : Int32) :
    Rch p e below s 0 0 (T.setTop (mkF m 136 #[.val (.long vj0), .second, .val (.int vi2), .val (.int vi3), .val (.int vi4), .val (.long vj5), .second, .val (.int vi7), .val (.long vj8), .second, .val (.int vi10), .unset] [])) (PI (f0_136 vj8 vi10) h0 n0) := by
  obtain ⟨X0, hx, hZ, hw, hby, hml, hown, hret, hlk, e0, Z0, N0⟩ := cx
  unfold f0_136
  refine Rch.step (st' := T.setTop (mkF m 137 #[.val (.long vj0), .second, .val (.int vi2), .val (.int vi3), .val (.int vi4), .val (.long vj5), .second, .val (.int vi7), .val (.long vj8), .second, .val (.int vi10), .unset] [(.int (0 : Int32))])) (fun _ hr => XS.iconst X0.here hx rfl (hb hby at_136) hr) ?_
  exact b0_137 ⟨X0, hx, hZ, hw, hby, hml, hown, hret, hlk, e0, Z0, N0⟩ vj0 vi2 vi3 vi4 vj5 vi7 vj8 vi10 (0 : Int32)
set_option maxRecDepth 65536 in
set_option maxHeartbeats 40000000 in
theorem b0_100 {p : Program} {l : Launch} {e : Env} {s : State} {m : MethodId} {args : Array Value} {below : List Frame} {meth : Method} {c : Code} {T : State} {locs : List Loc} {Z : State} {a0 : Array Value} {h0 : Heap} {n0 : Nat} (cx : Cx room_1 code 12 "com/example/vigilant_filter/vigilantfilter/filter/PackedTableFitsPinLaw" (some .boolean) p l e s m args below meth c T locs 0 0 Z a0 h0 n0) (vj0 : Int64) (vi2 : Int32) (vi3 : Int32) (vi4 : Int32) (vj5 : Int64) (vi7 : Int32) (vj8 : Int64) (vi10 : Int32) :
    Rch p e below s 0 0 (T.setTop (mkF m 100 #[.val (.long vj0), .second, .val (.int vi2), .val (.int vi3), .val (.int vi4), .val (.long vj5), .second, .val (.int vi7), .val (.long vj8), .second, .val (.int vi10), .unset] [])) (PI (f0_100 vj5 vj8 vi10) h0 n0) := by
  obtain ⟨X0, hx, hZ, hw, hby, hml, hown, hret, hlk, e0, Z0, N0⟩ := cx
  unfold f0_100
  refine Rch.step (st' := T.setTop (mkF m 102 #[.val (.long vj0), .second, .val (.int vi2), .val (.int vi3), .val (.int vi4), .val (.long vj5), .second, .val (.int vi7), .val (.long vj8), .second, .val (.int vi10), .unset] [(.long vj8)])) (fun _ hr => XS.lload X0.here hx rfl (hb hby at_100) rfl hr) ?_
  refine Rch.step (st' := T.setTop (mkF m 103 #[.val (.long vj0), .second, .val (.int vi2), .val (.int vi3), .val (.int vi4), .val (.long vj5), .second, .val (.int vi7), .val (.long vj8), .second, .val (.int vi10), .unset] [(.long (1 : Int64)), (.long vj8)])) (fun _ hr => XS.lconst X0.here hx rfl (hb hby at_102) hr) ?_
  refine Rch.step (st' := T.setTop (mkF m 104 #[.val (.long vj0), .second, .val (.int vi2), .val (.int vi3), .val (.int vi4), .val (.long vj5), .second, .val (.int vi7), .val (.long vj8), .second, .val (.int vi10), .unset] [(.int (lcmpW vj8 (1 : Int64)))])) (fun _ hr => XS.lcmp X0.here hx rfl (hb hby at_103) rfl hr) ?_
  by_cases hc1 : vj8 < (1 : Int64)
  · rw [if_pos hc1]
    refine Rch.step (st' := T.setTop (mkF m 136 #[.val (.long vj0), .second, .val (.int vi2), .val (.int vi3), .val (.int vi4), .val (.long vj5), .second, .val (.int vi7), .val (.long vj8), .second, .val (.int vi10), .unset] [])) (fun _ hr => XS.ifYes X0.here hx rfl (pc0 := 104) (pc' := 136) rfl (hb hby at_104) rfl ((if0 _ _).trans (tlt ((lw_lt vj8 (1 : Int64)).mpr hc1)).1) (by decide) (by decide) hr) ?_
    exact b0_136 ⟨X0, hx, hZ, hw, hby, hml, hown, hret, hlk, e0, Z0, N0⟩ vj0 vi2 vi3 vi4 vj5 vi7 vj8 vi10
  · rw [if_neg hc1]
    refine Rch.step (st' := T.setTop (mkF m 107 #[.val (.long vj0), .second, .val (.int vi2), .val (.int vi3), .val (.int vi4), .val (.long vj5), .second, .val (.int vi7), .val (.long vj8), .second, .val (.int vi10), .unset] [])) (fun _ hr => XS.ifNo X0.here hx rfl (hb hby at_104) rfl ((if0 _ _).trans (flt (fun q => hc1 ((lw_lt vj8 (1 : Int64)).mp q))).1) hr) ?_
    refine Rch.step (st' := T.setTop (mkF m 109 #[.val (.long vj0), .second, .val (.int vi2), .val (.int vi3), .val (.int vi4), .val (.long vj5), .second, .val (.int vi7), .val (.long vj8), .second, .val (.int vi10), .unset] [(.int vi10)])) (fun _ hr => XS.iload X0.here hx rfl (hb hby at_107) rfl hr) ?_
    refine Rch.step (st' := T.setTop (mkF m 110 #[.val (.long vj0), .second, .val (.int vi2), .val (.int vi3), .val (.int vi4), .val (.long vj5), .second, .val (.int vi7), .val (.long vj8), .second, .val (.int vi10), .unset] [(.int (1 : Int32)), (.int vi10)])) (fun _ hr => XS.iconst X0.here hx rfl (hb hby at_109) hr) ?_
    by_cases hc2 : vi10 < (1 : Int32)
    · rw [if_pos hc2]
      refine Rch.step (st' := T.setTop (mkF m 136 #[.val (.long vj0), .second, .val (.int vi2), .val (.int vi3), .val (.int vi4), .val (.long vj5), .second, .val (.int vi7), .val (.long vj8), .second, .val (.int vi10), .unset] [])) (fun _ hr => XS.icmpYes X0.here hx rfl (pc0 := 110) (pc' := 136) rfl (hb hby at_110) rfl (tlt hc2).1 (by decide) (by decide) hr) ?_
      exact b0_136 ⟨X0, hx, hZ, hw, hby, hml, hown, hret, hlk, e0, Z0, N0⟩ vj0 vi2 vi3 vi4 vj5 vi7 vj8 vi10
    · rw [if_neg hc2]
      refine Rch.step (st' := T.setTop (mkF m 113 #[.val (.long vj0), .second, .val (.int vi2), .val (.int vi3), .val (.int vi4), .val (.long vj5), .second, .val (.int vi7), .val (.long vj8), .second, .val (.int vi10), .unset] [])) (fun _ hr => XS.icmpNo X0.here hx rfl (hb hby at_110) rfl (flt hc2).1 hr) ?_
      refine Rch.step (st' := T.setTop (mkF m 115 #[.val (.long vj0), .second, .val (.int vi2), .val (.int vi3), .val (.int vi4), .val (.long vj5), .second, .val (.int vi7), .val (.long vj8), .second, .val (.int vi10), .unset] [(.int vi10)])) (fun _ hr => XS.iload X0.here hx rfl (hb hby at_113) rfl hr) ?_
      refine Rch.step (st' := T.setTop (mkF m 117 #[.val (.long vj0), .second, .val (.int vi2), .val (.int vi3), .val (.int vi4), .val (.long vj5), .second, .val (.int vi7), .val (.long vj8), .second, .val (.int vi10), .unset] [(.int (32 : Int32)), (.int vi10)])) (fun _ hr => XS.bipush X0.here hx rfl (hb hby at_115) hr) ?_
      by_cases hc3 : (32 : Int32) < vi10
      · rw [if_pos hc3]
        refine Rch.step (st' := T.setTop (mkF m 136 #[.val (.long vj0), .second, .val (.int vi2), .val (.int vi3), .val (.int vi4), .val (.long vj5), .second, .val (.int vi7), .val (.long vj8), .second, .val (.int vi10), .unset] [])) (fun _ hr => XS.icmpYes X0.here hx rfl (pc0 := 117) (pc' := 136) rfl (hb hby at_117) rfl (tlt hc3).2.2.1 (by decide) (by decide) hr) ?_
        exact b0_136 ⟨X0, hx, hZ, hw, hby, hml, hown, hret, hlk, e0, Z0, N0⟩ vj0 vi2 vi3 vi4 vj5 vi7 vj8 vi10
      · rw [if_neg hc3]
        refine Rch.step (st' := T.setTop (mkF m 120 #[.val (.long vj0), .second, .val (.int vi2), .val (.int vi3), .val (.int vi4), .val (.long vj5), .second, .val (.int vi7), .val (.long vj8), .second, .val (.int vi10), .unset] [])) (fun _ hr => XS.icmpNo X0.here hx rfl (hb hby at_117) rfl (flt hc3).2.2.1 hr) ?_
        refine Rch.step (st' := T.setTop (mkF m 122 #[.val (.long vj0), .second, .val (.int vi2), .val (.int vi3), .val (.int vi4), .val (.long vj5), .second, .val (.int vi7), .val (.long vj8), .second, .val (.int vi10), .unset] [(.long vj8)])) (fun _ hr => XS.lload X0.here hx rfl (hb hby at_120) rfl hr) ?_
        refine Rch.step (st' := T.setTop (mkF m 124 #[.val (.long vj0), .second, .val (.int vi2), .val (.int vi3), .val (.int vi4), .val (.long vj5), .second, .val (.int vi7), .val (.long vj8), .second, .val (.int vi10), .unset] [(.long vj5), (.long vj8)])) (fun _ hr => XS.lload X0.here hx rfl (hb hby at_122) rfl hr) ?_
        refine Rch.step (st' := T.setTop (mkF m 126 #[.val (.long vj0), .second, .val (.int vi2), .val (.int vi3), .val (.int vi4), .val (.long vj5), .second, .val (.int vi7), .val (.long vj8), .second, .val (.int vi10), .unset] [(.int vi10), (.long vj5), (.long vj8)])) (fun _ hr => XS.iload X0.here hx rfl (hb hby at_124) rfl hr) ?_
        refine Rch.step (st' := T.setTop (mkF m 127 #[.val (.long vj0), .second, .val (.int vi2), .val (.int vi3), .val (.int vi4), .val (.long vj5), .second, .val (.int vi7), .val (.long vj8), .second, .val (.int vi10), .unset] [(.long (vi10.toInt64)), (.long vj5), (.long vj8)])) (fun _ hr => XS.i2l X0.here hx rfl (hb hby at_126) rfl hr) ?_
        refine Rch.step (st' := T.setTop (mkF m 128 #[.val (.long vj0), .second, .val (.int vi2), .val (.int vi3), .val (.int vi4), .val (.long vj5), .second, .val (.int vi7), .val (.long vj8), .second, .val (.int vi10), .unset] [(.long (vj5 / (vi10.toInt64))), (.long vj8)])) (fun _ hr => XS.ldiv X0.here hx rfl (hb hby at_127) rfl (own_nz (by assumption)) hr) ?_
        refine Rch.step (st' := T.setTop (mkF m 129 #[.val (.long vj0), .second, .val (.int vi2), .val (.int vi3), .val (.int vi4), .val (.long vj5), .second, .val (.int vi7), .val (.long vj8), .second, .val (.int vi10), .unset] [(.int (lcmpW vj8 (vj5 / (vi10.toInt64))))])) (fun _ hr => XS.lcmp X0.here hx rfl (hb hby at_128) rfl hr) ?_
        by_cases hc4 : (vj5 / (vi10.toInt64)) < vj8
        · rw [if_pos hc4]
          refine Rch.step (st' := T.setTop (mkF m 136 #[.val (.long vj0), .second, .val (.int vi2), .val (.int vi3), .val (.int vi4), .val (.long vj5), .second, .val (.int vi7), .val (.long vj8), .second, .val (.int vi10), .unset] [])) (fun _ hr => XS.ifYes X0.here hx rfl (pc0 := 129) (pc' := 136) rfl (hb hby at_129) rfl ((if0 _ _).trans (tlt ((lw_gt vj8 (vj5 / (vi10.toInt64))).mpr hc4)).2.2.1) (by decide) (by decide) hr) ?_
          exact b0_136 ⟨X0, hx, hZ, hw, hby, hml, hown, hret, hlk, e0, Z0, N0⟩ vj0 vi2 vi3 vi4 vj5 vi7 vj8 vi10
        · rw [if_neg hc4]
          refine Rch.step (st' := T.setTop (mkF m 132 #[.val (.long vj0), .second, .val (.int vi2), .val (.int vi3), .val (.int vi4), .val (.long vj5), .second, .val (.int vi7), .val (.long vj8), .second, .val (.int vi10), .unset] [])) (fun _ hr => XS.ifNo X0.here hx rfl (hb hby at_129) rfl ((if0 _ _).trans (flt (fun q => hc4 ((lw_gt vj8 (vj5 / (vi10.toInt64))).mp q))).2.2.1) hr) ?_
          refine Rch.step (st' := T.setTop (mkF m 133 #[.val (.long vj0), .second, .val (.int vi2), .val (.int vi3), .val (.int vi4), .val (.long vj5), .second, .val (.int vi7), .val (.long vj8), .second, .val (.int vi10), .unset] [(.int (1 : Int32))])) (fun _ hr => XS.iconst X0.here hx rfl (hb hby at_132) hr) ?_
          refine Rch.step (st' := T.setTop (mkF m 137 #[.val (.long vj0), .second, .val (.int vi2), .val (.int vi3), .val (.int vi4), .val (.long vj5), .second, .val (.int vi7), .val (.long vj8), .second, .val (.int vi10), .unset] [(.int (1 : Int32))])) (fun _ hr => XS.goto X0.here hx rfl (pc0 := 133) (pc' := 137) rfl (hb hby at_133) (by decide) (by decide) hr) ?_
          exact b0_137 ⟨X0, hx, hZ, hw, hby, hml, hown, hret, hlk, e0, Z0, N0⟩ vj0 vi2 vi3 vi4 vj5 vi7 vj8 vi10 (1 : Int32)
set_option maxRecDepth 65536 in
set_option maxHeartbeats 40000000 in
theorem b0_0 {p : Program} {l : Launch} {e : Env} {s : State} {m : MethodId} {args : Array Value} {below : List Frame} {meth : Method} {c : Code} {T : State} {locs : List Loc} {Z : State} {a0 : Array Value} {h0 : Heap} {n0 : Nat} (cx : Cx room_1 code 12 "com/example/vigilant_filter/vigilantfilter/filter/PackedTableFitsPinLaw" (some .boolean) p l e s m args below meth c T locs 0 0 Z a0 h0 n0) (vj0 : Int64) (vi2 : Int32) (vi3 : Int32) (vi4 : Int32) :
    Rch p e below s 0 0 (T.setTop (mkF m 0 #[.val (.long vj0), .second, .val (.int vi2), .val (.int vi3), .val (.int vi4), .unset, .unset, .unset, .unset, .unset, .unset, .unset] [])) (PI (f0_0 vj0 vi2 vi3 vi4) h0 n0) := by
  obtain ⟨X0, hx, hZ, hw, hby, hml, hown, hret, hlk, e0, Z0, N0⟩ := cx
  unfold f0_0
  refine Rch.step (st' := T.setTop (mkF m 3 #[.val (.long vj0), .second, .val (.int vi2), .val (.int vi3), .val (.int vi4), .unset, .unset, .unset, .unset, .unset, .unset, .unset] [(.long (137438952896 : Int64))])) (fun _ hr => X0.ldc2Long hx hown (mvT hZ (hw _ (List.mem_of_getElem? (i := 0) rfl))) (g := (mkF m 0 #[.val (.long vj0), .second, .val (.int vi2), .val (.int vi3), .val (.int vi4), .unset, .unset, .unset, .unset, .unset, .unset, .unset] [])) rfl (hb hby at_0) _ hr) ?_
  refine Rch.step (st' := T.setTop (mkF m 5 #[.val (.long vj0), .second, .val (.int vi2), .val (.int vi3), .val (.int vi4), .val (.long (137438952896 : Int64)), .second, .unset, .unset, .unset, .unset, .unset] [])) (fun _ hr => XS.lstore X0.here hx rfl (hb hby at_3) rfl (l' := #[.val (.long vj0), .second, .val (.int vi2), .val (.int vi3), .val (.int vi4), .val (.long (137438952896 : Int64)), .second, .unset, .unset, .unset, .unset, .unset]) rfl hr) ?_
  refine Rch.step (st' := T.setTop (mkF m 6 #[.val (.long vj0), .second, .val (.int vi2), .val (.int vi3), .val (.int vi4), .val (.long (137438952896 : Int64)), .second, .unset, .unset, .unset, .unset, .unset] [(.int vi3)])) (fun _ hr => XS.iloadN X0.here hx rfl (hb hby at_5) rfl hr) ?_
  refine Rch.step (st' := T.setTop (mkF m 7 #[.val (.long vj0), .second, .val (.int vi2), .val (.int vi3), .val (.int vi4), .val (.long (137438952896 : Int64)), .second, .unset, .unset, .unset, .unset, .unset] [(.int (3 : Int32)), (.int vi3)])) (fun _ hr => XS.iconst X0.here hx rfl (hb hby at_6) hr) ?_
  refine Rch.step (st' := T.setTop (mkF m 8 #[.val (.long vj0), .second, .val (.int vi2), .val (.int vi3), .val (.int vi4), .val (.long (137438952896 : Int64)), .second, .unset, .unset, .unset, .unset, .unset] [(.int (vi3 &&& (3 : Int32)))])) (fun _ hr => XS.iand X0.here hx rfl (hb hby at_7) rfl hr) ?_
  refine Rch.step (st' := T.setTop (mkF m 10 #[.val (.long vj0), .second, .val (.int vi2), .val (.int vi3), .val (.int vi4), .val (.long (137438952896 : Int64)), .second, .val (.int (vi3 &&& (3 : Int32))), .unset, .unset, .unset, .unset] [])) (fun _ hr => XS.istore X0.here hx rfl (hb hby at_8) rfl (l' := #[.val (.long vj0), .second, .val (.int vi2), .val (.int vi3), .val (.int vi4), .val (.long (137438952896 : Int64)), .second, .val (.int (vi3 &&& (3 : Int32))), .unset, .unset, .unset, .unset]) rfl hr) ?_
  refine Rch.step (st' := T.setTop (mkF m 12 #[.val (.long vj0), .second, .val (.int vi2), .val (.int vi3), .val (.int vi4), .val (.long (137438952896 : Int64)), .second, .val (.int (vi3 &&& (3 : Int32))), .unset, .unset, .unset, .unset] [(.int (vi3 &&& (3 : Int32)))])) (fun _ hr => XS.iload X0.here hx rfl (hb hby at_10) rfl hr) ?_
  by_cases hc1 : (vi3 &&& (3 : Int32)) = (0 : Int32)
  · rw [if_pos hc1]
    refine Rch.step (st' := T.setTop (mkF m 15 #[.val (.long vj0), .second, .val (.int vi2), .val (.int vi3), .val (.int vi4), .val (.long (137438952896 : Int64)), .second, .val (.int (vi3 &&& (3 : Int32))), .unset, .unset, .unset, .unset] [])) (fun _ hr => XS.ifNo X0.here hx rfl (hb hby at_12) rfl ((if0 _ _).trans (teq hc1).2) hr) ?_
    refine Rch.step (st' := T.setTop (mkF m 16 #[.val (.long vj0), .second, .val (.int vi2), .val (.int vi3), .val (.int vi4), .val (.long (137438952896 : Int64)), .second, .val (.int (vi3 &&& (3 : Int32))), .unset, .unset, .unset, .unset] [(.long vj0)])) (fun _ hr => XS.lloadN X0.here hx rfl (hb hby at_15) rfl hr) ?_
    refine Rch.step (st' := T.setTop (mkF m 18 #[.val (.long vj0), .second, .val (.int vi2), .val (.int vi3), .val (.int vi4), .val (.long (137438952896 : Int64)), .second, .val (.int (vi3 &&& (3 : Int32))), .val (.long vj0), .second, .unset, .unset] [])) (fun _ hr => XS.lstore X0.here hx rfl (hb hby at_16) rfl (l' := #[.val (.long vj0), .second, .val (.int vi2), .val (.int vi3), .val (.int vi4), .val (.long (137438952896 : Int64)), .second, .val (.int (vi3 &&& (3 : Int32))), .val (.long vj0), .second, .unset, .unset]) rfl hr) ?_
    refine Rch.step (st' := T.setTop (mkF m 19 #[.val (.long vj0), .second, .val (.int vi2), .val (.int vi3), .val (.int vi4), .val (.long (137438952896 : Int64)), .second, .val (.int (vi3 &&& (3 : Int32))), .val (.long vj0), .second, .unset, .unset] [(.int vi2)])) (fun _ hr => XS.iloadN X0.here hx rfl (hb hby at_18) rfl hr) ?_
    refine Rch.step (st' := T.setTop (mkF m 21 #[.val (.long vj0), .second, .val (.int vi2), .val (.int vi3), .val (.int vi4), .val (.long (137438952896 : Int64)), .second, .val (.int (vi3 &&& (3 : Int32))), .val (.long vj0), .second, .val (.int vi2), .unset] [])) (fun _ hr => XS.istore X0.here hx rfl (hb hby at_19) rfl (l' := #[.val (.long vj0), .second, .val (.int vi2), .val (.int vi3), .val (.int vi4), .val (.long (137438952896 : Int64)), .second, .val (.int (vi3 &&& (3 : Int32))), .val (.long vj0), .second, .val (.int vi2), .unset]) rfl hr) ?_
    refine Rch.step (st' := T.setTop (mkF m 100 #[.val (.long vj0), .second, .val (.int vi2), .val (.int vi3), .val (.int vi4), .val (.long (137438952896 : Int64)), .second, .val (.int (vi3 &&& (3 : Int32))), .val (.long vj0), .second, .val (.int vi2), .unset] [])) (fun _ hr => XS.goto X0.here hx rfl (pc0 := 21) (pc' := 100) rfl (hb hby at_21) (by decide) (by decide) hr) ?_
    exact b0_100 ⟨X0, hx, hZ, hw, hby, hml, hown, hret, hlk, e0, Z0, N0⟩ vj0 vi2 vi3 vi4 (137438952896 : Int64) (vi3 &&& (3 : Int32)) vj0 vi2
  · rw [if_neg hc1]
    refine Rch.step (st' := T.setTop (mkF m 24 #[.val (.long vj0), .second, .val (.int vi2), .val (.int vi3), .val (.int vi4), .val (.long (137438952896 : Int64)), .second, .val (.int (vi3 &&& (3 : Int32))), .unset, .unset, .unset, .unset] [])) (fun _ hr => XS.ifYes X0.here hx rfl (pc0 := 12) (pc' := 24) rfl (hb hby at_12) rfl ((if0 _ _).trans (feq hc1).2) (by decide) (by decide) hr) ?_
    refine Rch.step (st' := T.setTop (mkF m 26 #[.val (.long vj0), .second, .val (.int vi2), .val (.int vi3), .val (.int vi4), .val (.long (137438952896 : Int64)), .second, .val (.int (vi3 &&& (3 : Int32))), .unset, .unset, .unset, .unset] [(.int (vi3 &&& (3 : Int32)))])) (fun _ hr => XS.iload X0.here hx rfl (hb hby at_24) rfl hr) ?_
    refine Rch.step (st' := T.setTop (mkF m 27 #[.val (.long vj0), .second, .val (.int vi2), .val (.int vi3), .val (.int vi4), .val (.long (137438952896 : Int64)), .second, .val (.int (vi3 &&& (3 : Int32))), .unset, .unset, .unset, .unset] [(.int (1 : Int32)), (.int (vi3 &&& (3 : Int32)))])) (fun _ hr => XS.iconst X0.here hx rfl (hb hby at_26) hr) ?_
    by_cases hc2 : (vi3 &&& (3 : Int32)) = (1 : Int32)
    · rw [if_pos hc2]
      refine Rch.step (st' := T.setTop (mkF m 30 #[.val (.long vj0), .second, .val (.int vi2), .val (.int vi3), .val (.int vi4), .val (.long (137438952896 : Int64)), .second, .val (.int (vi3 &&& (3 : Int32))), .unset, .unset, .unset, .unset] [])) (fun _ hr => XS.icmpNo X0.here hx rfl (hb hby at_27) rfl (teq hc2).2 hr) ?_
      refine Rch.step (st' := T.setTop (mkF m 31 #[.val (.long vj0), .second, .val (.int vi2), .val (.int vi3), .val (.int vi4), .val (.long (137438952896 : Int64)), .second, .val (.int (vi3 &&& (3 : Int32))), .unset, .unset, .unset, .unset] [(.long vj0)])) (fun _ hr => XS.lloadN X0.here hx rfl (hb hby at_30) rfl hr) ?_
      refine Rch.step (st' := T.setTop (mkF m 34 #[.val (.long vj0), .second, .val (.int vi2), .val (.int vi3), .val (.int vi4), .val (.long (137438952896 : Int64)), .second, .val (.int (vi3 &&& (3 : Int32))), .unset, .unset, .unset, .unset] [(.long (1099511627775 : Int64)), (.long vj0)])) (fun _ hr => X0.ldc2Long hx hown (mvT hZ (hw _ (List.mem_of_getElem? (i := 1) rfl))) (g := (mkF m 31 #[.val (.long vj0), .second, .val (.int vi2), .val (.int vi3), .val (.int vi4), .val (.long (137438952896 : Int64)), .second, .val (.int (vi3 &&& (3 : Int32))), .unset, .unset, .unset, .unset] [(.long vj0)])) rfl (hb hby at_31) _ hr) ?_
      refine Rch.step (st' := T.setTop (mkF m 35 #[.val (.long vj0), .second, .val (.int vi2), .val (.int vi3), .val (.int vi4), .val (.long (137438952896 : Int64)), .second, .val (.int (vi3 &&& (3 : Int32))), .unset, .unset, .unset, .unset] [(.long (vj0 &&& (1099511627775 : Int64)))])) (fun _ hr => XS.land X0.here hx rfl (hb hby at_34) rfl hr) ?_
      refine Rch.step (st' := T.setTop (mkF m 37 #[.val (.long vj0), .second, .val (.int vi2), .val (.int vi3), .val (.int vi4), .val (.long (137438952896 : Int64)), .second, .val (.int (vi3 &&& (3 : Int32))), .val (.long (vj0 &&& (1099511627775 : Int64))), .second, .unset, .unset] [])) (fun _ hr => XS.lstore X0.here hx rfl (hb hby at_35) rfl (l' := #[.val (.long vj0), .second, .val (.int vi2), .val (.int vi3), .val (.int vi4), .val (.long (137438952896 : Int64)), .second, .val (.int (vi3 &&& (3 : Int32))), .val (.long (vj0 &&& (1099511627775 : Int64))), .second, .unset, .unset]) rfl hr) ?_
      refine Rch.step (st' := T.setTop (mkF m 38 #[.val (.long vj0), .second, .val (.int vi2), .val (.int vi3), .val (.int vi4), .val (.long (137438952896 : Int64)), .second, .val (.int (vi3 &&& (3 : Int32))), .val (.long (vj0 &&& (1099511627775 : Int64))), .second, .unset, .unset] [(.int vi2)])) (fun _ hr => XS.iloadN X0.here hx rfl (hb hby at_37) rfl hr) ?_
      refine Rch.step (st' := T.setTop (mkF m 40 #[.val (.long vj0), .second, .val (.int vi2), .val (.int vi3), .val (.int vi4), .val (.long (137438952896 : Int64)), .second, .val (.int (vi3 &&& (3 : Int32))), .val (.long (vj0 &&& (1099511627775 : Int64))), .second, .unset, .unset] [(.int (63 : Int32)), (.int vi2)])) (fun _ hr => XS.bipush X0.here hx rfl (hb hby at_38) hr) ?_
      refine Rch.step (st' := T.setTop (mkF m 41 #[.val (.long vj0), .second, .val (.int vi2), .val (.int vi3), .val (.int vi4), .val (.long (137438952896 : Int64)), .second, .val (.int (vi3 &&& (3 : Int32))), .val (.long (vj0 &&& (1099511627775 : Int64))), .second, .unset, .unset] [(.int (vi2 &&& (63 : Int32)))])) (fun _ hr => XS.iand X0.here hx rfl (hb hby at_40) rfl hr) ?_
      refine Rch.step (st' := T.setTop (mkF m 43 #[.val (.long vj0), .second, .val (.int vi2), .val (.int vi3), .val (.int vi4), .val (.long (137438952896 : Int64)), .second, .val (.int (vi3 &&& (3 : Int32))), .val (.long (vj0 &&& (1099511627775 : Int64))), .second, .unset, .unset] [(.int (8 : Int32)), (.int (vi2 &&& (63 : Int32)))])) (fun _ hr => XS.bipush X0.here hx rfl (hb hby at_41) hr) ?_
      refine Rch.step (st' := T.setTop (mkF m 44 #[.val (.long vj0), .second, .val (.int vi2), .val (.int vi3), .val (.int vi4), .val (.long (137438952896 : Int64)), .second, .val (.int (vi3 &&& (3 : Int32))), .val (.long (vj0 &&& (1099511627775 : Int64))), .second, .unset, .unset] [(.int ((vi2 &&& (63 : Int32)) - (8 : Int32)))])) (fun _ hr => XS.isub X0.here hx rfl (hb hby at_43) rfl hr) ?_
      refine Rch.step (st' := T.setTop (mkF m 46 #[.val (.long vj0), .second, .val (.int vi2), .val (.int vi3), .val (.int vi4), .val (.long (137438952896 : Int64)), .second, .val (.int (vi3 &&& (3 : Int32))), .val (.long (vj0 &&& (1099511627775 : Int64))), .second, .val (.int ((vi2 &&& (63 : Int32)) - (8 : Int32))), .unset] [])) (fun _ hr => XS.istore X0.here hx rfl (hb hby at_44) rfl (l' := #[.val (.long vj0), .second, .val (.int vi2), .val (.int vi3), .val (.int vi4), .val (.long (137438952896 : Int64)), .second, .val (.int (vi3 &&& (3 : Int32))), .val (.long (vj0 &&& (1099511627775 : Int64))), .second, .val (.int ((vi2 &&& (63 : Int32)) - (8 : Int32))), .unset]) rfl hr) ?_
      refine Rch.step (st' := T.setTop (mkF m 100 #[.val (.long vj0), .second, .val (.int vi2), .val (.int vi3), .val (.int vi4), .val (.long (137438952896 : Int64)), .second, .val (.int (vi3 &&& (3 : Int32))), .val (.long (vj0 &&& (1099511627775 : Int64))), .second, .val (.int ((vi2 &&& (63 : Int32)) - (8 : Int32))), .unset] [])) (fun _ hr => XS.goto X0.here hx rfl (pc0 := 46) (pc' := 100) rfl (hb hby at_46) (by decide) (by decide) hr) ?_
      exact b0_100 ⟨X0, hx, hZ, hw, hby, hml, hown, hret, hlk, e0, Z0, N0⟩ vj0 vi2 vi3 vi4 (137438952896 : Int64) (vi3 &&& (3 : Int32)) (vj0 &&& (1099511627775 : Int64)) ((vi2 &&& (63 : Int32)) - (8 : Int32))
    · rw [if_neg hc2]
      refine Rch.step (st' := T.setTop (mkF m 49 #[.val (.long vj0), .second, .val (.int vi2), .val (.int vi3), .val (.int vi4), .val (.long (137438952896 : Int64)), .second, .val (.int (vi3 &&& (3 : Int32))), .unset, .unset, .unset, .unset] [])) (fun _ hr => XS.icmpYes X0.here hx rfl (pc0 := 27) (pc' := 49) rfl (hb hby at_27) rfl (feq hc2).2 (by decide) (by decide) hr) ?_
      refine Rch.step (st' := T.setTop (mkF m 51 #[.val (.long vj0), .second, .val (.int vi2), .val (.int vi3), .val (.int vi4), .val (.long (137438952896 : Int64)), .second, .val (.int (vi3 &&& (3 : Int32))), .unset, .unset, .unset, .unset] [(.int (vi3 &&& (3 : Int32)))])) (fun _ hr => XS.iload X0.here hx rfl (hb hby at_49) rfl hr) ?_
      refine Rch.step (st' := T.setTop (mkF m 52 #[.val (.long vj0), .second, .val (.int vi2), .val (.int vi3), .val (.int vi4), .val (.long (137438952896 : Int64)), .second, .val (.int (vi3 &&& (3 : Int32))), .unset, .unset, .unset, .unset] [(.int (2 : Int32)), (.int (vi3 &&& (3 : Int32)))])) (fun _ hr => XS.iconst X0.here hx rfl (hb hby at_51) hr) ?_
      by_cases hc3 : (vi3 &&& (3 : Int32)) = (2 : Int32)
      · rw [if_pos hc3]
        refine Rch.step (st' := T.setTop (mkF m 55 #[.val (.long vj0), .second, .val (.int vi2), .val (.int vi3), .val (.int vi4), .val (.long (137438952896 : Int64)), .second, .val (.int (vi3 &&& (3 : Int32))), .unset, .unset, .unset, .unset] [])) (fun _ hr => XS.icmpNo X0.here hx rfl (hb hby at_52) rfl (teq hc3).2 hr) ?_
        refine Rch.step (st' := T.setTop (mkF m 56 #[.val (.long vj0), .second, .val (.int vi2), .val (.int vi3), .val (.int vi4), .val (.long (137438952896 : Int64)), .second, .val (.int (vi3 &&& (3 : Int32))), .unset, .unset, .unset, .unset] [(.int vi2)])) (fun _ hr => XS.iloadN X0.here hx rfl (hb hby at_55) rfl hr) ?_
        refine Rch.step (st' := T.setTop (mkF m 58 #[.val (.long vj0), .second, .val (.int vi2), .val (.int vi3), .val (.int vi4), .val (.long (137438952896 : Int64)), .second, .val (.int (vi3 &&& (3 : Int32))), .unset, .unset, .unset, .unset] [(.int (31 : Int32)), (.int vi2)])) (fun _ hr => XS.bipush X0.here hx rfl (hb hby at_56) hr) ?_
        refine Rch.step (st' := T.setTop (mkF m 59 #[.val (.long vj0), .second, .val (.int vi2), .val (.int vi3), .val (.int vi4), .val (.long (137438952896 : Int64)), .second, .val (.int (vi3 &&& (3 : Int32))), .unset, .unset, .unset, .unset] [(.int (vi2 &&& (31 : Int32)))])) (fun _ hr => XS.iand X0.here hx rfl (hb hby at_58) rfl hr) ?_
        refine Rch.step (st' := T.setTop (mkF m 60 #[.val (.long vj0), .second, .val (.int vi2), .val (.int vi3), .val (.int vi4), .val (.long (137438952896 : Int64)), .second, .val (.int (vi3 &&& (3 : Int32))), .unset, .unset, .unset, .unset] [(.int (1 : Int32)), (.int (vi2 &&& (31 : Int32)))])) (fun _ hr => XS.iconst X0.here hx rfl (hb hby at_59) hr) ?_
        refine Rch.step (st' := T.setTop (mkF m 61 #[.val (.long vj0), .second, .val (.int vi2), .val (.int vi3), .val (.int vi4), .val (.long (137438952896 : Int64)), .second, .val (.int (vi3 &&& (3 : Int32))), .unset, .unset, .unset, .unset] [(.int ((vi2 &&& (31 : Int32)) + (1 : Int32)))])) (fun _ hr => XS.iadd X0.here hx rfl (hb hby at_60) rfl hr) ?_
        refine Rch.step (st' := T.setTop (mkF m 63 #[.val (.long vj0), .second, .val (.int vi2), .val (.int vi3), .val (.int vi4), .val (.long (137438952896 : Int64)), .second, .val (.int (vi3 &&& (3 : Int32))), .unset, .unset, .val (.int ((vi2 &&& (31 : Int32)) + (1 : Int32))), .unset] [])) (fun _ hr => XS.istore X0.here hx rfl (hb hby at_61) rfl (l' := #[.val (.long vj0), .second, .val (.int vi2), .val (.int vi3), .val (.int vi4), .val (.long (137438952896 : Int64)), .second, .val (.int (vi3 &&& (3 : Int32))), .unset, .unset, .val (.int ((vi2 &&& (31 : Int32)) + (1 : Int32))), .unset]) rfl hr) ?_
        refine Rch.step (st' := T.setTop (mkF m 65 #[.val (.long vj0), .second, .val (.int vi2), .val (.int vi3), .val (.int vi4), .val (.long (137438952896 : Int64)), .second, .val (.int (vi3 &&& (3 : Int32))), .unset, .unset, .val (.int ((vi2 &&& (31 : Int32)) + (1 : Int32))), .unset] [(.long (137438952896 : Int64))])) (fun _ hr => XS.lload X0.here hx rfl (hb hby at_63) rfl hr) ?_
        refine Rch.step (st' := T.setTop (mkF m 67 #[.val (.long vj0), .second, .val (.int vi2), .val (.int vi3), .val (.int vi4), .val (.long (137438952896 : Int64)), .second, .val (.int (vi3 &&& (3 : Int32))), .unset, .unset, .val (.int ((vi2 &&& (31 : Int32)) + (1 : Int32))), .unset] [(.int ((vi2 &&& (31 : Int32)) + (1 : Int32))), (.long (137438952896 : Int64))])) (fun _ hr => XS.iload X0.here hx rfl (hb hby at_65) rfl hr) ?_
        refine Rch.step (st' := T.setTop (mkF m 68 #[.val (.long vj0), .second, .val (.int vi2), .val (.int vi3), .val (.int vi4), .val (.long (137438952896 : Int64)), .second, .val (.int (vi3 &&& (3 : Int32))), .unset, .unset, .val (.int ((vi2 &&& (31 : Int32)) + (1 : Int32))), .unset] [(.long (((vi2 &&& (31 : Int32)) + (1 : Int32)).toInt64)), (.long (137438952896 : Int64))])) (fun _ hr => XS.i2l X0.here hx rfl (hb hby at_67) rfl hr) ?_
        refine Rch.step (st' := T.setTop (mkF m 69 #[.val (.long vj0), .second, .val (.int vi2), .val (.int vi3), .val (.int vi4), .val (.long (137438952896 : Int64)), .second, .val (.int (vi3 &&& (3 : Int32))), .unset, .unset, .val (.int ((vi2 &&& (31 : Int32)) + (1 : Int32))), .unset] [(.long ((137438952896 : Int64) / (((vi2 &&& (31 : Int32)) + (1 : Int32)).toInt64)))])) (fun _ hr => XS.ldiv X0.here hx rfl (hb hby at_68) rfl (own_nzb _) hr) ?_
        refine Rch.step (st' := T.setTop (mkF m 71 #[.val (.long vj0), .second, .val (.int vi2), .val (.int vi3), .val (.int vi4), .val (.long (137438952896 : Int64)), .second, .val (.int (vi3 &&& (3 : Int32))), .unset, .unset, .val (.int ((vi2 &&& (31 : Int32)) + (1 : Int32))), .unset] [(.int vi4), (.long ((137438952896 : Int64) / (((vi2 &&& (31 : Int32)) + (1 : Int32)).toInt64)))])) (fun _ hr => XS.iload X0.here hx rfl (hb hby at_69) rfl hr) ?_
        refine Rch.step (st' := T.setTop (mkF m 72 #[.val (.long vj0), .second, .val (.int vi2), .val (.int vi3), .val (.int vi4), .val (.long (137438952896 : Int64)), .second, .val (.int (vi3 &&& (3 : Int32))), .unset, .unset, .val (.int ((vi2 &&& (31 : Int32)) + (1 : Int32))), .unset] [(.int (5 : Int32)), (.int vi4), (.long ((137438952896 : Int64) / (((vi2 &&& (31 : Int32)) + (1 : Int32)).toInt64)))])) (fun _ hr => XS.iconst X0.here hx rfl (hb hby at_71) hr) ?_
        refine Rch.step (st' := T.setTop (mkF m 73 #[.val (.long vj0), .second, .val (.int vi2), .val (.int vi3), .val (.int vi4), .val (.long (137438952896 : Int64)), .second, .val (.int (vi3 &&& (3 : Int32))), .unset, .unset, .val (.int ((vi2 &&& (31 : Int32)) + (1 : Int32))), .unset] [(.int (vi4 - (vi4 / (5 : Int32)) * (5 : Int32))), (.long ((137438952896 : Int64) / (((vi2 &&& (31 : Int32)) + (1 : Int32)).toInt64)))])) (fun _ hr => XS.irem X0.here hx rfl (hb hby at_72) rfl (by decide) hr) ?_
        refine Rch.step (st' := T.setTop (mkF m 74 #[.val (.long vj0), .second, .val (.int vi2), .val (.int vi3), .val (.int vi4), .val (.long (137438952896 : Int64)), .second, .val (.int (vi3 &&& (3 : Int32))), .unset, .unset, .val (.int ((vi2 &&& (31 : Int32)) + (1 : Int32))), .unset] [(.long ((vi4 - (vi4 / (5 : Int32)) * (5 : Int32)).toInt64)), (.long ((137438952896 : Int64) / (((vi2 &&& (31 : Int32)) + (1 : Int32)).toInt64)))])) (fun _ hr => XS.i2l X0.here hx rfl (hb hby at_73) rfl hr) ?_
        refine Rch.step (st' := T.setTop (mkF m 75 #[.val (.long vj0), .second, .val (.int vi2), .val (.int vi3), .val (.int vi4), .val (.long (137438952896 : Int64)), .second, .val (.int (vi3 &&& (3 : Int32))), .unset, .unset, .val (.int ((vi2 &&& (31 : Int32)) + (1 : Int32))), .unset] [(.long (((137438952896 : Int64) / (((vi2 &&& (31 : Int32)) + (1 : Int32)).toInt64)) + ((vi4 - (vi4 / (5 : Int32)) * (5 : Int32)).toInt64)))])) (fun _ hr => XS.ladd X0.here hx rfl (hb hby at_74) rfl hr) ?_
        refine Rch.step (st' := T.setTop (mkF m 77 #[.val (.long vj0), .second, .val (.int vi2), .val (.int vi3), .val (.int vi4), .val (.long (137438952896 : Int64)), .second, .val (.int (vi3 &&& (3 : Int32))), .val (.long (((137438952896 : Int64) / (((vi2 &&& (31 : Int32)) + (1 : Int32)).toInt64)) + ((vi4 - (vi4 / (5 : Int32)) * (5 : Int32)).toInt64))), .second, .val (.int ((vi2 &&& (31 : Int32)) + (1 : Int32))), .unset] [])) (fun _ hr => XS.lstore X0.here hx rfl (hb hby at_75) rfl (l' := #[.val (.long vj0), .second, .val (.int vi2), .val (.int vi3), .val (.int vi4), .val (.long (137438952896 : Int64)), .second, .val (.int (vi3 &&& (3 : Int32))), .val (.long (((137438952896 : Int64) / (((vi2 &&& (31 : Int32)) + (1 : Int32)).toInt64)) + ((vi4 - (vi4 / (5 : Int32)) * (5 : Int32)).toInt64))), .second, .val (.int ((vi2 &&& (31 : Int32)) + (1 : Int32))), .unset]) rfl hr) ?_
        refine Rch.step (st' := T.setTop (mkF m 100 #[.val (.long vj0), .second, .val (.int vi2), .val (.int vi3), .val (.int vi4), .val (.long (137438952896 : Int64)), .second, .val (.int (vi3 &&& (3 : Int32))), .val (.long (((137438952896 : Int64) / (((vi2 &&& (31 : Int32)) + (1 : Int32)).toInt64)) + ((vi4 - (vi4 / (5 : Int32)) * (5 : Int32)).toInt64))), .second, .val (.int ((vi2 &&& (31 : Int32)) + (1 : Int32))), .unset] [])) (fun _ hr => XS.goto X0.here hx rfl (pc0 := 77) (pc' := 100) rfl (hb hby at_77) (by decide) (by decide) hr) ?_
        exact b0_100 ⟨X0, hx, hZ, hw, hby, hml, hown, hret, hlk, e0, Z0, N0⟩ vj0 vi2 vi3 vi4 (137438952896 : Int64) (vi3 &&& (3 : Int32)) (((137438952896 : Int64) / (((vi2 &&& (31 : Int32)) + (1 : Int32)).toInt64)) + ((vi4 - (vi4 / (5 : Int32)) * (5 : Int32)).toInt64)) ((vi2 &&& (31 : Int32)) + (1 : Int32))
      · rw [if_neg hc3]
        refine Rch.step (st' := T.setTop (mkF m 80 #[.val (.long vj0), .second, .val (.int vi2), .val (.int vi3), .val (.int vi4), .val (.long (137438952896 : Int64)), .second, .val (.int (vi3 &&& (3 : Int32))), .unset, .unset, .unset, .unset] [])) (fun _ hr => XS.icmpYes X0.here hx rfl (pc0 := 52) (pc' := 80) rfl (hb hby at_52) rfl (feq hc3).2 (by decide) (by decide) hr) ?_
        refine Rch.step (st' := T.setTop (mkF m 81 #[.val (.long vj0), .second, .val (.int vi2), .val (.int vi3), .val (.int vi4), .val (.long (137438952896 : Int64)), .second, .val (.int (vi3 &&& (3 : Int32))), .unset, .unset, .unset, .unset] [(.long vj0)])) (fun _ hr => XS.lloadN X0.here hx rfl (hb hby at_80) rfl hr) ?_
        refine Rch.step (st' := T.setTop (mkF m 84 #[.val (.long vj0), .second, .val (.int vi2), .val (.int vi3), .val (.int vi4), .val (.long (137438952896 : Int64)), .second, .val (.int (vi3 &&& (3 : Int32))), .unset, .unset, .unset, .unset] [(.long (7 : Int64)), (.long vj0)])) (fun _ hr => X0.ldc2Long hx hown (mvT hZ (hw _ (List.mem_of_getElem? (i := 7) rfl))) (g := (mkF m 81 #[.val (.long vj0), .second, .val (.int vi2), .val (.int vi3), .val (.int vi4), .val (.long (137438952896 : Int64)), .second, .val (.int (vi3 &&& (3 : Int32))), .unset, .unset, .unset, .unset] [(.long vj0)])) rfl (hb hby at_81) _ hr) ?_
        refine Rch.step (st' := T.setTop (mkF m 85 #[.val (.long vj0), .second, .val (.int vi2), .val (.int vi3), .val (.int vi4), .val (.long (137438952896 : Int64)), .second, .val (.int (vi3 &&& (3 : Int32))), .unset, .unset, .unset, .unset] [(.long (vj0 &&& (7 : Int64)))])) (fun _ hr => XS.land X0.here hx rfl (hb hby at_84) rfl hr) ?_
        refine Rch.step (st' := T.setTop (mkF m 88 #[.val (.long vj0), .second, .val (.int vi2), .val (.int vi3), .val (.int vi4), .val (.long (137438952896 : Int64)), .second, .val (.int (vi3 &&& (3 : Int32))), .unset, .unset, .unset, .unset] [(.long (3 : Int64)), (.long (vj0 &&& (7 : Int64)))])) (fun _ hr => X0.ldc2Long hx hown (mvT hZ (hw _ (List.mem_of_getElem? (i := 8) rfl))) (g := (mkF m 85 #[.val (.long vj0), .second, .val (.int vi2), .val (.int vi3), .val (.int vi4), .val (.long (137438952896 : Int64)), .second, .val (.int (vi3 &&& (3 : Int32))), .unset, .unset, .unset, .unset] [(.long (vj0 &&& (7 : Int64)))])) rfl (hb hby at_85) _ hr) ?_
        refine Rch.step (st' := T.setTop (mkF m 89 #[.val (.long vj0), .second, .val (.int vi2), .val (.int vi3), .val (.int vi4), .val (.long (137438952896 : Int64)), .second, .val (.int (vi3 &&& (3 : Int32))), .unset, .unset, .unset, .unset] [(.long ((vj0 &&& (7 : Int64)) - (3 : Int64)))])) (fun _ hr => XS.lsub X0.here hx rfl (hb hby at_88) rfl hr) ?_
        refine Rch.step (st' := T.setTop (mkF m 91 #[.val (.long vj0), .second, .val (.int vi2), .val (.int vi3), .val (.int vi4), .val (.long (137438952896 : Int64)), .second, .val (.int (vi3 &&& (3 : Int32))), .val (.long ((vj0 &&& (7 : Int64)) - (3 : Int64))), .second, .unset, .unset] [])) (fun _ hr => XS.lstore X0.here hx rfl (hb hby at_89) rfl (l' := #[.val (.long vj0), .second, .val (.int vi2), .val (.int vi3), .val (.int vi4), .val (.long (137438952896 : Int64)), .second, .val (.int (vi3 &&& (3 : Int32))), .val (.long ((vj0 &&& (7 : Int64)) - (3 : Int64))), .second, .unset, .unset]) rfl hr) ?_
        refine Rch.step (st' := T.setTop (mkF m 92 #[.val (.long vj0), .second, .val (.int vi2), .val (.int vi3), .val (.int vi4), .val (.long (137438952896 : Int64)), .second, .val (.int (vi3 &&& (3 : Int32))), .val (.long ((vj0 &&& (7 : Int64)) - (3 : Int64))), .second, .unset, .unset] [(.int vi2)])) (fun _ hr => XS.iloadN X0.here hx rfl (hb hby at_91) rfl hr) ?_
        refine Rch.step (st' := T.setTop (mkF m 94 #[.val (.long vj0), .second, .val (.int vi2), .val (.int vi3), .val (.int vi4), .val (.long (137438952896 : Int64)), .second, .val (.int (vi3 &&& (3 : Int32))), .val (.long ((vj0 &&& (7 : Int64)) - (3 : Int64))), .second, .unset, .unset] [(.int (63 : Int32)), (.int vi2)])) (fun _ hr => XS.bipush X0.here hx rfl (hb hby at_92) hr) ?_
        refine Rch.step (st' := T.setTop (mkF m 95 #[.val (.long vj0), .second, .val (.int vi2), .val (.int vi3), .val (.int vi4), .val (.long (137438952896 : Int64)), .second, .val (.int (vi3 &&& (3 : Int32))), .val (.long ((vj0 &&& (7 : Int64)) - (3 : Int64))), .second, .unset, .unset] [(.int (vi2 &&& (63 : Int32)))])) (fun _ hr => XS.iand X0.here hx rfl (hb hby at_94) rfl hr) ?_
        refine Rch.step (st' := T.setTop (mkF m 97 #[.val (.long vj0), .second, .val (.int vi2), .val (.int vi3), .val (.int vi4), .val (.long (137438952896 : Int64)), .second, .val (.int (vi3 &&& (3 : Int32))), .val (.long ((vj0 &&& (7 : Int64)) - (3 : Int64))), .second, .unset, .unset] [(.int (15 : Int32)), (.int (vi2 &&& (63 : Int32)))])) (fun _ hr => XS.bipush X0.here hx rfl (hb hby at_95) hr) ?_
        refine Rch.step (st' := T.setTop (mkF m 98 #[.val (.long vj0), .second, .val (.int vi2), .val (.int vi3), .val (.int vi4), .val (.long (137438952896 : Int64)), .second, .val (.int (vi3 &&& (3 : Int32))), .val (.long ((vj0 &&& (7 : Int64)) - (3 : Int64))), .second, .unset, .unset] [(.int ((vi2 &&& (63 : Int32)) - (15 : Int32)))])) (fun _ hr => XS.isub X0.here hx rfl (hb hby at_97) rfl hr) ?_
        refine Rch.step (st' := T.setTop (mkF m 100 #[.val (.long vj0), .second, .val (.int vi2), .val (.int vi3), .val (.int vi4), .val (.long (137438952896 : Int64)), .second, .val (.int (vi3 &&& (3 : Int32))), .val (.long ((vj0 &&& (7 : Int64)) - (3 : Int64))), .second, .val (.int ((vi2 &&& (63 : Int32)) - (15 : Int32))), .unset] [])) (fun _ hr => XS.istore X0.here hx rfl (hb hby at_98) rfl (l' := #[.val (.long vj0), .second, .val (.int vi2), .val (.int vi3), .val (.int vi4), .val (.long (137438952896 : Int64)), .second, .val (.int (vi3 &&& (3 : Int32))), .val (.long ((vj0 &&& (7 : Int64)) - (3 : Int64))), .second, .val (.int ((vi2 &&& (63 : Int32)) - (15 : Int32))), .unset]) rfl hr) ?_
        exact b0_100 ⟨X0, hx, hZ, hw, hby, hml, hown, hret, hlk, e0, Z0, N0⟩ vj0 vi2 vi3 vi4 (137438952896 : Int64) (vi3 &&& (3 : Int32)) ((vj0 &&& (7 : Int64)) - (3 : Int64)) ((vi2 &&& (63 : Int32)) - (15 : Int32))
theorem ef0 (m : MethodId) (x0 : Int64) (x1 : Int32) (x2 : Int32) (x3 : Int32) : entryFrame m #[(.long x0), (.int x1), (.int x2), (.int x3)] maxLocals = mkF m 0 #[.val (.long x0), .second, .val (.int x1), .val (.int x2), .val (.int x3), .unset, .unset, .unset, .unset, .unset, .unset, .unset] [] := by first | (simp [entryFrame, mkF, argsToLocals, Value.category, maxLocals]; done) | rfl
set_option maxRecDepth 65536 in
set_option maxHeartbeats 40000000 in
theorem rm0 (l : Launch) (Z : State) (a0 : Array Value) (hw : ∀ d ∈ tables_1, d.before a0 Z = true) (ws : List Jvm.Cond) (vj0 : Int64) (vi2 : Int32) (vi3 : Int32) (vi4 : Int32) (h0 : Heap) (n0 : Nat) (Z0 : n0 ≤ h0.size) :
    MetFree l x (head1 (Jvm.Cond.code x code maxLocals ret :: ws) room_1) (fun a U => a = #[(.long vj0), (.int vi2), (.int vi3), (.int vi4)] ∧ Z.Warmed39 U.vm ∧ U.heap = h0) (fun _ _ _ _ _ => True) (fun _ U o U' => ∃ v L, o = .returned v ∧ PI (f0_0 vj0 vi2 vi3 vi4) h0 n0 v U'.heap L ∧ FrameEnd U o U' L room_1.cells room_1.slots) := by
  refine MetFree.of_bodySF (plainFor_of_name pn0) hisR ?_
  intro p e s m args below meth c s₁ Bd hml0 hP hK
  obtain ⟨rfl, hZ, hh⟩ := hP
  have hown : s.vm.findClass "com/example/vigilant_filter/vigilantfilter/filter/PackedTableFitsPinLaw" = some m.cls := findClass_of_methodNamed Bd.named
  have e0 : s₁.heap = h0 := by rw [← hh, Bd.state]; rfl
  obtain ⟨s₂, v, L, h1, h2, h3, h4, h5⟩ := b0_0 (T := s₁) ⟨Stand.of_body Bd, Bd.exec, hZ, hw, Bd.bytes, hml0, hown, Bd.returns, BodyLoose.notSynchronized Bd, e0, Z0, Fr.nil n0⟩ vj0 vi2 vi3 vi4
  exact ⟨s₂, .returned v, castTop (ef0 m vj0 vi2 vi3 vi4) h1, h2, h3, v, L, rfl, h4, h5⟩
theorem own_key (sl : Int64) (b : Int32) : f0_100 137438952896 sl b = 1 := by
  unfold f0_100 f0_136 f0_137 f1_0 f2_0
  simp only [Int32.lt_iff_toInt_lt, Int64.lt_iff_toInt_lt, Int64.reduceToInt, Int32.reduceToInt]
  by_cases h1 : sl.toInt < 1
  · simp only [h1, if_true, if_false, eq_self]
  by_cases h2 : b.toInt < 1
  · simp only [h1, h2, if_true, if_false, ite_self, eq_self]
  by_cases h3 : 32 < b.toInt
  · simp only [h1, h2, h3, if_true, if_false, ite_self, eq_self]
  have hc := c_i2l b
  generalize b.toInt64 = w at *
  have hq := (c_ldiv 137438952896 w w.toInt rfl (fun q => by rw [q] at hc; have : (-1 : Int64).toInt = -1 := by decide
                                                             omega)).1 (by decide)
  rw [show (137438952896 : Int64).toInt = 137438952896 from by decide] at hq
  have hdiv := Int.mul_ediv_add_emod 137438952896 w.toInt
  have hmod0 := Int.emod_nonneg 137438952896 (show w.toInt ≠ 0 by omega)
  have hmod1 := Int.emod_lt_of_pos 137438952896 (show 0 < w.toInt by omega)
  by_cases h4 : 137438952896 < sl.toInt
  · have h5 : (137438952896 / w : Int64).toInt < sl.toInt := by
      rw [hq]
      have := Int.ediv_le_self w.toInt (show (0 : Int) ≤ 137438952896 by decide)
      omega
    simp only [h1, h2, h3, h4, h5, if_true, if_false, eq_self]
  · have hiff : 137438952896 / w.toInt < sl.toInt ↔ 137438952896 < sl.toInt * w.toInt := Int.ediv_lt_iff_lt_mul (by omega)
    have hmul := c_lmul sl w
    have hp0 : 0 ≤ sl.toInt * w.toInt := Int.mul_nonneg (by omega) (by omega)
    have hp1 : sl.toInt * w.toInt ≤ 137438952896 * 32 := Int.mul_le_mul (by omega) (by omega) (by omega) (by omega)
    have hr := rng64 (sl * w)
    generalize sl.toInt * w.toInt = P at *
    generalize sl * w = T at *
    have q1 := c_ladd T 64
    have r1 := rng64 (T + 64)
    rw [show (64 : Int64).toInt = 64 from rfl] at q1
    generalize T + 64 = U at *
    have q2 := c_lsub U 1
    have r2 := rng64 (U - 1)
    rw [show (1 : Int64).toInt = 1 from rfl] at q2
    generalize U - 1 = V at *
    have q3 := (c_ldiv V 64 64 rfl (by decide)).1 (by omega)
    generalize V / 64 = D at *
    rw [hq]
    by_cases h5 : 137438952896 / w.toInt < sl.toInt
    · have h6 := hiff.mp h5
      have h7 : 2147483639 < D.toInt := by omega
      simp only [h1, h2, h3, h4, h5, h7, if_true, if_false, eq_self]
    · have h6 : ¬ 137438952896 < P := fun q => h5 (hiff.mpr q)
      have h7 : ¬ 2147483639 < D.toInt := by omega
      simp only [h1, h2, h3, h4, h5, h7, if_true, if_false, eq_self]
theorem own_law (a : Int64) (b c d : Int32) : f0_0 a b c d = 1 := by
  unfold f0_0
  simp [own_key]
set_option maxRecDepth 65536 in
set_option maxHeartbeats 40000000 in
theorem comes_1 {Post : Tables → Env → Array Value → State → Outcome → State → Prop} (hpost : ∀ tb e args s v u, (limb_1_1.after args s (.returned v) u = true ∧ limb_1_2.after args s (.returned v) u = true ∧ True) → FrameEnd s (.returned v) u (Jvm.fieldLocs frame_1_writes args s ++ Jvm.arrayLocs frame_1_arrays args s ++ Jvm.staticLocs frame_1_statics s) 0 0 → Post tb e args s (.returned v) u) :
    ArmFor flags0 classFile x code maxLocals ret World_1 tables_1 room_1 Calls_1 rest_1 Pre_1 Post := by
  intro l hfl _ _ p e ha hc hk s m args below hf hA hF happ hP
  obtain ⟨hcalls, hrest, hpre⟩ := hP
  obtain ⟨-, -, -, hnamed, -, -, -, hat⟩ := (Spec.applies_iff hf).mp happ
  obtain ⟨hg, hn⟩ := and_e (Cond.before_iff.mp (show (Jvm.Cond.and given_1 narrow_1).before args s = true from hpre))
  obtain ⟨g1, g2⟩ := and_e hg
  obtain ⟨g3, g4⟩ := and_e g2
  obtain ⟨g5, g6⟩ := and_e g4
  obtain ⟨g7, g8⟩ := and_e g6
  obtain ⟨w0, w1, w2, w3, rfl⟩ : ∃ w0 w1 w2 w3 : Value, args = #[w0, w1, w2, w3] := by
    have hs : args.size = 4 := by simpa [Cond.value, given_1] using g1
    obtain ⟨L⟩ := args
    match L, hs with
    | [w0, w1, w2, w3], _ => exact ⟨w0, w1, w2, w3, rfl⟩
  have hw := fun d (hd : d ∈ tables_1) => atoms_spec (ws := Jvm.Cond.code x code maxLocals ret :: tables_1) hat d (List.mem_cons_of_mem _ hd)
  obtain ⟨i0, ei0⟩ := isL_v g3
  obtain rfl : w0 = (.long i0) := Option.some.inj ei0
  obtain ⟨i1, ei1⟩ := is_v g5
  obtain rfl : w1 = (.int i1) := Option.some.inj ei1
  obtain ⟨i2, ei2⟩ := is_v g7
  obtain rfl : w2 = (.int i2) := Option.some.inj ei2
  obtain ⟨i3, ei3⟩ := is_v g8
  obtain rfl : w3 = (.int i3) := Option.some.inj ei3
  obtain ⟨n, o, h1, h2, h3, _, L, rfl, ⟨rfl, N, -⟩, hq⟩ := rm0 l s _ hw tables_1 i0 i1 i2 i3 s.heap s.heap.size (Nat.le_refl _) p e ha hc hk s m _ below hf ((Spec.applies_iff_loose hf).mp happ).1 ⟨rfl, State.Warmed39.refl s, rfl⟩ trivial
  have hlaw := own_law i0 i1 i2 i3
  refine ⟨n, _, h1, h2, h3, hpost _ _ _ _ _ _ ⟨Cond.after_iff.mpr rfl, Cond.after_iff.mpr (eq_i res_at (Term.int_eval (1)) (by rw [hlaw])), trivial⟩ ⟨hq.1, hq.2.1, (hq.2.2.sift fun y hy => Or.inr (N y hy)).mono (by decide) (by decide)⟩⟩
theorem main_1_1 : Claimed_1_1 := comes_1 fun _ _ _ _ _ _ h hF => ⟨h.1, hF⟩
theorem main_1_2 : Claimed_1_2 := comes_1 fun _ _ _ _ _ _ h hF => ⟨h.2.1, hF⟩
end Jvm.Pilot.@@N@@
namespace Jvm.Pilot.@@N@@
open Jvm Jvm.ClassFile Sem Op Lib Jvm.Free Jvm.Stand Jvm.Pilot.@@N@@.Jvm.D
/-! MADE BY PROGRAM (witnessworld.py) out of the Statement's table words and the real class files: 9 classes; the members and pool entries that the words name. The judged class is class 1, her method 1. -/
namespace start1
open Jvm.ClassFile
def u (s : String) : CpInfo := .utf8 (stringToUtf16 s)
/-- a pool by its gaps: so many unusable entries, then the entry; so many at the end -/
def gap : Nat → List CpInfo → List CpInfo
  | 0, r => r
  | n + 1, r => .unusable :: gap n r
def poolList (es : List (Nat × CpInfo)) (last : Nat) : List CpInfo := es.foldr (fun e r => gap e.1 (e.2 :: r)) (gap last [])
def pool (es : List (Nat × CpInfo)) (last : Nat) : Array CpInfo := ⟨poolList es last⟩
def fileOf (pool : Array CpInfo) (this : Nat) (attrs : Array Attribute := #[]) (ms : Array MethodInfo := #[]) (fl : Nat := 33) (sup : Nat := 0) (ifs : Array Nat := #[]) (fds : Array FieldInfo := #[]) : ClassFile where
  minorVersion := 0
  majorVersion := 65
  constantPool := pool
  accessFlags := fl
  thisClass := this
  superClass := sup
  interfaces := ifs
  fields := fds
  methods := ms
  attributes := attrs
def plain (name : String) (sup : Option ClassId) : Class where
  name := name
  kind := .ordinary
  loader := none
  accessFlags := 33
  super := sup
  interfaces := #[]
  cf := none
  fields := #[]
  methods := #[]
  instanceTypes := #[]
  staticTypes := #[]
  resolved := #[]
  callSites := []
  init := .initialized
  statics := none
  mirror := none

def pool0 : Array CpInfo := pool [(5, u "<init>"), (0, u "()V"), (1, .class_ 10), (1, u "java/lang/Object")] 113

def k0m0 : Method := { name := "<init>", desc := "()V", sig := { parameters := [], returnType := none }, accessFlags := 1, code := none }
/-- java/lang/Object -/
def k0 : Class := { plain "java/lang/Object" none with
  accessFlags := 33
  interfaces := #[]
  cf := some (fileOf pool0 8 #[] #[{ accessFlags := 1, nameIndex := 5, descriptorIndex := 6, attributes := #[] }] 33 0 #[] #[])
  fields := #[]
  methods := #[k0m0]
  instanceTypes := #[]
  staticTypes := #[]
  resolved := Array.replicate 124 none
  statics := none }

def pool1 : Array CpInfo := pool [(2, .class_ 4), (1, u "java/lang/Object"), (0, u "<init>"), (0, u "()V"), (0, .long 137438952896), (1, .long 1099511627775), (1, .long 7), (1, .long 3), (1, .methodref 16 17), (0, .class_ 18), (0, .nameAndType 19 20), (0, u "com/example/vigilant_filter/vigilantfilter/filter/PackedTable"), (0, u "fits"), (0, u "(JI)Z"), (0, .class_ 22), (0, u "com/example/vigilant_filter/vigilantfilter/filter/PackedTableFitsPinLaw"), (2, u "law"), (0, u "(JIII)Z")] 3

def k1m0 : Method := { name := "<init>", desc := "()V", sig := { parameters := [], returnType := none }, accessFlags := 1, code := none }
def k1c1 : Code := { maxStack := 6, maxLocals := 12, code := code, exceptionTable := #[], attributes := #[] }
def k1m1 : Method := { name := "law", desc := "(JIII)Z", sig := { parameters := [.long, .int, .int, .int], returnType := some .boolean }, accessFlags := 9, code := some k1c1 }
/-- com/example/vigilant_filter/vigilantfilter/filter/PackedTableFitsPinLaw -/
def k1 : Class := { plain "com/example/vigilant_filter/vigilantfilter/filter/PackedTableFitsPinLaw" (some 0) with
  accessFlags := 49
  interfaces := #[]
  cf := some (fileOf pool1 21 #[] #[{ accessFlags := 1, nameIndex := 5, descriptorIndex := 6, attributes := #[] }, { accessFlags := 9, nameIndex := 25, descriptorIndex := 26, attributes := #[] }] 49 2 #[] #[])
  fields := #[]
  methods := #[k1m0, k1m1]
  instanceTypes := #[]
  staticTypes := #[]
  resolved := Array.replicate 30 none
  statics := none }

def pool2 : Array CpInfo := pool [(3, .class_ 4), (0, u "com/example/vigilant_filter/vigilantfilter/filter/PackedTable"), (11, .class_ 18), (1, u "java/lang/Object"), (3, u "slots"), (0, u "J"), (2, u "bits"), (0, u "I"), (2, u "words"), (0, u "[J"), (0, .long 137438952896), (1, .methodref 3 35), (0, .nameAndType 36 37), (0, u "wordCount"), (0, u "(JI)J"), (0, .long 2147483639), (1, .long 64), (115, u "fits"), (0, u "(JI)Z"), (3, u "MAX_WORDS"), (1, u "MAX_SLOT_BITS"), (1, u "CHUNK_BYTES"), (0, u "CHUNK_WORDS")] 35

def k2c0 : Code := { maxStack := 4, maxLocals := 3, code := prog_18_method_3_code, exceptionTable := #[], attributes := #[] }
def k2m0 : Method := { name := "fits", desc := "(JI)Z", sig := { parameters := [.long, .int], returnType := some .boolean }, accessFlags := 9, code := some k2c0 }
def k2c1 : Code := { maxStack := 4, maxLocals := 3, code := prog_18_method_4_code, exceptionTable := #[], attributes := #[] }
def k2m1 : Method := { name := "wordCount", desc := "(JI)J", sig := { parameters := [.long, .int], returnType := some .long }, accessFlags := 9, code := some k2c1 }
/-- com/example/vigilant_filter/vigilantfilter/filter/PackedTable -/
def k2 : Class := { plain "com/example/vigilant_filter/vigilantfilter/filter/PackedTable" (some 0) with
  accessFlags := 49
  interfaces := #[]
  cf := some (fileOf pool2 3 #[] #[{ accessFlags := 9, nameIndex := 156, descriptorIndex := 157, attributes := #[] }, { accessFlags := 9, nameIndex := 36, descriptorIndex := 37, attributes := #[] }] 49 16 #[] #[{ accessFlags := 25, nameIndex := 161, descriptorIndex := 23, attributes := #[] }, { accessFlags := 25, nameIndex := 163, descriptorIndex := 27, attributes := #[] }, { accessFlags := 26, nameIndex := 165, descriptorIndex := 27, attributes := #[] }, { accessFlags := 26, nameIndex := 166, descriptorIndex := 27, attributes := #[] }, { accessFlags := 18, nameIndex := 22, descriptorIndex := 23, attributes := #[] }, { accessFlags := 18, nameIndex := 26, descriptorIndex := 27, attributes := #[] }, { accessFlags := 18, nameIndex := 30, descriptorIndex := 31, attributes := #[] }])
  fields := #[{ name := "MAX_WORDS", type := .long, accessFlags := 25, slot := 0, constantValue := 0 }, { name := "MAX_SLOT_BITS", type := .int, accessFlags := 25, slot := 1, constantValue := 0 }, { name := "CHUNK_BYTES", type := .int, accessFlags := 26, slot := 2, constantValue := 0 }, { name := "CHUNK_WORDS", type := .int, accessFlags := 26, slot := 3, constantValue := 0 }, { name := "slots", type := .long, accessFlags := 18, slot := 0, constantValue := 0 }, { name := "bits", type := .int, accessFlags := 18, slot := 1, constantValue := 0 }, { name := "words", type := (.array .long), accessFlags := 18, slot := 2, constantValue := 0 }]
  methods := #[k2m0, k2m1]
  instanceTypes := #[.long, .int, (.array .long)]
  staticTypes := #[.long, .int, .int, .int]
  resolved := Array.replicate 202 none
  statics := none }

def pool3 : Array CpInfo := pool [(1, u "java/lang/Cloneable"), (0, .class_ 1), (0, u "java/lang/Object"), (0, .class_ 3)] 3

/-- java/lang/Cloneable -/
def k3 : Class := { plain "java/lang/Cloneable" (some 0) with
  accessFlags := 1537
  interfaces := #[]
  cf := some (fileOf pool3 2 #[] #[] 1537 4 #[] #[])
  fields := #[]
  methods := #[]
  instanceTypes := #[]
  staticTypes := #[]
  resolved := Array.replicate 8 none
  statics := none }

def pool4 : Array CpInfo := pool [(1, u "java/io/Serializable"), (0, .class_ 1), (0, u "java/lang/Object"), (0, .class_ 3)] 3

/-- java/io/Serializable -/
def k4 : Class := { plain "java/io/Serializable" (some 0) with
  accessFlags := 1537
  interfaces := #[]
  cf := some (fileOf pool4 2 #[] #[] 1537 4 #[] #[])
  fields := #[]
  methods := #[]
  instanceTypes := #[]
  staticTypes := #[]
  resolved := Array.replicate 8 none
  statics := none }

/-- the primitive byte -/
def k5 : Class := { plain "byte" none with kind := .primitive 'B', accessFlags := 0x411 }
/-- [B -/
def k6 : Class := { plain "[B" (some 0) with kind := .array 5 .byte, interfaces := #[3, 4], accessFlags := 1041 }

/-- the primitive int -/
def k7 : Class := { plain "int" none with kind := .primitive 'I', accessFlags := 0x411 }
/-- [I -/
def k8 : Class := { plain "[I" (some 0) with kind := .array 7 .int, interfaces := #[3, 4], accessFlags := 1041 }

def heap : Heap := #[]
def classes : Array Class := #[k0, k1, k2, k3, k4, k5, k6, k7, k8]
def interned : List (Array UInt16 × Addr) := []
def slotsUsed : Nat := 0
def theMethod : MethodId := ⟨1, 1⟩
def args0 : Array Value := #[.long 5, .int 7, .int 1, .int 3]
def aboutOver (below : List Frame) : State where
  vm := { classes := classes, interned := interned.toArray }
  heap := heap
  slotsUsed := slotsUsed
  threads := #[{ frames := .invoking theMethod args0 :: below }]
def below0 : List Frame := [.native { method := ⟨0, 0⟩, args := #[] }]
def about1 : State := aboutOver below0
def p0 : Program := .bare "" "" ""
def e0 : Env := launch0.env 0 0 0
theorem w_frames : about1.frames = Frame.invoking theMethod args0 :: below0 := rfl
set_option maxRecDepth 65536 in
theorem w_args : argsFit about1.vm theMethod args0 = true := by decide +kernel
set_option maxRecDepth 65536 in
theorem w_heap : heapFits about1 = true := by decide +kernel
set_option maxRecDepth 65536 in
theorem w_runnable : about1.curStatus? = some .runnable := by decide +kernel
set_option maxRecDepth 65536 in
theorem w_alone : about1.alone = true := by decide +kernel
set_option maxRecDepth 65536 in
theorem w_named : about1.methodNamed? x = some theMethod := by decide +kernel
set_option maxRecDepth 65536 in
theorem w_hears : about1.hears theMethod below0 = true := by decide +kernel
set_option maxRecDepth 65536 in
theorem w_ripe : about1.ripe theMethod args0 below0 = true := by decide +kernel
theorem w_running : about1.status = .running := rfl
set_option maxRecDepth 65536 in
theorem w_room : about1.hasRoom e0.platform room_1 = true :=
  launch0.hasRoom_least _ room_1 (by decide +kernel) (by decide +kernel) (by decide +kernel) (by decide +kernel) (by decide +kernel) (by decide +kernel)
theorem allAtoms_all (ts : List Jvm.Cond) (a : Array Jvm.Value) (st : Jvm.State) : (allAtoms ts).before a st = ts.all (fun c => c.before a st) := by
  induction ts with
  | nil => rfl
  | cons c t ih =>
    show (Jvm.Cond.and c (allAtoms t)).before a st = _
    rw [Jvm.Cond.before_and, ih, List.all_cons]
def words1 : List Jvm.Cond := Jvm.Cond.code x code maxLocals ret :: tables_1
/-- a 'code' word, met by the world's own term for the bytes: nothing is compared byte by byte -/
theorem code_word {y : MethodName} {bytes : ByteArray} {mx : Nat} {rt : Option FieldType} {a : Array Value} {s : State} {m : MethodId} {meth : Method} {c : Code} (h1 : s.methodNamed? y = some m) (h2 : s.vm.method? m = some meth) (h3 : meth.code = some c) (h4 : c.code = bytes)
    (h5 : (c.maxLocals == mx && c.exceptionTable.isEmpty && decide (c.maxStack ≤ mostOperands) && decide (meth.sig.returnType = rt) && !meth.locks && decide (parseMethodDescriptor y.desc = some meth.sig)) = true) : (Jvm.Cond.code y bytes mx rt).before a s = true := by
  simp only [Bool.and_eq_true, beq_iff_eq, Bool.not_eq_true', decide_eq_true_eq] at h5
  obtain ⟨⟨⟨⟨⟨g1, g2⟩, g3⟩, g4⟩, g5⟩, g6⟩ := h5
  simp [Cond.before, Cond.holds, Cond.value, h1, h2, h3, h4, g1, g2, g3, g4, g5, g6]
def isCode : Jvm.Cond → Bool
  | .code _ _ _ _ => true
  | _ => false
theorem all_split {L : List Jvm.Cond} {P : Jvm.Cond → Bool} (h1 : L.all (fun c => isCode c || P c) = true) (h2 : ∀ c ∈ L.filter isCode, P c = true) : L.all P = true := by
  refine List.all_eq_true.mpr fun c hc => ?_
  have h := List.all_eq_true.mp h1 c hc
  rcases Bool.eq_false_or_eq_true (isCode c) with hi | hi
  · exact h2 c (List.mem_filter.mpr ⟨hc, hi⟩)
  · simpa [hi] using h
set_option maxRecDepth 65536 in
theorem w_c0 : (Jvm.Cond.code x code maxLocals ret).before args0 about1 = true := code_word (m := ⟨1, 1⟩) (meth := k1m1) (c := k1c1) (by decide +kernel) rfl rfl rfl (by decide +kernel)
set_option maxRecDepth 65536 in
theorem w_c1 : (Jvm.Cond.code ({ cls := "com/example/vigilant_filter/vigilantfilter/filter/PackedTable", name := "fits", desc := "(JI)Z" } : Jvm.MethodName) prog_18_method_3_code (3 : Nat) (Option.some Jvm.ClassFile.FieldType.boolean)).before args0 about1 = true := code_word (m := ⟨2, 0⟩) (meth := k2m0) (c := k2c0) (by decide +kernel) rfl rfl rfl (by decide +kernel)
set_option maxRecDepth 65536 in
theorem w_c2 : (Jvm.Cond.code ({ cls := "com/example/vigilant_filter/vigilantfilter/filter/PackedTable", name := "wordCount", desc := "(JI)J" } : Jvm.MethodName) prog_18_method_4_code (3 : Nat) (Option.some Jvm.ClassFile.FieldType.long)).before args0 about1 = true := code_word (m := ⟨2, 1⟩) (meth := k2m1) (c := k2c1) (by decide +kernel) rfl rfl rfl (by decide +kernel)
def codes1 : List Jvm.Cond := [Jvm.Cond.code x code maxLocals ret, Jvm.Cond.code ({ cls := "com/example/vigilant_filter/vigilantfilter/filter/PackedTable", name := "fits", desc := "(JI)Z" } : Jvm.MethodName) prog_18_method_3_code (3 : Nat) (Option.some Jvm.ClassFile.FieldType.boolean), Jvm.Cond.code ({ cls := "com/example/vigilant_filter/vigilantfilter/filter/PackedTable", name := "wordCount", desc := "(JI)J" } : Jvm.MethodName) prog_18_method_4_code (3 : Nat) (Option.some Jvm.ClassFile.FieldType.long)]
set_option maxRecDepth 65536 in
theorem codes_eq : words1.filter isCode = codes1 := rfl
theorem w_codes : ∀ c ∈ words1.filter isCode, c.before args0 about1 = true := by
  rw [codes_eq]
  intro c hc
  simp only [codes1, List.mem_cons, List.not_mem_nil, or_false] at hc
  rcases hc with rfl | rfl | rfl
  · exact w_c0
  · exact w_c1
  · exact w_c2
set_option maxRecDepth 65536 in
theorem w_t1 : words1.all (fun c => isCode c || c.before args0 about1) = true := by decide +kernel
theorem w_tables : (allAtoms (Jvm.Cond.code x code maxLocals ret :: tables_1)).before args0 about1 = true := by
  rw [allAtoms_all]
  show words1.all (fun c => c.before args0 about1) = true
  refine all_split ?_ w_codes
  rw [w_t1]
set_option maxRecDepth 65536 in
theorem w_case : (Jvm.Cond.and given_1 narrow_1).before args0 about1 = true := by decide +kernel
theorem w_applies : (headSpec (Jvm.Cond.code x code maxLocals ret :: tables_1) room_1).applies x e0.platform about1 = true :=
  (Spec.applies_iff w_frames).mpr ⟨w_running, w_runnable, w_alone, w_named, w_hears, w_ripe, w_room, w_tables⟩
theorem atStart : AtStart classFile x code maxLocals ret World_1 tables_1 room_1 Calls_1 rest_1 Pre_1 launch0 p0 e0 about1 theMethod args0 below0 :=
  ⟨lists_1, trivial, launch0.admits_env _ _ _, launch0.least_env, fairChoices_fair.cas, fairChoices_fair.clock, w_frames, w_args, w_heap, w_applies, trivial, trivial, w_case⟩
end start1
theorem witness_1 : WitnessClaimed_1 := ⟨start1.p0, start1.e0, start1.about1, start1.theMethod, start1.args0, start1.below0, start1.atStart⟩
end Jvm.Pilot.@@N@@
