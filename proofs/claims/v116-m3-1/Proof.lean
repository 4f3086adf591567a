import JvmDerived
import JvmDerived.Pilot.@@N@@Statement
import JvmDerived.Pilot.@@N@@Code
set_option linter.unusedVariables false
set_option linter.unusedSimpArgs false
namespace Jvm.RoadKit
open Sem ClassFile Op Lib Jvm.Stand Jvm.Free Jvm.LawKit
section New
variable {p : Program} {l : Launch} {e : Env} {R : Room} {s : State} {m : MethodId} {args : Array Value} {below : List Frame} {meth : Method} {c : Code} {T : State} {locs : List Loc} {cells slots : Nat}
theorem retI (X : Stand p l e R s m args below meth c T locs cells slots) (hx : p.tables.exec = Jvm.exec) {pc : Nat} {Ls : Array Slot} {z : Int32} {rest : List Value} (hret : meth.sig.returnType = some .int) (hd : decode c.code pc = .ok (.ireturn, 1)) {fs : List Frame}
    (hl : ∀ (f : JFrame) (acts : List Action), f.method = m → f.locked = none → f.entered = [] → (doReturn e (T.setTop f) acts (some (.int z))).1 = T.setFrames fs) : Steps p.tables e below (T.setTop (mkF m pc Ls (.int z :: rest))) (T.setFrames fs) := by
  have hm' : T.vm.method? m = some meth := X.method'
  have hn : narrow .int (.int z) = .int z := rfl
  show Steps p.tables e below (T.setTop { method := m, pc := pc, locals := Ls, stack := _ :: rest, locked := none }) _
  jvm_step X.here [X.here.top, hx, hd, hm', hret, hn]
  first | (intro acts; rw [hl _ acts rfl rfl rfl]) | rw [hl _ _ rfl rfl rfl]
  exact Steps.refl _
end New
end Jvm.RoadKit
namespace Jvm.Pilot.@@N@@
open Jvm Jvm.ClassFile Sem Op Lib Jvm.Free Jvm.Stand Jvm.LawKit Jvm.RoadKit Bundle Jvm.Pilot.@@N@@.Jvm.D

def Rch (p : Program) (e : Env) (below : List Frame) (s : State) (C S : Nat) (st : State) (K : Option Value → Heap → List Loc → Prop) : Prop :=
  ∃ s₂ v L, Steps p.tables e below st s₂ ∧ s₂.status = .running ∧ Ended s₂ below (.returned v) ∧ K v s₂.heap L ∧ FrameEnd s (.returned v) s₂ L C S
section Own
variable {p : Program} {l : Launch} {e : Env} {R : Room} {s : State} {m : MethodId} {args : Array Value} {below : List Frame} {meth : Method} {c : Code} {T : State} {locs : List Loc} {cells slots C S : Nat} {K : Option Value → Heap → List Loc → Prop}
theorem Rch.step {st st' : State} (h : ∀ t, Steps p.tables e below st' t → Steps p.tables e below st t) (k : Rch p e below s C S st' K) : Rch p e below s C S st K := by
  obtain ⟨s₂, v, L, h1, h2⟩ := k
  exact ⟨s₂, v, L, h _ h1, h2⟩
theorem Rch.imp {st : State} {K' : Option Value → Heap → List Loc → Prop} (h : ∀ v hh L, K v hh L → K' v hh L) (k : Rch p e below s C S st K) : Rch p e below s C S st K' := by
  obtain ⟨s₂, v, L, h1, h2, h3, h4, h5⟩ := k
  exact ⟨s₂, v, L, h1, h2, h3, h _ _ _ h4, h5⟩
theorem Rch.retI (X : Stand p l e R s m args below meth c T locs cells slots) (hx : p.tables.exec = Jvm.exec) (hret : meth.sig.returnType = some .int) (hlk : meth.locks = false) {pc : Nat} {Ls : Array Slot} {z : Int32} {rest : List Value} (hd : decode c.code pc = .ok (.ireturn, 1)) (hC : cells ≤ C) (hS : slots ≤ S) (hK : K (some (.int z)) T.heap locs) :
    Rch p e below s C S (T.setTop (mkF m pc Ls (.int z :: rest))) K := by
  obtain ⟨fs, hr, hrun, hended, hW, hsame⟩ := X.leave (v := some (.int z)) (fun h => by rw [hret] at h; cases h) hlk
  exact ⟨_, _, _, Jvm.RoadKit.retI X hx hret hd hr, hrun, hended, hK, ⟨_, rfl⟩, hW, hsame.mono hC hS⟩
theorem Rch.retN (X : Stand p l e R s m args below meth c T locs cells slots) (hx : p.tables.exec = Jvm.exec) {t : FieldType} (hret : meth.sig.returnType = some t) (hlk : meth.locks = false) (ht : t = .boolean ∨ t = .byte ∨ t = .char ∨ t = .short) {pc : Nat} {Ls : Array Slot} {z : Int32} {rest : List Value} (hd : decode c.code pc = .ok (.ireturn, 1)) (hC : cells ≤ C) (hS : slots ≤ S) (hK : K (some (.int (nar t z))) T.heap locs) :
    Rch p e below s C S (T.setTop (mkF m pc Ls (.int z :: rest))) K := by
  obtain ⟨fs, hr, hrun, hended, hW, hsame⟩ := X.leave (v := some (.int (nar t z))) (fun h => by rw [hret] at h; cases h) hlk
  exact ⟨_, _, _, Jvm.RoadKit.retN X hx hret ht hd hr, hrun, hended, hK, ⟨_, rfl⟩, hW, hsame.mono hC hS⟩
theorem Rch.retJ (X : Stand p l e R s m args below meth c T locs cells slots) (hx : p.tables.exec = Jvm.exec) (hret : meth.sig.returnType = some .long) (hlk : meth.locks = false) {pc : Nat} {Ls : Array Slot} {z : Int64} (hd : decode c.code pc = .ok (.lreturn, 1)) (hC : cells ≤ C) (hS : slots ≤ S) (hK : K (some (.long z)) T.heap locs) :
    Rch p e below s C S (T.setTop (mkF m pc Ls [.long z])) K := by
  obtain ⟨fs, hr, hrun, hended, hW, hsame⟩ := X.leave (v := some (.long z)) (fun h => by rw [hret] at h; cases h) hlk
  exact ⟨_, _, _, X.lreturnOut hx hret hd hr, hrun, hended, hK, ⟨_, rfl⟩, hW, hsame.mono hC hS⟩
theorem Rch.retV (X : Stand p l e R s m args below meth c T locs cells slots) (hx : p.tables.exec = Jvm.exec) (hret : meth.sig.returnType = none) (hlk : meth.locks = false) {pc : Nat} {Ls : Array Slot} (hd : decode c.code pc = .ok (.return_, 1)) (hC : cells ≤ C) (hS : slots ≤ S) (hK : K none T.heap locs) :
    Rch p e below s C S (T.setTop (mkF m pc Ls [])) K := by
  obtain ⟨fs, hr, hrun, hended, hW, hsame⟩ := X.leave (v := none) (fun _ => rfl) hlk
  exact ⟨_, _, _, X.returnOut hx hret hd hr, hrun, hended, hK, ⟨_, rfl⟩, hW, hsame.mono hC hS⟩
end Own
def PI (z : Int32) (h0 : Heap) (n0 : Nat) : Option Value → Heap → List Loc → Prop := fun v h L => v = some (.int z) ∧ Fr n0 L ∧ h = h0
def PJ (z : Int64) (h0 : Heap) (n0 : Nat) : Option Value → Heap → List Loc → Prop := fun v h L => v = some (.long z) ∧ Fr n0 L ∧ h = h0
def Cx (R : Room) (bytes : ByteArray) (ml : Nat) (own : String) (rt : Option FieldType) (p : Program) (l : Launch) (e : Env) (s : State) (m : MethodId) (args : Array Value) (below : List Frame) (meth : Method) (c : Code) (T : State) (locs : List Loc) (cells slots : Nat) (Z : State) (a0 : Array Value) (h0 : Heap) (n0 : Nat) : Prop :=
  Stand p l e R s m args below meth c T locs cells slots ∧ p.tables.exec = Jvm.exec ∧ Z.Warmed39 s.vm ∧ (∀ d ∈ tables_1, d.before a0 Z = true) ∧ c.code = bytes ∧ c.maxLocals = ml ∧ s.vm.findClass own = some m.cls ∧ meth.sig.returnType = rt ∧ meth.locks = false ∧ T.heap = h0 ∧ n0 ≤ h0.size ∧ Fr n0 locs
/-! arrays by lists: the whole content, as plain values -/
def Ars {α : Type} (emb : α → Value) (dv : α) (ty : FieldType) (Z : State) (h : Heap) (a : Addr) (n : Int32) (ws : List α) : Prop := ws.length = n.toNatClampNeg ∧ ∃ k, Arv Z h a k ty n (ws.map emb) (emb dv)
abbrev ArJ (Z : State) (h : Heap) (a : Addr) (n : Int32) (ws : List Int64) : Prop := Ars Value.long (0 : Int64) .long Z h a n ws
abbrev ArI (Z : State) (h : Heap) (a : Addr) (n : Int32) (ws : List Int32) : Prop := Ars Value.int (0 : Int32) .int Z h a n ws
abbrev ArB (Z : State) (h : Heap) (a : Addr) (n : Int32) (ws : List Int32) : Prop := Ars Value.int (0 : Int32) .byte Z h a n ws
theorem own_getD {α : Type} (emb : α → Value) (dv : α) : ∀ (ws : List α) (i : Nat), (ws.map emb).getD i (emb dv) = emb (ws.getD i dv)
  | [], i => by simp
  | w :: ws, 0 => by simp
  | w :: ws, i + 1 => by simpa using own_getD emb dv ws i
theorem Ars.ext {α : Type} {emb : α → Value} {dv : α} {ty : FieldType} {Z : State} {h h' : Heap} {a : Addr} {n : Int32} {ws : List α} (V : Ars emb dv ty Z h a n ws) (E : Ext h h') : Ars emb dv ty Z h' a n ws := by
  obtain ⟨hl, k, A⟩ := V
  exact ⟨hl, k, A.ext E⟩
theorem Ars.other {α : Type} {emb : α → Value} {dv : α} {ty : FieldType} {Z : State} {h h' : Heap} {a b : Addr} {n : Int32} {ws : List α} {sl : Nat} {v : Value} (V : Ars emb dv ty Z h a n ws) (W : Wr h h' b sl v) (q : a ≠ b) : Ars emb dv ty Z h' a n ws := by
  obtain ⟨hl, k, A⟩ := V
  exact ⟨hl, k, A.other W q⟩
theorem Ars.keep {α : Type} {emb : α → Value} {dv : α} {ty : FieldType} {Z : State} {h h' : Heap} {a : Addr} {n : Int32} {ws : List α} {us : List Addr} (V : Ars emb dv ty Z h a n ws) (K : Keep h h' us) (q : a ∉ us) : Ars emb dv ty Z h' a n ws := by
  obtain ⟨hl, k, A⟩ := V
  exact ⟨hl, k, A.keep K q⟩
theorem Ars.lt {α : Type} {emb : α → Value} {dv : α} {ty : FieldType} {Z : State} {h : Heap} {a : Addr} {n : Int32} {ws : List α} (V : Ars emb dv ty Z h a n ws) : a < h.size := by
  obtain ⟨hl, k, A⟩ := V
  exact A.lt
theorem Ars.fresh {α : Type} {emb : α → Value} {dv : α} {ty : FieldType} {Z : State} {h : Heap} {a : Addr} {n : Int32} {k : ClassId} (hd : defaultValue ty = emb dv) (A : Arr Z h a (newA k ty n) ty) (q : ¬ n < 0) : Ars emb dv ty Z h a n (List.replicate n.toNatClampNeg dv) := by
  refine ⟨by simp, k, ?_⟩
  have F := Arv.new A q
  rw [hd] at F
  have G := F.pad (pad_rep [] (emb dv) n.toNatClampNeg)
  simpa using G
section OwnArr
variable {p : Program} {l : Launch} {e : Env} {R : Room} {s : State} {m : MethodId} {args : Array Value} {below : List Frame} {meth : Method} {c : Code} {T : State} {locs : List Loc} {cells slots : Nat} {Z : State} {h : Heap}
theorem own_lt {n j : Int32} {k : Nat} (hl : k = n.toNatClampNeg) (h0 : ¬ j < 0) (h1 : j < n) : j.toNatClampNeg < k := by
  rw [Int32.lt_iff_toInt_lt] at h0 h1
  simp only [Int32.reduceToInt] at h0
  rw [hl]
  show j.toInt.toNat < n.toInt.toNat
  omega
theorem lenA {α : Type} {emb : α → Value} {dv : α} {ty : FieldType} {a : Addr} {n : Int32} {ws : List α} (X : Stand p l e R s m args below meth c T locs cells slots) (hx : p.tables.exec = Jvm.exec) (hZ : Z.Warmed39 s.vm) (eT : T.heap = h) (V : Ars emb dv ty Z h a n ws)
    {g : JFrame} (hg : g.method = m) {rest : List Value} (hs : g.stack = .ref a :: rest) (hd : decode c.code g.pc = .ok (.arraylength, 1)) :
    ∀ target, Steps p.tables e below (T.setTop { g with pc := g.pc + 1, stack := .int n :: rest }) target → Steps p.tables e below (T.setTop g) target := by
  obtain ⟨hl, k, cl, Ar, -, S, q3, H, -⟩ := V
  intro target hr
  refine X.arraylength hx (by rw [eT]; exact Ar.1) (State.isArrayOf_alike hZ.alike Ar.2.1) hg hs hd target ?_
  rw [len_of S q3]
  exact hr
theorem ldJ {a : Addr} {n : Int32} {ws : List Int64} (X : Stand p l e R s m args below meth c T locs cells slots) (hx : p.tables.exec = Jvm.exec) (hZ : Z.Warmed39 s.vm) (eT : T.heap = h) (V : ArJ Z h a n ws) {j : Int32} (h0 : ¬ j < 0) (h1 : j < n)
    {g : JFrame} (hg : g.method = m) {rest : List Value} (hs : g.stack = .int j :: .ref a :: rest) (hd : decode c.code g.pc = .ok (.laload, 1)) :
    ∀ target, Steps p.tables e below (T.setTop { g with pc := g.pc + 1, stack := .long (ws.getD j.toNatClampNeg 0) :: rest }) target → Steps p.tables e below (T.setTop g) target := by
  obtain ⟨hl, k, cl, Ar, -, S, q3, H, -⟩ := V
  have hin := inb_of S ⟨h0, h1⟩
  exact X.laload hx (by rw [eT]; exact Ar.1) (State.isArrayOf_alike hZ.alike Ar.2.1) Ar.2.2 hin (H.at hin (own_getD Value.long 0 ws _)) hg hs hd
theorem ldI {a : Addr} {n : Int32} {ws : List Int32} (X : Stand p l e R s m args below meth c T locs cells slots) (hx : p.tables.exec = Jvm.exec) (hZ : Z.Warmed39 s.vm) (eT : T.heap = h) (V : ArI Z h a n ws) {j : Int32} (h0 : ¬ j < 0) (h1 : j < n)
    {g : JFrame} (hg : g.method = m) {rest : List Value} (hs : g.stack = .int j :: .ref a :: rest) (hd : decode c.code g.pc = .ok (.iaload, 1)) :
    ∀ target, Steps p.tables e below (T.setTop { g with pc := g.pc + 1, stack := .int (ws.getD j.toNatClampNeg 0) :: rest }) target → Steps p.tables e below (T.setTop g) target := by
  obtain ⟨hl, k, cl, Ar, -, S, q3, H, -⟩ := V
  have hin := inb_of S ⟨h0, h1⟩
  exact X.iaload hx (by rw [eT]; exact Ar.1) (State.isArrayOf_alike hZ.alike Ar.2.1) Ar.2.2 hin (H.at hin (own_getD Value.int 0 ws _)) hg hs hd
theorem ldB {a : Addr} {n : Int32} {ws : List Int32} (X : Stand p l e R s m args below meth c T locs cells slots) (hx : p.tables.exec = Jvm.exec) (hZ : Z.Warmed39 s.vm) (eT : T.heap = h) (V : ArB Z h a n ws) {j : Int32} (h0 : ¬ j < 0) (h1 : j < n)
    {g : JFrame} (hg : g.method = m) {rest : List Value} (hs : g.stack = .int j :: .ref a :: rest) (hd : decode c.code g.pc = .ok (.baload, 1)) :
    ∀ target, Steps p.tables e below (T.setTop { g with pc := g.pc + 1, stack := .int (ws.getD j.toNatClampNeg 0) :: rest }) target → Steps p.tables e below (T.setTop g) target := by
  obtain ⟨hl, k, cl, Ar, -, S, q3, H, -⟩ := V
  have hin := inb_of S ⟨h0, h1⟩
  exact X.baloadBytes hx (by rw [eT]; exact Ar.1) (State.isArrayOf_alike hZ.alike Ar.2.1) Ar.2.2 hin (H.at hin (own_getD Value.int 0 ws _)) hg hs hd
theorem putJ {a : Addr} {n : Int32} {ws : List Int64} (X : Stand p l e R s m args below meth c T locs cells slots) (hx : p.tables.exec = Jvm.exec) (hZ : Z.Warmed39 s.vm) (eT : T.heap = h) (V : ArJ Z h a n ws) {j : Int32} {x : Int64} (h0 : ¬ j < 0) (h1 : j < n)
    {g : JFrame} (hg : g.method = m) {rest : List Value} (hs : g.stack = .long x :: .int j :: .ref a :: rest) (hd : decode c.code g.pc = .ok (.lastore, 1)) :
    ∃ T' h', Stand p l e R s m args below meth c T' (locs ++ [⟨a, j.toNatClampNeg⟩]) cells slots ∧ T'.heap = h' ∧ Wr h h' a j.toNatClampNeg (.long x) ∧ ArJ Z h' a n (ws.set j.toNatClampNeg x) ∧ ∀ target, Steps p.tables e below (T'.setTop { g with pc := g.pc + 1, stack := rest }) target → Steps p.tables e below (T.setTop g) target := by
  obtain ⟨hl, k, cl, Ar, q1, S, q3, H, G⟩ := V
  have hin := inb_of S ⟨h0, h1⟩
  obtain ⟨T', h', X', e', W, st⟩ := stJ X hx hZ eT Ar hin hg hs hd
  have F := Arv.set Ar q1 S q3 H G rfl W _ rfl (by rw [List.length_map]; exact own_lt hl h0 h1)
  rw [← List.map_set] at F
  exact ⟨T', h', X', e', W, ⟨by rw [List.length_set]; exact hl, k, F⟩, st⟩
theorem putI {a : Addr} {n : Int32} {ws : List Int32} (X : Stand p l e R s m args below meth c T locs cells slots) (hx : p.tables.exec = Jvm.exec) (hZ : Z.Warmed39 s.vm) (eT : T.heap = h) (V : ArI Z h a n ws) {j : Int32} {x : Int32} (h0 : ¬ j < 0) (h1 : j < n)
    {g : JFrame} (hg : g.method = m) {rest : List Value} (hs : g.stack = .int x :: .int j :: .ref a :: rest) (hd : decode c.code g.pc = .ok (.iastore, 1)) :
    ∃ T' h', Stand p l e R s m args below meth c T' (locs ++ [⟨a, j.toNatClampNeg⟩]) cells slots ∧ T'.heap = h' ∧ Wr h h' a j.toNatClampNeg (.int x) ∧ ArI Z h' a n (ws.set j.toNatClampNeg x) ∧ ∀ target, Steps p.tables e below (T'.setTop { g with pc := g.pc + 1, stack := rest }) target → Steps p.tables e below (T.setTop g) target := by
  obtain ⟨hl, k, cl, Ar, q1, S, q3, H, G⟩ := V
  have hin := inb_of S ⟨h0, h1⟩
  obtain ⟨T', h', X', e', W, st⟩ := stI X hx hZ eT Ar hin hg hs hd
  have F := Arv.set Ar q1 S q3 H G rfl W _ rfl (by rw [List.length_map]; exact own_lt hl h0 h1)
  rw [← List.map_set] at F
  exact ⟨T', h', X', e', W, ⟨by rw [List.length_set]; exact hl, k, F⟩, st⟩
theorem putB {a : Addr} {n : Int32} {ws : List Int32} (X : Stand p l e R s m args below meth c T locs cells slots) (hx : p.tables.exec = Jvm.exec) (hZ : Z.Warmed39 s.vm) (eT : T.heap = h) (V : ArB Z h a n ws) {j : Int32} {x : Int32} (h0 : ¬ j < 0) (h1 : j < n)
    {g : JFrame} (hg : g.method = m) {rest : List Value} (hs : g.stack = .int x :: .int j :: .ref a :: rest) (hd : decode c.code g.pc = .ok (.bastore, 1)) :
    ∃ T' h', Stand p l e R s m args below meth c T' (locs ++ [⟨a, j.toNatClampNeg⟩]) cells slots ∧ T'.heap = h' ∧ Wr h h' a j.toNatClampNeg (.int (nar .byte x)) ∧ ArB Z h' a n (ws.set j.toNatClampNeg (nar .byte x)) ∧ ∀ target, Steps p.tables e below (T'.setTop { g with pc := g.pc + 1, stack := rest }) target → Steps p.tables e below (T.setTop g) target := by
  obtain ⟨hl, k, cl, Ar, q1, S, q3, H, G⟩ := V
  have hin := inb_of S ⟨h0, h1⟩
  obtain ⟨T', h', X', e', W, st⟩ := stB X hx hZ eT Ar hin hg hs hd
  have F := Arv.set Ar q1 S q3 H G (fits_nar_byte _) W _ rfl (by rw [List.length_map]; exact own_lt hl h0 h1)
  rw [← List.map_set] at F
  exact ⟨T', h', X', e', W, ⟨by rw [List.length_set]; exact hl, k, F⟩, st⟩
theorem own_up {cells' slots' : Nat} (X : Stand p l e R s m args below meth c T locs cells slots) (h1 : cells ≤ cells') (h2 : slots ≤ slots') : Stand p l e R s m args below meth c T locs cells' slots' :=
  { X with same := X.same.mono h1 h2 }
end OwnArr
def PL (z : Int32) (n0 : Nat) : Option Value → Heap → List Loc → Prop := fun v h L => v = some (.int z) ∧ Fr n0 L
-- body 2
theorem d2_0 : decode jdk_30_method_1_code 0 = .ok (.aload_n 0, 1) := by decide +kernel
theorem d2_1 : decode jdk_30_method_1_code 1 = .ok (.invokespecial 1, 3) := by decide +kernel
theorem d2_4 : decode jdk_30_method_1_code 4 = .ok (.return_, 1) := by decide +kernel
theorem pn2 : plainName "java/lang/Record" = true := by first | (simp [plainName, overriddenIn]; done) | decide +kernel
theorem pd2 : parseMethodDescriptor "()V" = some ⟨[], none⟩ := by decide +kernel
def Q2 (Z : State) (ob : Addr) (h0 : Heap) (n0 : Nat) : Option Value → Heap → List Loc → Prop := fun v h L => v = none ∧ Fr n0 L ∧ Keep h0 h []
set_option maxRecDepth 65536 in
set_option maxHeartbeats 40000000 in
theorem b2_0 {p : Program} {l : Launch} {e : Env} {s : State} {m : MethodId} {args : Array Value} {below : List Frame} {meth : Method} {c : Code} {T : State} {locs : List Loc} {Z : State} {a0 : Array Value} {h0 : Heap} {n0 : Nat} (cx : Cx ({ frames := 1, cells := 0, slots := 0, locals := 12 } : Room) jdk_30_method_1_code 1 "java/lang/Record" none p l e s m args below meth c T locs 0 0 Z a0 h0 n0) (va0 : Addr) (hnm : meth.name = "<init>") :
    Rch p e below s 0 0 (T.setTop (mkF m 0 #[.val (.ref va0)] [])) (Q2 Z va0 h0 n0) := by
  obtain ⟨X0, hx, hZ, hw, hby, hml, hown, hret, hlk, e0, Z0, N0⟩ := cx
  refine Rch.step (st' := T.setTop (mkF m 1 #[.val (.ref va0)] [(.ref va0)])) (fun _ hr => XS.aloadN X0.here hx rfl (hb hby d2_0) rfl rfl hr) ?_
  obtain ⟨T1, X1, e1, st1⟩ := initO X0 hx hZ hown (hw _ (List.mem_of_getElem? (i := 12) rfl)) (hw _ (List.mem_of_getElem? (i := 13) rfl)) (hw _ (List.mem_of_getElem? (i := 14) rfl)) e0 (g := (mkF m 1 #[.val (.ref va0)] [(.ref va0)])) rfl (by rw [hml]; rfl) rfl (hb hby d2_1) (by decide) (W := 0) (by show 2 * 0 + _ ≤ _; exact Nat.le_of_eq rfl) (by decide)
  refine Rch.step (st' := T1.setTop (mkF m 4 #[.val (.ref va0)] [])) (fun _ hr => st1 _ hr) ?_
  exact Rch.retV X1 hx hret hlk (hb hby d2_4) (by decide) (by decide) (by rw [e1]; exact ⟨rfl, N0, (Keep.refl h0 [])⟩)
theorem ef2 (m : MethodId) (x0 : Addr) : entryFrame m #[(.ref x0)] 1 = mkF m 0 #[.val (.ref x0)] [] := by first | (simp [entryFrame, mkF, argsToLocals, Value.category]; done) | rfl
set_option maxRecDepth 65536 in
set_option maxHeartbeats 40000000 in
theorem rm2 (l : Launch) (Z : State) (a0 : Array Value) (hw : ∀ d ∈ tables_1, d.before a0 Z = true) (ws : List Jvm.Cond) (ob : Addr) (h0 : Heap) (n0 : Nat) (Z0 : n0 ≤ h0.size)  :
    MetFree l (⟨"java/lang/Record", "<init>", "()V"⟩ : MethodName) (head1 (Jvm.Cond.code (⟨"java/lang/Record", "<init>", "()V"⟩ : MethodName) jdk_30_method_1_code 1 none :: ws) ({ frames := 1, cells := 0, slots := 0, locals := 12 } : Room)) (fun a U => a = #[(.ref ob)] ∧ Z.Warmed39 U.vm ∧ U.heap = h0) (fun _ _ _ _ _ => True) (fun _ U o U' => ∃ v L, o = .returned v ∧ Q2 Z ob h0 n0 v U'.heap L ∧ FrameEnd U o U' L ({ frames := 1, cells := 0, slots := 0, locals := 12 } : Room).cells ({ frames := 1, cells := 0, slots := 0, locals := 12 } : Room).slots) := by
  refine MetFree.of_bodySF (plainFor_of_name pn2) hisR ?_
  intro p e s m args below meth c s₁ Bd hml0 hP hK
  obtain ⟨rfl, hZ, hh⟩ := hP
  have hown : s.vm.findClass "java/lang/Record" = some m.cls := findClass_of_methodNamed Bd.named
  have e0 : s₁.heap = h0 := by rw [← hh, Bd.state]; rfl
  obtain ⟨s₂, v, L, h1, h2, h3, h4, h5⟩ := b2_0 (T := s₁) ⟨Stand.of_body Bd, Bd.exec, hZ, hw, Bd.bytes, hml0, hown, Bd.returns, BodyLoose.notSynchronized Bd, e0, Z0, Fr.nil n0⟩ ob (name_of_methodNamed Bd.named Bd.method).1
  exact ⟨s₂, .returned v, castTop (ef2 m ob) h1, h2, h3, v, L, rfl, h4, h5⟩
-- body 1
theorem d1_0 : decode prog_18_method_1_code 0 = .ok (.aload_n 0, 1) := by decide +kernel
theorem d1_1 : decode prog_18_method_1_code 1 = .ok (.invokespecial 1, 3) := by decide +kernel
theorem d1_4 : decode prog_18_method_1_code 4 = .ok (.aload_n 0, 1) := by decide +kernel
theorem d1_5 : decode prog_18_method_1_code 5 = .ok (.iload_n 1, 1) := by decide +kernel
theorem d1_6 : decode prog_18_method_1_code 6 = .ok (.putfield 7, 3) := by decide +kernel
theorem d1_9 : decode prog_18_method_1_code 9 = .ok (.aload_n 0, 1) := by decide +kernel
theorem d1_10 : decode prog_18_method_1_code 10 = .ok (.iload_n 2, 1) := by decide +kernel
theorem d1_11 : decode prog_18_method_1_code 11 = .ok (.putfield 13, 3) := by decide +kernel
theorem d1_14 : decode prog_18_method_1_code 14 = .ok (.aload_n 0, 1) := by decide +kernel
theorem d1_15 : decode prog_18_method_1_code 15 = .ok (.iload_n 3, 1) := by decide +kernel
theorem d1_16 : decode prog_18_method_1_code 16 = .ok (.putfield 16, 3) := by decide +kernel
theorem d1_19 : decode prog_18_method_1_code 19 = .ok (.return_, 1) := by decide +kernel
theorem pn1 : plainName "com/example/scrapline/scrapline/engine/Splice" = true := by first | (simp [plainName, overriddenIn]; done) | decide +kernel
theorem pd1 : parseMethodDescriptor "(III)V" = some ⟨[.int, .int, .int], none⟩ := by decide +kernel
def Q1 (Z : State) (ob : Addr) (kp : Int32) (kr : Int32) (kq : Int32) (h0 : Heap) (n0 : Nat) : Option Value → Heap → List Loc → Prop := fun v h L => v = none ∧ Fr n0 L ∧ Keep h0 h [ob] ∧ Exa Z h ob "com/example/scrapline/scrapline/engine/Splice" ∧ Fld Z h ob "com/example/scrapline/scrapline/engine/Splice" "position" "I" (.int kp) ∧ Fld Z h ob "com/example/scrapline/scrapline/engine/Splice" "removed" "I" (.int kr) ∧ Fld Z h ob "com/example/scrapline/scrapline/engine/Splice" "inserted" "I" (.int kq)
set_option maxRecDepth 65536 in
set_option maxHeartbeats 40000000 in
theorem b1_0 {p : Program} {l : Launch} {e : Env} {s : State} {m : MethodId} {args : Array Value} {below : List Frame} {meth : Method} {c : Code} {T : State} {locs : List Loc} {Z : State} {a0 : Array Value} {h0 : Heap} {n0 : Nat} (cx : Cx ({ frames := 2, cells := 0, slots := 0, locals := 24 } : Room) prog_18_method_1_code 4 "com/example/scrapline/scrapline/engine/Splice" none p l e s m args below meth c T locs 0 0 Z a0 h0 n0) (va0 : Addr) (vi1 : Int32) (vi2 : Int32) (vi3 : Int32) (w1 : Int32) (w2 : Int32) (w3 : Int32) (A0 : Exa Z h0 va0 "com/example/scrapline/scrapline/engine/Splice") (A1 : Fld Z h0 va0 "com/example/scrapline/scrapline/engine/Splice" "inserted" "I" (.int w1)) (A2 : Fld Z h0 va0 "com/example/scrapline/scrapline/engine/Splice" "position" "I" (.int w2)) (A3 : Fld Z h0 va0 "com/example/scrapline/scrapline/engine/Splice" "removed" "I" (.int w3)) (g0 : n0 ≤ va0) (hnm : meth.name = "<init>") :
    Rch p e below s 0 0 (T.setTop (mkF m 0 #[.val (.ref va0), .val (.int vi1), .val (.int vi2), .val (.int vi3)] [])) (Q1 Z va0 vi1 vi2 vi3 h0 n0) := by
  obtain ⟨X0, hx, hZ, hw, hby, hml, hown, hret, hlk, e0, Z0, N0⟩ := cx
  refine Rch.step (st' := T.setTop (mkF m 1 #[.val (.ref va0), .val (.int vi1), .val (.int vi2), .val (.int vi3)] [(.ref va0)])) (fun _ hr => XS.aloadN X0.here hx rfl (hb hby d1_0) rfl rfl hr) ?_
  obtain ⟨_, _, ⟨T1, L1, k1, n1⟩, -, X1, ⟨Lc1, hQ1, l1, y1, z1⟩, st1⟩ := X0.specialBack hx (y := (⟨"java/lang/Record", "<init>", "()V"⟩ : MethodName)) rfl hown (mvT hZ (hw _ (List.mem_of_getElem? (i := 7) rfl))) (mvT hZ (hw _ (List.mem_of_getElem? (i := 8) rfl))) (mvT hZ (hw _ (List.mem_of_getElem? (i := 11) rfl))) (by decide) (backOf (W := 0) (rm2 l Z a0 hw [] va0 h0 n0 Z0) hZ (hw _ (List.mem_of_getElem? (i := 11) rfl)) (hw _ (List.mem_of_getElem? (i := 10) rfl)) (by decide) (by decide)) (g := (mkF m 1 #[.val (.ref va0), .val (.int vi1), .val (.int vi2), .val (.int vi3)] [(.ref va0)])) rfl (by rw [hml]; rfl) (Steps.refl _) (a := va0) (argsL := []) (rest := []) (lenOf pd2 rfl) rfl (by show 2 * 0 + _ ≤ _; exact Nat.le_of_eq rfl) (hb hby d1_1) (fun _ _ => ⟨rfl, e0, (by decide : 0 + 0 ≤ _), (by decide : 0 + 0 ≤ _)⟩)
  dsimp only [Pt.U, Pt.locs, Pt.cells, Pt.slots] at X1 l1 y1 z1 st1 hQ1
  subst l1 y1 z1
  obtain ⟨rfl, N1q, K1q⟩ := hQ1
  have E_va0_1 : Exa Z T1.heap va0 "com/example/scrapline/scrapline/engine/Splice" := A0.keep K1q
  have Finserted_va0_1 : Fld Z T1.heap va0 "com/example/scrapline/scrapline/engine/Splice" "inserted" "I" (.int w1) := A1.keep K1q nin0
  have Fposition_va0_1 : Fld Z T1.heap va0 "com/example/scrapline/scrapline/engine/Splice" "position" "I" (.int w2) := A2.keep K1q nin0
  have Fremoved_va0_1 : Fld Z T1.heap va0 "com/example/scrapline/scrapline/engine/Splice" "removed" "I" (.int w3) := A3.keep K1q nin0
  have Z1 : n0 ≤ T1.heap.size := Nat.le_trans Z0 K1q.1
  have K1 : Keep h0 T1.heap [va0] := (Keep.refl h0 [va0]).trans K1q all0
  have N1 := Fr.app N0 N1q
  refine Rch.step (st' := T1.setTop (mkF m 4 #[.val (.ref va0), .val (.int vi1), .val (.int vi2), .val (.int vi3)] [])) (fun _ hr => st1.trans hr) ?_
  refine Rch.step (st' := T1.setTop (mkF m 5 #[.val (.ref va0), .val (.int vi1), .val (.int vi2), .val (.int vi3)] [(.ref va0)])) (fun _ hr => XS.aloadN X1.here hx rfl (hb hby d1_4) rfl rfl hr) ?_
  refine Rch.step (st' := T1.setTop (mkF m 6 #[.val (.ref va0), .val (.int vi1), .val (.int vi2), .val (.int vi3)] [(.int vi1), (.ref va0)])) (fun _ hr => XS.iloadN X1.here hx rfl (hb hby d1_5) rfl hr) ?_
  obtain ⟨T2, h2, X2, e2, W2, st2⟩ := putF X1 hx hZ hown (host := "") (Or.inl (hw _ (List.mem_of_getElem? (i := 15) rfl))) Via.refl rfl Fposition_va0_1 E_va0_1 (Or.inr ⟨(hw _ (List.mem_of_getElem? (i := 16) rfl)), rfl, hnm⟩) (hw _ (List.mem_of_getElem? (i := 2) rfl)) (ty := .int) (by decide) rfl rfl (g := (mkF m 6 #[.val (.ref va0), .val (.int vi1), .val (.int vi2), .val (.int vi3)] [(.int vi1), (.ref va0)])) rfl rfl (hb hby d1_6)
  have E_va0_2 : Exa Z h2 va0 "com/example/scrapline/scrapline/engine/Splice" := E_va0_1.wr W2
  have Finserted_va0_2 : Fld Z h2 va0 "com/example/scrapline/scrapline/engine/Splice" "inserted" "I" (.int w1) := Finserted_va0_1.other W2 (Or.inr (slot_ne (Or.inr (hw _ (List.mem_of_getElem? (i := 20) rfl))) (Or.inr (hw _ (List.mem_of_getElem? (i := 16) rfl))) (by decide) (t := .int) (t' := .int) (by decide) (by decide)))
  have Fremoved_va0_2 : Fld Z h2 va0 "com/example/scrapline/scrapline/engine/Splice" "removed" "I" (.int w3) := Fremoved_va0_1.other W2 (Or.inr (slot_ne (Or.inr (hw _ (List.mem_of_getElem? (i := 18) rfl))) (Or.inr (hw _ (List.mem_of_getElem? (i := 16) rfl))) (by decide) (t := .int) (t' := .int) (by decide) (by decide)))
  have Fposition_va0_2 : Fld Z h2 va0 "com/example/scrapline/scrapline/engine/Splice" "position" "I" (.int vi1) := Fposition_va0_1.same W2
  have N2 := Fr.snoc X2 N1 g0
  have Z2 : n0 ≤ h2.size := by rw [W2.size]; exact Z1
  have K2 : Keep h0 h2 [va0] := K1.wr W2 (Or.inl (List.mem_of_getElem? (i := 0) rfl))
  refine Rch.step (st' := T2.setTop (mkF m 9 #[.val (.ref va0), .val (.int vi1), .val (.int vi2), .val (.int vi3)] [])) (fun _ hr => st2 _ hr) ?_
  refine Rch.step (st' := T2.setTop (mkF m 10 #[.val (.ref va0), .val (.int vi1), .val (.int vi2), .val (.int vi3)] [(.ref va0)])) (fun _ hr => XS.aloadN X2.here hx rfl (hb hby d1_9) rfl rfl hr) ?_
  refine Rch.step (st' := T2.setTop (mkF m 11 #[.val (.ref va0), .val (.int vi1), .val (.int vi2), .val (.int vi3)] [(.int vi2), (.ref va0)])) (fun _ hr => XS.iloadN X2.here hx rfl (hb hby d1_10) rfl hr) ?_
  obtain ⟨T3, h3, X3, e3, W3, st3⟩ := putF X2 hx hZ hown (host := "") (Or.inl (hw _ (List.mem_of_getElem? (i := 17) rfl))) Via.refl e2 Fremoved_va0_2 E_va0_2 (Or.inr ⟨(hw _ (List.mem_of_getElem? (i := 18) rfl)), rfl, hnm⟩) (hw _ (List.mem_of_getElem? (i := 2) rfl)) (ty := .int) (by decide) rfl rfl (g := (mkF m 11 #[.val (.ref va0), .val (.int vi1), .val (.int vi2), .val (.int vi3)] [(.int vi2), (.ref va0)])) rfl rfl (hb hby d1_11)
  have E_va0_3 : Exa Z h3 va0 "com/example/scrapline/scrapline/engine/Splice" := E_va0_2.wr W3
  have Finserted_va0_3 : Fld Z h3 va0 "com/example/scrapline/scrapline/engine/Splice" "inserted" "I" (.int w1) := Finserted_va0_2.other W3 (Or.inr (slot_ne (Or.inr (hw _ (List.mem_of_getElem? (i := 20) rfl))) (Or.inr (hw _ (List.mem_of_getElem? (i := 18) rfl))) (by decide) (t := .int) (t' := .int) (by decide) (by decide)))
  have Fposition_va0_3 : Fld Z h3 va0 "com/example/scrapline/scrapline/engine/Splice" "position" "I" (.int vi1) := Fposition_va0_2.other W3 (Or.inr (slot_ne (Or.inr (hw _ (List.mem_of_getElem? (i := 16) rfl))) (Or.inr (hw _ (List.mem_of_getElem? (i := 18) rfl))) (by decide) (t := .int) (t' := .int) (by decide) (by decide)))
  have Fremoved_va0_3 : Fld Z h3 va0 "com/example/scrapline/scrapline/engine/Splice" "removed" "I" (.int vi2) := Fremoved_va0_2.same W3
  have N3 := Fr.snoc X3 N2 g0
  have Z3 : n0 ≤ h3.size := by rw [W3.size]; exact Z2
  have K3 : Keep h0 h3 [va0] := K2.wr W3 (Or.inl (List.mem_of_getElem? (i := 0) rfl))
  refine Rch.step (st' := T3.setTop (mkF m 14 #[.val (.ref va0), .val (.int vi1), .val (.int vi2), .val (.int vi3)] [])) (fun _ hr => st3 _ hr) ?_
  refine Rch.step (st' := T3.setTop (mkF m 15 #[.val (.ref va0), .val (.int vi1), .val (.int vi2), .val (.int vi3)] [(.ref va0)])) (fun _ hr => XS.aloadN X3.here hx rfl (hb hby d1_14) rfl rfl hr) ?_
  refine Rch.step (st' := T3.setTop (mkF m 16 #[.val (.ref va0), .val (.int vi1), .val (.int vi2), .val (.int vi3)] [(.int vi3), (.ref va0)])) (fun _ hr => XS.iloadN X3.here hx rfl (hb hby d1_15) rfl hr) ?_
  obtain ⟨T4, h4, X4, e4, W4, st4⟩ := putF X3 hx hZ hown (host := "") (Or.inl (hw _ (List.mem_of_getElem? (i := 19) rfl))) Via.refl e3 Finserted_va0_3 E_va0_3 (Or.inr ⟨(hw _ (List.mem_of_getElem? (i := 20) rfl)), rfl, hnm⟩) (hw _ (List.mem_of_getElem? (i := 2) rfl)) (ty := .int) (by decide) rfl rfl (g := (mkF m 16 #[.val (.ref va0), .val (.int vi1), .val (.int vi2), .val (.int vi3)] [(.int vi3), (.ref va0)])) rfl rfl (hb hby d1_16)
  have E_va0_4 : Exa Z h4 va0 "com/example/scrapline/scrapline/engine/Splice" := E_va0_3.wr W4
  have Fposition_va0_4 : Fld Z h4 va0 "com/example/scrapline/scrapline/engine/Splice" "position" "I" (.int vi1) := Fposition_va0_3.other W4 (Or.inr (slot_ne (Or.inr (hw _ (List.mem_of_getElem? (i := 16) rfl))) (Or.inr (hw _ (List.mem_of_getElem? (i := 20) rfl))) (by decide) (t := .int) (t' := .int) (by decide) (by decide)))
  have Fremoved_va0_4 : Fld Z h4 va0 "com/example/scrapline/scrapline/engine/Splice" "removed" "I" (.int vi2) := Fremoved_va0_3.other W4 (Or.inr (slot_ne (Or.inr (hw _ (List.mem_of_getElem? (i := 18) rfl))) (Or.inr (hw _ (List.mem_of_getElem? (i := 20) rfl))) (by decide) (t := .int) (t' := .int) (by decide) (by decide)))
  have Finserted_va0_4 : Fld Z h4 va0 "com/example/scrapline/scrapline/engine/Splice" "inserted" "I" (.int vi3) := Finserted_va0_3.same W4
  have N4 := Fr.snoc X4 N3 g0
  have Z4 : n0 ≤ h4.size := by rw [W4.size]; exact Z3
  have K4 : Keep h0 h4 [va0] := K3.wr W4 (Or.inl (List.mem_of_getElem? (i := 0) rfl))
  refine Rch.step (st' := T4.setTop (mkF m 19 #[.val (.ref va0), .val (.int vi1), .val (.int vi2), .val (.int vi3)] [])) (fun _ hr => st4 _ hr) ?_
  exact Rch.retV X4 hx hret hlk (hb hby d1_19) (by decide) (by decide) (by rw [e4]; exact ⟨rfl, N4, K4, E_va0_4, Fposition_va0_4, Fremoved_va0_4, Finserted_va0_4⟩)
theorem ef1 (m : MethodId) (x0 : Addr) (x1 : Int32) (x2 : Int32) (x3 : Int32) : entryFrame m #[(.ref x0), (.int x1), (.int x2), (.int x3)] 4 = mkF m 0 #[.val (.ref x0), .val (.int x1), .val (.int x2), .val (.int x3)] [] := by first | (simp [entryFrame, mkF, argsToLocals, Value.category]; done) | rfl
set_option maxRecDepth 65536 in
set_option maxHeartbeats 40000000 in
theorem rm1 (l : Launch) (Z : State) (a0 : Array Value) (hw : ∀ d ∈ tables_1, d.before a0 Z = true) (ws : List Jvm.Cond) (ob : Addr) (kp : Int32) (kr : Int32) (kq : Int32) (h0 : Heap) (n0 : Nat) (Z0 : n0 ≤ h0.size) (lo_ob : n0 ≤ ob) (H0 : Exa Z h0 ob "com/example/scrapline/scrapline/engine/Splice") (H1 : Fld Z h0 ob "com/example/scrapline/scrapline/engine/Splice" "position" "I" (.int (0 : Int32))) (H2 : Fld Z h0 ob "com/example/scrapline/scrapline/engine/Splice" "removed" "I" (.int (0 : Int32))) (H3 : Fld Z h0 ob "com/example/scrapline/scrapline/engine/Splice" "inserted" "I" (.int (0 : Int32))) :
    MetFree l (⟨"com/example/scrapline/scrapline/engine/Splice", "<init>", "(III)V"⟩ : MethodName) (head1 (Jvm.Cond.code (⟨"com/example/scrapline/scrapline/engine/Splice", "<init>", "(III)V"⟩ : MethodName) prog_18_method_1_code 4 none :: ws) ({ frames := 2, cells := 0, slots := 0, locals := 24 } : Room)) (fun a U => a = #[(.ref ob), (.int kp), (.int kr), (.int kq)] ∧ Z.Warmed39 U.vm ∧ U.heap = h0) (fun _ _ _ _ _ => True) (fun _ U o U' => ∃ v L, o = .returned v ∧ Q1 Z ob kp kr kq h0 n0 v U'.heap L ∧ FrameEnd U o U' L ({ frames := 2, cells := 0, slots := 0, locals := 24 } : Room).cells ({ frames := 2, cells := 0, slots := 0, locals := 24 } : Room).slots) := by
  refine MetFree.of_bodySF (plainFor_of_name pn1) hisR ?_
  intro p e s m args below meth c s₁ Bd hml0 hP hK
  obtain ⟨rfl, hZ, hh⟩ := hP
  have hown : s.vm.findClass "com/example/scrapline/scrapline/engine/Splice" = some m.cls := findClass_of_methodNamed Bd.named
  have e0 : s₁.heap = h0 := by rw [← hh, Bd.state]; rfl
  obtain ⟨s₂, v, L, h1, h2, h3, h4, h5⟩ := b1_0 (T := s₁) ⟨Stand.of_body Bd, Bd.exec, hZ, hw, Bd.bytes, hml0, hown, Bd.returns, BodyLoose.notSynchronized Bd, e0, Z0, Fr.nil n0⟩ ob kp kr kq (0 : Int32) (0 : Int32) (0 : Int32) H0 H3 H1 H2 lo_ob (name_of_methodNamed Bd.named Bd.method).1
  exact ⟨s₂, .returned v, castTop (ef1 m ob kp kr kq) h1, h2, h3, v, L, rfl, h4, h5⟩
-- body 4
theorem d4_0 : decode prog_18_method_2_code 0 = .ok (.iload_n 1, 1) := by decide +kernel
theorem d4_1 : decode prog_18_method_2_code 1 = .ok (.aload_n 0, 1) := by decide +kernel
theorem d4_2 : decode prog_18_method_2_code 2 = .ok (.getfield 7, 3) := by decide +kernel
theorem d4_5 : decode prog_18_method_2_code 5 = .ok (.if_icmp .ge 5, 3) := by decide +kernel
theorem d4_8 : decode prog_18_method_2_code 8 = .ok (.iload_n 1, 1) := by decide +kernel
theorem d4_9 : decode prog_18_method_2_code 9 = .ok (.ireturn, 1) := by decide +kernel
theorem d4_10 : decode prog_18_method_2_code 10 = .ok (.iload_n 1, 1) := by decide +kernel
theorem d4_11 : decode prog_18_method_2_code 11 = .ok (.aload_n 0, 1) := by decide +kernel
theorem d4_12 : decode prog_18_method_2_code 12 = .ok (.getfield 7, 3) := by decide +kernel
theorem d4_15 : decode prog_18_method_2_code 15 = .ok (.isub, 1) := by decide +kernel
theorem d4_16 : decode prog_18_method_2_code 16 = .ok (.aload_n 0, 1) := by decide +kernel
theorem d4_17 : decode prog_18_method_2_code 17 = .ok (.getfield 13, 3) := by decide +kernel
theorem d4_20 : decode prog_18_method_2_code 20 = .ok (.if_icmp .ge 5, 3) := by decide +kernel
theorem d4_23 : decode prog_18_method_2_code 23 = .ok (.iconst (-1), 1) := by decide +kernel
theorem d4_24 : decode prog_18_method_2_code 24 = .ok (.ireturn, 1) := by decide +kernel
theorem d4_25 : decode prog_18_method_2_code 25 = .ok (.iload_n 1, 1) := by decide +kernel
theorem d4_26 : decode prog_18_method_2_code 26 = .ok (.aload_n 0, 1) := by decide +kernel
theorem d4_27 : decode prog_18_method_2_code 27 = .ok (.getfield 13, 3) := by decide +kernel
theorem d4_30 : decode prog_18_method_2_code 30 = .ok (.isub, 1) := by decide +kernel
theorem d4_31 : decode prog_18_method_2_code 31 = .ok (.aload_n 0, 1) := by decide +kernel
theorem d4_32 : decode prog_18_method_2_code 32 = .ok (.getfield 16, 3) := by decide +kernel
theorem d4_35 : decode prog_18_method_2_code 35 = .ok (.iadd, 1) := by decide +kernel
theorem d4_36 : decode prog_18_method_2_code 36 = .ok (.ireturn, 1) := by decide +kernel
theorem pn4 : plainName "com/example/scrapline/scrapline/engine/Splice" = true := by first | (simp [plainName, overriddenIn]; done) | decide +kernel
theorem pd4 : parseMethodDescriptor "(I)I" = some ⟨[.int], some .int⟩ := by decide +kernel
def f4_0 (vi1 : Int32) (w0 : Int32) (w1 : Int32) (w2 : Int32) : Int32 := (if vi1 < w1 then vi1 else (if (vi1 - w1) < w2 then (-1 : Int32) else ((vi1 - w2) + w0)))
set_option maxRecDepth 65536 in
set_option maxHeartbeats 40000000 in
theorem b4_0 {p : Program} {l : Launch} {e : Env} {s : State} {m : MethodId} {args : Array Value} {below : List Frame} {meth : Method} {c : Code} {T : State} {locs : List Loc} {Z : State} {a0 : Array Value} {h0 : Heap} {n0 : Nat} (cx : Cx ({ frames := 0, cells := 0, slots := 0, locals := 0 } : Room) prog_18_method_2_code 2 "com/example/scrapline/scrapline/engine/Splice" (some .int) p l e s m args below meth c T locs 0 0 Z a0 h0 n0) (va0 : Addr) (vi1 : Int32) (w0 : Int32) (w1 : Int32) (w2 : Int32) (A0 : Fld Z h0 va0 "com/example/scrapline/scrapline/engine/Splice" "inserted" "I" (.int w0)) (A1 : Fld Z h0 va0 "com/example/scrapline/scrapline/engine/Splice" "position" "I" (.int w1)) (A2 : Fld Z h0 va0 "com/example/scrapline/scrapline/engine/Splice" "removed" "I" (.int w2)) :
    Rch p e below s 0 0 (T.setTop (mkF m 0 #[.val (.ref va0), .val (.int vi1)] [])) (PI (f4_0 vi1 w0 w1 w2) h0 n0) := by
  obtain ⟨X0, hx, hZ, hw, hby, hml, hown, hret, hlk, e0, Z0, N0⟩ := cx
  unfold f4_0
  refine Rch.step (st' := T.setTop (mkF m 1 #[.val (.ref va0), .val (.int vi1)] [(.int vi1)])) (fun _ hr => XS.iloadN X0.here hx rfl (hb hby d4_0) rfl hr) ?_
  refine Rch.step (st' := T.setTop (mkF m 2 #[.val (.ref va0), .val (.int vi1)] [(.ref va0), (.int vi1)])) (fun _ hr => XS.aloadN X0.here hx rfl (hb hby d4_1) rfl rfl hr) ?_
  obtain ⟨T1, X1, e1, st1⟩ := getF X0 hx hZ hown (host := "") (Or.inl (hw _ (List.mem_of_getElem? (i := 15) rfl))) Via.refl e0 A1 (g := (mkF m 2 #[.val (.ref va0), .val (.int vi1)] [(.ref va0), (.int vi1)])) rfl rfl (hb hby d4_2)
  refine Rch.step (st' := T1.setTop (mkF m 5 #[.val (.ref va0), .val (.int vi1)] [(.int w1), (.int vi1)])) (fun _ hr => st1 _ hr) ?_
  by_cases hc2 : vi1 < w1
  · rw [if_pos hc2]
    refine Rch.step (st' := T1.setTop (mkF m 8 #[.val (.ref va0), .val (.int vi1)] [])) (fun _ hr => XS.icmpNo X1.here hx rfl (hb hby d4_5) rfl (tlt hc2).2.1 hr) ?_
    refine Rch.step (st' := T1.setTop (mkF m 9 #[.val (.ref va0), .val (.int vi1)] [(.int vi1)])) (fun _ hr => XS.iloadN X1.here hx rfl (hb hby d4_8) rfl hr) ?_
    exact Rch.retI X1 hx hret hlk (hb hby d4_9) (by decide) (by decide) ⟨rfl, N0, e1⟩
  · rw [if_neg hc2]
    refine Rch.step (st' := T1.setTop (mkF m 10 #[.val (.ref va0), .val (.int vi1)] [])) (fun _ hr => XS.icmpYes X1.here hx rfl (pc0 := 5) (pc' := 10) rfl (hb hby d4_5) rfl (flt hc2).2.1 (by decide) (by decide) hr) ?_
    refine Rch.step (st' := T1.setTop (mkF m 11 #[.val (.ref va0), .val (.int vi1)] [(.int vi1)])) (fun _ hr => XS.iloadN X1.here hx rfl (hb hby d4_10) rfl hr) ?_
    refine Rch.step (st' := T1.setTop (mkF m 12 #[.val (.ref va0), .val (.int vi1)] [(.ref va0), (.int vi1)])) (fun _ hr => XS.aloadN X1.here hx rfl (hb hby d4_11) rfl rfl hr) ?_
    obtain ⟨T3, X3, e3, st3⟩ := getF X1 hx hZ hown (host := "") (Or.inl (hw _ (List.mem_of_getElem? (i := 15) rfl))) Via.refl e1 A1 (g := (mkF m 12 #[.val (.ref va0), .val (.int vi1)] [(.ref va0), (.int vi1)])) rfl rfl (hb hby d4_12)
    refine Rch.step (st' := T3.setTop (mkF m 15 #[.val (.ref va0), .val (.int vi1)] [(.int w1), (.int vi1)])) (fun _ hr => st3 _ hr) ?_
    refine Rch.step (st' := T3.setTop (mkF m 16 #[.val (.ref va0), .val (.int vi1)] [(.int (vi1 - w1))])) (fun _ hr => XS.isub X3.here hx rfl (hb hby d4_15) rfl hr) ?_
    refine Rch.step (st' := T3.setTop (mkF m 17 #[.val (.ref va0), .val (.int vi1)] [(.ref va0), (.int (vi1 - w1))])) (fun _ hr => XS.aloadN X3.here hx rfl (hb hby d4_16) rfl rfl hr) ?_
    obtain ⟨T4, X4, e4, st4⟩ := getF X3 hx hZ hown (host := "") (Or.inl (hw _ (List.mem_of_getElem? (i := 17) rfl))) Via.refl e3 A2 (g := (mkF m 17 #[.val (.ref va0), .val (.int vi1)] [(.ref va0), (.int (vi1 - w1))])) rfl rfl (hb hby d4_17)
    refine Rch.step (st' := T4.setTop (mkF m 20 #[.val (.ref va0), .val (.int vi1)] [(.int w2), (.int (vi1 - w1))])) (fun _ hr => st4 _ hr) ?_
    by_cases hc5 : (vi1 - w1) < w2
    · rw [if_pos hc5]
      refine Rch.step (st' := T4.setTop (mkF m 23 #[.val (.ref va0), .val (.int vi1)] [])) (fun _ hr => XS.icmpNo X4.here hx rfl (hb hby d4_20) rfl (tlt hc5).2.1 hr) ?_
      refine Rch.step (st' := T4.setTop (mkF m 24 #[.val (.ref va0), .val (.int vi1)] [(.int (-1 : Int32))])) (fun _ hr => XS.iconst X4.here hx rfl (hb hby d4_23) hr) ?_
      exact Rch.retI X4 hx hret hlk (hb hby d4_24) (by decide) (by decide) ⟨rfl, N0, e4⟩
    · rw [if_neg hc5]
      refine Rch.step (st' := T4.setTop (mkF m 25 #[.val (.ref va0), .val (.int vi1)] [])) (fun _ hr => XS.icmpYes X4.here hx rfl (pc0 := 20) (pc' := 25) rfl (hb hby d4_20) rfl (flt hc5).2.1 (by decide) (by decide) hr) ?_
      refine Rch.step (st' := T4.setTop (mkF m 26 #[.val (.ref va0), .val (.int vi1)] [(.int vi1)])) (fun _ hr => XS.iloadN X4.here hx rfl (hb hby d4_25) rfl hr) ?_
      refine Rch.step (st' := T4.setTop (mkF m 27 #[.val (.ref va0), .val (.int vi1)] [(.ref va0), (.int vi1)])) (fun _ hr => XS.aloadN X4.here hx rfl (hb hby d4_26) rfl rfl hr) ?_
      obtain ⟨T6, X6, e6, st6⟩ := getF X4 hx hZ hown (host := "") (Or.inl (hw _ (List.mem_of_getElem? (i := 17) rfl))) Via.refl e4 A2 (g := (mkF m 27 #[.val (.ref va0), .val (.int vi1)] [(.ref va0), (.int vi1)])) rfl rfl (hb hby d4_27)
      refine Rch.step (st' := T6.setTop (mkF m 30 #[.val (.ref va0), .val (.int vi1)] [(.int w2), (.int vi1)])) (fun _ hr => st6 _ hr) ?_
      refine Rch.step (st' := T6.setTop (mkF m 31 #[.val (.ref va0), .val (.int vi1)] [(.int (vi1 - w2))])) (fun _ hr => XS.isub X6.here hx rfl (hb hby d4_30) rfl hr) ?_
      refine Rch.step (st' := T6.setTop (mkF m 32 #[.val (.ref va0), .val (.int vi1)] [(.ref va0), (.int (vi1 - w2))])) (fun _ hr => XS.aloadN X6.here hx rfl (hb hby d4_31) rfl rfl hr) ?_
      obtain ⟨T7, X7, e7, st7⟩ := getF X6 hx hZ hown (host := "") (Or.inl (hw _ (List.mem_of_getElem? (i := 19) rfl))) Via.refl e6 A0 (g := (mkF m 32 #[.val (.ref va0), .val (.int vi1)] [(.ref va0), (.int (vi1 - w2))])) rfl rfl (hb hby d4_32)
      refine Rch.step (st' := T7.setTop (mkF m 35 #[.val (.ref va0), .val (.int vi1)] [(.int w0), (.int (vi1 - w2))])) (fun _ hr => st7 _ hr) ?_
      refine Rch.step (st' := T7.setTop (mkF m 36 #[.val (.ref va0), .val (.int vi1)] [(.int ((vi1 - w2) + w0))])) (fun _ hr => XS.iadd X7.here hx rfl (hb hby d4_35) rfl hr) ?_
      exact Rch.retI X7 hx hret hlk (hb hby d4_36) (by decide) (by decide) ⟨rfl, N0, e7⟩
theorem ef4 (m : MethodId) (x0 : Addr) (x1 : Int32) : entryFrame m #[(.ref x0), (.int x1)] 2 = mkF m 0 #[.val (.ref x0), .val (.int x1)] [] := by first | (simp [entryFrame, mkF, argsToLocals, Value.category]; done) | rfl
set_option maxRecDepth 65536 in
set_option maxHeartbeats 40000000 in
theorem rm4 (l : Launch) (Z : State) (a0 : Array Value) (hw : ∀ d ∈ tables_1, d.before a0 Z = true) (ws : List Jvm.Cond) (ob : Addr) (x1 : Int32) (kp : Int32) (kr : Int32) (kq : Int32) (h0 : Heap) (n0 : Nat) (Z0 : n0 ≤ h0.size) (H0 : Fld Z h0 ob "com/example/scrapline/scrapline/engine/Splice" "position" "I" (.int kp)) (H1 : Fld Z h0 ob "com/example/scrapline/scrapline/engine/Splice" "removed" "I" (.int kr)) (H2 : Fld Z h0 ob "com/example/scrapline/scrapline/engine/Splice" "inserted" "I" (.int kq)) :
    MetFree l (⟨"com/example/scrapline/scrapline/engine/Splice", "moved", "(I)I"⟩ : MethodName) (head1 (Jvm.Cond.code (⟨"com/example/scrapline/scrapline/engine/Splice", "moved", "(I)I"⟩ : MethodName) prog_18_method_2_code 2 (some .int) :: ws) ({ frames := 0, cells := 0, slots := 0, locals := 0 } : Room)) (fun a U => a = #[(.ref ob), (.int x1)] ∧ Z.Warmed39 U.vm ∧ U.heap = h0) (fun _ _ _ _ _ => True) (fun _ U o U' => ∃ v L, o = .returned v ∧ PI (f4_0 x1 kq kp kr) h0 n0 v U'.heap L ∧ FrameEnd U o U' L ({ frames := 0, cells := 0, slots := 0, locals := 0 } : Room).cells ({ frames := 0, cells := 0, slots := 0, locals := 0 } : Room).slots) := by
  refine MetFree.of_bodySF (plainFor_of_name pn4) hisR ?_
  intro p e s m args below meth c s₁ Bd hml0 hP hK
  obtain ⟨rfl, hZ, hh⟩ := hP
  have hown : s.vm.findClass "com/example/scrapline/scrapline/engine/Splice" = some m.cls := findClass_of_methodNamed Bd.named
  have e0 : s₁.heap = h0 := by rw [← hh, Bd.state]; rfl
  obtain ⟨s₂, v, L, h1, h2, h3, h4, h5⟩ := b4_0 (T := s₁) ⟨Stand.of_body Bd, Bd.exec, hZ, hw, Bd.bytes, hml0, hown, Bd.returns, BodyLoose.notSynchronized Bd, e0, Z0, Fr.nil n0⟩ ob x1 kq kp kr H2 H0 H1
  exact ⟨s₂, .returned v, castTop (ef4 m ob x1) h1, h2, h3, v, L, rfl, h4, h5⟩
-- body 0
theorem pn0 : plainName "com/example/scrapline/scrapline/engine/SpliceMovedPinLaw" = true := by first | (simp [plainName, overriddenIn]; done) | decide +kernel
def f0_111 (vi9 : Int32) (vi18 : Int32) (w1 : Int32) (w2 : Int32) (w3 : Int32) : Int32 := (if vi9 = vi18 then (1 : Int32) else (0 : Int32))
def f0_0 (vi0 : Int32) (vi1 : Int32) (vi2 : Int32) (vi3 : Int32) : Int32 := (if ((vi3 &&& (2147483647 : Int32)).toInt64) < ((vi0 &&& (2147483647 : Int32)).toInt64) then (f0_111 (f4_0 (vi3 &&& (2147483647 : Int32)) (vi2 &&& (2147483647 : Int32)) (vi0 &&& (2147483647 : Int32)) (vi1 &&& (2147483647 : Int32))) (vi3 &&& (2147483647 : Int32)) (vi2 &&& (2147483647 : Int32)) (vi0 &&& (2147483647 : Int32)) (vi1 &&& (2147483647 : Int32))) else (if ((vi3 &&& (2147483647 : Int32)).toInt64) < (((vi0 &&& (2147483647 : Int32)).toInt64) + ((vi1 &&& (2147483647 : Int32)).toInt64)) then (f0_111 (f4_0 (vi3 &&& (2147483647 : Int32)) (vi2 &&& (2147483647 : Int32)) (vi0 &&& (2147483647 : Int32)) (vi1 &&& (2147483647 : Int32))) (-1 : Int32) (vi2 &&& (2147483647 : Int32)) (vi0 &&& (2147483647 : Int32)) (vi1 &&& (2147483647 : Int32))) else (f0_111 (f4_0 (vi3 &&& (2147483647 : Int32)) (vi2 &&& (2147483647 : Int32)) (vi0 &&& (2147483647 : Int32)) (vi1 &&& (2147483647 : Int32))) (((((vi3 &&& (2147483647 : Int32)).toInt64) - ((vi1 &&& (2147483647 : Int32)).toInt64)) + ((vi2 &&& (2147483647 : Int32)).toInt64)).toInt32) (vi2 &&& (2147483647 : Int32)) (vi0 &&& (2147483647 : Int32)) (vi1 &&& (2147483647 : Int32)))))
set_option maxRecDepth 65536 in
set_option maxHeartbeats 40000000 in
theorem b0_111 {p : Program} {l : Launch} {e : Env} {s : State} {m : MethodId} {args : Array Value} {below : List Frame} {meth : Method} {c : Code} {T : State} {locs : List Loc} {Z : State} {a0 : Array Value} {h0 : Heap} {n0 : Nat} (cx : Cx room_1 code 19 "com/example/scrapline/scrapline/engine/SpliceMovedPinLaw" (some .boolean) p l e s m args below meth c T locs 1 3 Z a0 h0 n0) (vi0 : Int32) (vi1 : Int32) (vi2 : Int32) (vi3 : Int32) (vi4 : Int32) (vi5 : Int32) (vi6 : Int32) (vi7 : Int32) (va8 : Addr) (vi9 : Int32) (vj10 : Int64) (vj12 : Int64) (vj14 : Int64) (vj16 : Int64) (vi18 : Int32) (w1 : Int32) (w2 : Int32) (w3 : Int32) (A0 : Exa Z h0 va8 "com/example/scrapline/scrapline/engine/Splice") (A1 : Fld Z h0 va8 "com/example/scrapline/scrapline/engine/Splice" "inserted" "I" (.int w1)) (A2 : Fld Z h0 va8 "com/example/scrapline/scrapline/engine/Splice" "position" "I" (.int w2)) (A3 : Fld Z h0 va8 "com/example/scrapline/scrapline/engine/Splice" "removed" "I" (.int w3)) (g0 : n0 ≤ va8) :
    Rch p e below s 16 128 (T.setTop (mkF m 111 #[.val (.int vi0), .val (.int vi1), .val (.int vi2), .val (.int vi3), .val (.int vi4), .val (.int vi5), .val (.int vi6), .val (.int vi7), .val (.ref va8), .val (.int vi9), .val (.long vj10), .second, .val (.long vj12), .second, .val (.long vj14), .second, .val (.long vj16), .second, .val (.int vi18)] [])) (PL (f0_111 vi9 vi18 w1 w2 w3) n0) := by
  obtain ⟨X0, hx, hZ, hw, hby, hml, hown, hret, hlk, e0, Z0, N0⟩ := cx
  unfold f0_111
  refine Rch.step (st' := T.setTop (mkF m 113 #[.val (.int vi0), .val (.int vi1), .val (.int vi2), .val (.int vi3), .val (.int vi4), .val (.int vi5), .val (.int vi6), .val (.int vi7), .val (.ref va8), .val (.int vi9), .val (.long vj10), .second, .val (.long vj12), .second, .val (.long vj14), .second, .val (.long vj16), .second, .val (.int vi18)] [(.int vi9)])) (fun _ hr => XS.iload X0.here hx rfl (hb hby at_111) rfl hr) ?_
  refine Rch.step (st' := T.setTop (mkF m 115 #[.val (.int vi0), .val (.int vi1), .val (.int vi2), .val (.int vi3), .val (.int vi4), .val (.int vi5), .val (.int vi6), .val (.int vi7), .val (.ref va8), .val (.int vi9), .val (.long vj10), .second, .val (.long vj12), .second, .val (.long vj14), .second, .val (.long vj16), .second, .val (.int vi18)] [(.int vi18), (.int vi9)])) (fun _ hr => XS.iload X0.here hx rfl (hb hby at_113) rfl hr) ?_
  by_cases hc1 : vi9 = vi18
  · rw [if_pos hc1]
    refine Rch.step (st' := T.setTop (mkF m 118 #[.val (.int vi0), .val (.int vi1), .val (.int vi2), .val (.int vi3), .val (.int vi4), .val (.int vi5), .val (.int vi6), .val (.int vi7), .val (.ref va8), .val (.int vi9), .val (.long vj10), .second, .val (.long vj12), .second, .val (.long vj14), .second, .val (.long vj16), .second, .val (.int vi18)] [])) (fun _ hr => XS.icmpNo X0.here hx rfl (hb hby at_115) rfl (teq hc1).2 hr) ?_
    refine Rch.step (st' := T.setTop (mkF m 119 #[.val (.int vi0), .val (.int vi1), .val (.int vi2), .val (.int vi3), .val (.int vi4), .val (.int vi5), .val (.int vi6), .val (.int vi7), .val (.ref va8), .val (.int vi9), .val (.long vj10), .second, .val (.long vj12), .second, .val (.long vj14), .second, .val (.long vj16), .second, .val (.int vi18)] [(.int (1 : Int32))])) (fun _ hr => XS.iconst X0.here hx rfl (hb hby at_118) hr) ?_
    refine Rch.step (st' := T.setTop (mkF m 123 #[.val (.int vi0), .val (.int vi1), .val (.int vi2), .val (.int vi3), .val (.int vi4), .val (.int vi5), .val (.int vi6), .val (.int vi7), .val (.ref va8), .val (.int vi9), .val (.long vj10), .second, .val (.long vj12), .second, .val (.long vj14), .second, .val (.long vj16), .second, .val (.int vi18)] [(.int (1 : Int32))])) (fun _ hr => XS.goto X0.here hx rfl (pc0 := 119) (pc' := 123) rfl (hb hby at_119) (by decide) (by decide) hr) ?_
    exact Rch.retN X0 hx (t := .boolean) hret hlk (by simp) (hb hby at_123) (by decide) (by decide) ⟨rfl, N0⟩
  · rw [if_neg hc1]
    refine Rch.step (st' := T.setTop (mkF m 122 #[.val (.int vi0), .val (.int vi1), .val (.int vi2), .val (.int vi3), .val (.int vi4), .val (.int vi5), .val (.int vi6), .val (.int vi7), .val (.ref va8), .val (.int vi9), .val (.long vj10), .second, .val (.long vj12), .second, .val (.long vj14), .second, .val (.long vj16), .second, .val (.int vi18)] [])) (fun _ hr => XS.icmpYes X0.here hx rfl (pc0 := 115) (pc' := 122) rfl (hb hby at_115) rfl (feq hc1).2 (by decide) (by decide) hr) ?_
    refine Rch.step (st' := T.setTop (mkF m 123 #[.val (.int vi0), .val (.int vi1), .val (.int vi2), .val (.int vi3), .val (.int vi4), .val (.int vi5), .val (.int vi6), .val (.int vi7), .val (.ref va8), .val (.int vi9), .val (.long vj10), .second, .val (.long vj12), .second, .val (.long vj14), .second, .val (.long vj16), .second, .val (.int vi18)] [(.int (0 : Int32))])) (fun _ hr => XS.iconst X0.here hx rfl (hb hby at_122) hr) ?_
    exact Rch.retN X0 hx (t := .boolean) hret hlk (by simp) (hb hby at_123) (by decide) (by decide) ⟨rfl, N0⟩
set_option maxRecDepth 65536 in
set_option maxHeartbeats 40000000 in
theorem b0_0 {p : Program} {l : Launch} {e : Env} {s : State} {m : MethodId} {args : Array Value} {below : List Frame} {meth : Method} {c : Code} {T : State} {locs : List Loc} {Z : State} {a0 : Array Value} {h0 : Heap} {n0 : Nat} (cx : Cx room_1 code 19 "com/example/scrapline/scrapline/engine/SpliceMovedPinLaw" (some .boolean) p l e s m args below meth c T locs 0 0 Z a0 h0 n0) (vi0 : Int32) (vi1 : Int32) (vi2 : Int32) (vi3 : Int32) :
    Rch p e below s 16 128 (T.setTop (mkF m 0 #[.val (.int vi0), .val (.int vi1), .val (.int vi2), .val (.int vi3), .unset, .unset, .unset, .unset, .unset, .unset, .unset, .unset, .unset, .unset, .unset, .unset, .unset, .unset, .unset] [])) (PL (f0_0 vi0 vi1 vi2 vi3) n0) := by
  obtain ⟨X0, hx, hZ, hw, hby, hml, hown, hret, hlk, e0, Z0, N0⟩ := cx
  unfold f0_0
  refine Rch.step (st' := T.setTop (mkF m 1 #[.val (.int vi0), .val (.int vi1), .val (.int vi2), .val (.int vi3), .unset, .unset, .unset, .unset, .unset, .unset, .unset, .unset, .unset, .unset, .unset, .unset, .unset, .unset, .unset] [(.int vi0)])) (fun _ hr => XS.iloadN X0.here hx rfl (hb hby at_0) rfl hr) ?_
  refine Rch.step (st' := T.setTop (mkF m 3 #[.val (.int vi0), .val (.int vi1), .val (.int vi2), .val (.int vi3), .unset, .unset, .unset, .unset, .unset, .unset, .unset, .unset, .unset, .unset, .unset, .unset, .unset, .unset, .unset] [(.int (2147483647 : Int32)), (.int vi0)])) (fun _ hr => X0.ldcInt hx hown (mvT hZ (hw _ (List.mem_of_getElem? (i := 0) rfl))) (g := (mkF m 1 #[.val (.int vi0), .val (.int vi1), .val (.int vi2), .val (.int vi3), .unset, .unset, .unset, .unset, .unset, .unset, .unset, .unset, .unset, .unset, .unset, .unset, .unset, .unset, .unset] [(.int vi0)])) rfl (hb hby at_1) _ hr) ?_
  refine Rch.step (st' := T.setTop (mkF m 4 #[.val (.int vi0), .val (.int vi1), .val (.int vi2), .val (.int vi3), .unset, .unset, .unset, .unset, .unset, .unset, .unset, .unset, .unset, .unset, .unset, .unset, .unset, .unset, .unset] [(.int (vi0 &&& (2147483647 : Int32)))])) (fun _ hr => XS.iand X0.here hx rfl (hb hby at_3) rfl hr) ?_
  refine Rch.step (st' := T.setTop (mkF m 6 #[.val (.int vi0), .val (.int vi1), .val (.int vi2), .val (.int vi3), .val (.int (vi0 &&& (2147483647 : Int32))), .unset, .unset, .unset, .unset, .unset, .unset, .unset, .unset, .unset, .unset, .unset, .unset, .unset, .unset] [])) (fun _ hr => XS.istore X0.here hx rfl (hb hby at_4) rfl (l' := #[.val (.int vi0), .val (.int vi1), .val (.int vi2), .val (.int vi3), .val (.int (vi0 &&& (2147483647 : Int32))), .unset, .unset, .unset, .unset, .unset, .unset, .unset, .unset, .unset, .unset, .unset, .unset, .unset, .unset]) rfl hr) ?_
  refine Rch.step (st' := T.setTop (mkF m 7 #[.val (.int vi0), .val (.int vi1), .val (.int vi2), .val (.int vi3), .val (.int (vi0 &&& (2147483647 : Int32))), .unset, .unset, .unset, .unset, .unset, .unset, .unset, .unset, .unset, .unset, .unset, .unset, .unset, .unset] [(.int vi1)])) (fun _ hr => XS.iloadN X0.here hx rfl (hb hby at_6) rfl hr) ?_
  refine Rch.step (st' := T.setTop (mkF m 9 #[.val (.int vi0), .val (.int vi1), .val (.int vi2), .val (.int vi3), .val (.int (vi0 &&& (2147483647 : Int32))), .unset, .unset, .unset, .unset, .unset, .unset, .unset, .unset, .unset, .unset, .unset, .unset, .unset, .unset] [(.int (2147483647 : Int32)), (.int vi1)])) (fun _ hr => X0.ldcInt hx hown (mvT hZ (hw _ (List.mem_of_getElem? (i := 0) rfl))) (g := (mkF m 7 #[.val (.int vi0), .val (.int vi1), .val (.int vi2), .val (.int vi3), .val (.int (vi0 &&& (2147483647 : Int32))), .unset, .unset, .unset, .unset, .unset, .unset, .unset, .unset, .unset, .unset, .unset, .unset, .unset, .unset] [(.int vi1)])) rfl (hb hby at_7) _ hr) ?_
  refine Rch.step (st' := T.setTop (mkF m 10 #[.val (.int vi0), .val (.int vi1), .val (.int vi2), .val (.int vi3), .val (.int (vi0 &&& (2147483647 : Int32))), .unset, .unset, .unset, .unset, .unset, .unset, .unset, .unset, .unset, .unset, .unset, .unset, .unset, .unset] [(.int (vi1 &&& (2147483647 : Int32)))])) (fun _ hr => XS.iand X0.here hx rfl (hb hby at_9) rfl hr) ?_
  refine Rch.step (st' := T.setTop (mkF m 12 #[.val (.int vi0), .val (.int vi1), .val (.int vi2), .val (.int vi3), .val (.int (vi0 &&& (2147483647 : Int32))), .val (.int (vi1 &&& (2147483647 : Int32))), .unset, .unset, .unset, .unset, .unset, .unset, .unset, .unset, .unset, .unset, .unset, .unset, .unset] [])) (fun _ hr => XS.istore X0.here hx rfl (hb hby at_10) rfl (l' := #[.val (.int vi0), .val (.int vi1), .val (.int vi2), .val (.int vi3), .val (.int (vi0 &&& (2147483647 : Int32))), .val (.int (vi1 &&& (2147483647 : Int32))), .unset, .unset, .unset, .unset, .unset, .unset, .unset, .unset, .unset, .unset, .unset, .unset, .unset]) rfl hr) ?_
  refine Rch.step (st' := T.setTop (mkF m 13 #[.val (.int vi0), .val (.int vi1), .val (.int vi2), .val (.int vi3), .val (.int (vi0 &&& (2147483647 : Int32))), .val (.int (vi1 &&& (2147483647 : Int32))), .unset, .unset, .unset, .unset, .unset, .unset, .unset, .unset, .unset, .unset, .unset, .unset, .unset] [(.int vi2)])) (fun _ hr => XS.iloadN X0.here hx rfl (hb hby at_12) rfl hr) ?_
  refine Rch.step (st' := T.setTop (mkF m 15 #[.val (.int vi0), .val (.int vi1), .val (.int vi2), .val (.int vi3), .val (.int (vi0 &&& (2147483647 : Int32))), .val (.int (vi1 &&& (2147483647 : Int32))), .unset, .unset, .unset, .unset, .unset, .unset, .unset, .unset, .unset, .unset, .unset, .unset, .unset] [(.int (2147483647 : Int32)), (.int vi2)])) (fun _ hr => X0.ldcInt hx hown (mvT hZ (hw _ (List.mem_of_getElem? (i := 0) rfl))) (g := (mkF m 13 #[.val (.int vi0), .val (.int vi1), .val (.int vi2), .val (.int vi3), .val (.int (vi0 &&& (2147483647 : Int32))), .val (.int (vi1 &&& (2147483647 : Int32))), .unset, .unset, .unset, .unset, .unset, .unset, .unset, .unset, .unset, .unset, .unset, .unset, .unset] [(.int vi2)])) rfl (hb hby at_13) _ hr) ?_
  refine Rch.step (st' := T.setTop (mkF m 16 #[.val (.int vi0), .val (.int vi1), .val (.int vi2), .val (.int vi3), .val (.int (vi0 &&& (2147483647 : Int32))), .val (.int (vi1 &&& (2147483647 : Int32))), .unset, .unset, .unset, .unset, .unset, .unset, .unset, .unset, .unset, .unset, .unset, .unset, .unset] [(.int (vi2 &&& (2147483647 : Int32)))])) (fun _ hr => XS.iand X0.here hx rfl (hb hby at_15) rfl hr) ?_
  refine Rch.step (st' := T.setTop (mkF m 18 #[.val (.int vi0), .val (.int vi1), .val (.int vi2), .val (.int vi3), .val (.int (vi0 &&& (2147483647 : Int32))), .val (.int (vi1 &&& (2147483647 : Int32))), .val (.int (vi2 &&& (2147483647 : Int32))), .unset, .unset, .unset, .unset, .unset, .unset, .unset, .unset, .unset, .unset, .unset, .unset] [])) (fun _ hr => XS.istore X0.here hx rfl (hb hby at_16) rfl (l' := #[.val (.int vi0), .val (.int vi1), .val (.int vi2), .val (.int vi3), .val (.int (vi0 &&& (2147483647 : Int32))), .val (.int (vi1 &&& (2147483647 : Int32))), .val (.int (vi2 &&& (2147483647 : Int32))), .unset, .unset, .unset, .unset, .unset, .unset, .unset, .unset, .unset, .unset, .unset, .unset]) rfl hr) ?_
  refine Rch.step (st' := T.setTop (mkF m 19 #[.val (.int vi0), .val (.int vi1), .val (.int vi2), .val (.int vi3), .val (.int (vi0 &&& (2147483647 : Int32))), .val (.int (vi1 &&& (2147483647 : Int32))), .val (.int (vi2 &&& (2147483647 : Int32))), .unset, .unset, .unset, .unset, .unset, .unset, .unset, .unset, .unset, .unset, .unset, .unset] [(.int vi3)])) (fun _ hr => XS.iloadN X0.here hx rfl (hb hby at_18) rfl hr) ?_
  refine Rch.step (st' := T.setTop (mkF m 21 #[.val (.int vi0), .val (.int vi1), .val (.int vi2), .val (.int vi3), .val (.int (vi0 &&& (2147483647 : Int32))), .val (.int (vi1 &&& (2147483647 : Int32))), .val (.int (vi2 &&& (2147483647 : Int32))), .unset, .unset, .unset, .unset, .unset, .unset, .unset, .unset, .unset, .unset, .unset, .unset] [(.int (2147483647 : Int32)), (.int vi3)])) (fun _ hr => X0.ldcInt hx hown (mvT hZ (hw _ (List.mem_of_getElem? (i := 0) rfl))) (g := (mkF m 19 #[.val (.int vi0), .val (.int vi1), .val (.int vi2), .val (.int vi3), .val (.int (vi0 &&& (2147483647 : Int32))), .val (.int (vi1 &&& (2147483647 : Int32))), .val (.int (vi2 &&& (2147483647 : Int32))), .unset, .unset, .unset, .unset, .unset, .unset, .unset, .unset, .unset, .unset, .unset, .unset] [(.int vi3)])) rfl (hb hby at_19) _ hr) ?_
  refine Rch.step (st' := T.setTop (mkF m 22 #[.val (.int vi0), .val (.int vi1), .val (.int vi2), .val (.int vi3), .val (.int (vi0 &&& (2147483647 : Int32))), .val (.int (vi1 &&& (2147483647 : Int32))), .val (.int (vi2 &&& (2147483647 : Int32))), .unset, .unset, .unset, .unset, .unset, .unset, .unset, .unset, .unset, .unset, .unset, .unset] [(.int (vi3 &&& (2147483647 : Int32)))])) (fun _ hr => XS.iand X0.here hx rfl (hb hby at_21) rfl hr) ?_
  refine Rch.step (st' := T.setTop (mkF m 24 #[.val (.int vi0), .val (.int vi1), .val (.int vi2), .val (.int vi3), .val (.int (vi0 &&& (2147483647 : Int32))), .val (.int (vi1 &&& (2147483647 : Int32))), .val (.int (vi2 &&& (2147483647 : Int32))), .val (.int (vi3 &&& (2147483647 : Int32))), .unset, .unset, .unset, .unset, .unset, .unset, .unset, .unset, .unset, .unset, .unset] [])) (fun _ hr => XS.istore X0.here hx rfl (hb hby at_22) rfl (l' := #[.val (.int vi0), .val (.int vi1), .val (.int vi2), .val (.int vi3), .val (.int (vi0 &&& (2147483647 : Int32))), .val (.int (vi1 &&& (2147483647 : Int32))), .val (.int (vi2 &&& (2147483647 : Int32))), .val (.int (vi3 &&& (2147483647 : Int32))), .unset, .unset, .unset, .unset, .unset, .unset, .unset, .unset, .unset, .unset, .unset]) rfl hr) ?_
  obtain ⟨T1, h1, X1, e1, E1, A1, D1, -, st1⟩ := newO X0 hx hZ hown (hw _ (List.mem_of_getElem? (i := 1) rfl)) (hw _ (List.mem_of_getElem? (i := 2) rfl)) (hw _ (List.mem_of_getElem? (i := 3) rfl)) e0 (g := (mkF m 24 #[.val (.int vi0), .val (.int vi1), .val (.int vi2), .val (.int vi3), .val (.int (vi0 &&& (2147483647 : Int32))), .val (.int (vi1 &&& (2147483647 : Int32))), .val (.int (vi2 &&& (2147483647 : Int32))), .val (.int (vi3 &&& (2147483647 : Int32))), .unset, .unset, .unset, .unset, .unset, .unset, .unset, .unset, .unset, .unset, .unset] [])) rfl (hb hby at_24) (by decide) (by decide)
  obtain ⟨b1, g1⟩ : ∃ z, z = h0.size := ⟨_, rfl⟩
  rw [← g1] at A1 D1 st1
  have low_b1 : n0 ≤ b1 := Nat.le_trans Z0 (Nat.le_of_eq g1.symm)
  have Z1 : n0 ≤ h1.size := Nat.le_trans Z0 E1.1
  have Fposition_b1 : Fld Z h1 b1 "com/example/scrapline/scrapline/engine/Splice" "position" "I" (.int (0 : Int32)) := D1 (Or.inr (hw _ (List.mem_of_getElem? (i := 16) rfl))) (ty := .int) (by decide)
  have Fremoved_b1 : Fld Z h1 b1 "com/example/scrapline/scrapline/engine/Splice" "removed" "I" (.int (0 : Int32)) := D1 (Or.inr (hw _ (List.mem_of_getElem? (i := 18) rfl))) (ty := .int) (by decide)
  have Finserted_b1 : Fld Z h1 b1 "com/example/scrapline/scrapline/engine/Splice" "inserted" "I" (.int (0 : Int32)) := D1 (Or.inr (hw _ (List.mem_of_getElem? (i := 20) rfl))) (ty := .int) (by decide)
  refine Rch.step (st' := T1.setTop (mkF m 27 #[.val (.int vi0), .val (.int vi1), .val (.int vi2), .val (.int vi3), .val (.int (vi0 &&& (2147483647 : Int32))), .val (.int (vi1 &&& (2147483647 : Int32))), .val (.int (vi2 &&& (2147483647 : Int32))), .val (.int (vi3 &&& (2147483647 : Int32))), .unset, .unset, .unset, .unset, .unset, .unset, .unset, .unset, .unset, .unset, .unset] [(.ref b1)])) (fun _ hr => st1 _ hr) ?_
  refine Rch.step (st' := T1.setTop (mkF m 28 #[.val (.int vi0), .val (.int vi1), .val (.int vi2), .val (.int vi3), .val (.int (vi0 &&& (2147483647 : Int32))), .val (.int (vi1 &&& (2147483647 : Int32))), .val (.int (vi2 &&& (2147483647 : Int32))), .val (.int (vi3 &&& (2147483647 : Int32))), .unset, .unset, .unset, .unset, .unset, .unset, .unset, .unset, .unset, .unset, .unset] [(.ref b1), (.ref b1)])) (fun _ hr => XS.dup X1.here hx rfl (hb hby at_27) rfl rfl hr) ?_
  refine Rch.step (st' := T1.setTop (mkF m 30 #[.val (.int vi0), .val (.int vi1), .val (.int vi2), .val (.int vi3), .val (.int (vi0 &&& (2147483647 : Int32))), .val (.int (vi1 &&& (2147483647 : Int32))), .val (.int (vi2 &&& (2147483647 : Int32))), .val (.int (vi3 &&& (2147483647 : Int32))), .unset, .unset, .unset, .unset, .unset, .unset, .unset, .unset, .unset, .unset, .unset] [(.int (vi0 &&& (2147483647 : Int32))), (.ref b1), (.ref b1)])) (fun _ hr => XS.iload X1.here hx rfl (hb hby at_28) rfl hr) ?_
  refine Rch.step (st' := T1.setTop (mkF m 32 #[.val (.int vi0), .val (.int vi1), .val (.int vi2), .val (.int vi3), .val (.int (vi0 &&& (2147483647 : Int32))), .val (.int (vi1 &&& (2147483647 : Int32))), .val (.int (vi2 &&& (2147483647 : Int32))), .val (.int (vi3 &&& (2147483647 : Int32))), .unset, .unset, .unset, .unset, .unset, .unset, .unset, .unset, .unset, .unset, .unset] [(.int (vi1 &&& (2147483647 : Int32))), (.int (vi0 &&& (2147483647 : Int32))), (.ref b1), (.ref b1)])) (fun _ hr => XS.iload X1.here hx rfl (hb hby at_30) rfl hr) ?_
  refine Rch.step (st' := T1.setTop (mkF m 34 #[.val (.int vi0), .val (.int vi1), .val (.int vi2), .val (.int vi3), .val (.int (vi0 &&& (2147483647 : Int32))), .val (.int (vi1 &&& (2147483647 : Int32))), .val (.int (vi2 &&& (2147483647 : Int32))), .val (.int (vi3 &&& (2147483647 : Int32))), .unset, .unset, .unset, .unset, .unset, .unset, .unset, .unset, .unset, .unset, .unset] [(.int (vi2 &&& (2147483647 : Int32))), (.int (vi1 &&& (2147483647 : Int32))), (.int (vi0 &&& (2147483647 : Int32))), (.ref b1), (.ref b1)])) (fun _ hr => XS.iload X1.here hx rfl (hb hby at_32) rfl hr) ?_
  obtain ⟨_, _, ⟨T2, L2, k2, n2⟩, -, X2, ⟨Lc2, hQ2, l2, y2, z2⟩, st2⟩ := X1.specialBack hx (y := (⟨"com/example/scrapline/scrapline/engine/Splice", "<init>", "(III)V"⟩ : MethodName)) rfl hown (mvT hZ (hw _ (List.mem_of_getElem? (i := 4) rfl))) (mvT hZ (hw _ (List.mem_of_getElem? (i := 5) rfl))) (mvT hZ (hw _ (List.mem_of_getElem? (i := 6) rfl))) (by decide) (backOf (W := 1) (rm1 l Z a0 hw [] b1 (vi0 &&& (2147483647 : Int32)) (vi1 &&& (2147483647 : Int32)) (vi2 &&& (2147483647 : Int32)) h1 n0 Z1 low_b1 A1 Fposition_b1 Fremoved_b1 Finserted_b1) hZ (hw _ (List.mem_of_getElem? (i := 6) rfl)) (hw _ (List.mem_of_getElem? (i := 3) rfl)) (by decide) (by decide)) (g := (mkF m 34 #[.val (.int vi0), .val (.int vi1), .val (.int vi2), .val (.int vi3), .val (.int (vi0 &&& (2147483647 : Int32))), .val (.int (vi1 &&& (2147483647 : Int32))), .val (.int (vi2 &&& (2147483647 : Int32))), .val (.int (vi3 &&& (2147483647 : Int32))), .unset, .unset, .unset, .unset, .unset, .unset, .unset, .unset, .unset, .unset, .unset] [(.int (vi2 &&& (2147483647 : Int32))), (.int (vi1 &&& (2147483647 : Int32))), (.int (vi0 &&& (2147483647 : Int32))), (.ref b1), (.ref b1)])) rfl (by rw [hml]; rfl) (Steps.refl _) (a := b1) (argsL := [(.int (vi0 &&& (2147483647 : Int32))), (.int (vi1 &&& (2147483647 : Int32))), (.int (vi2 &&& (2147483647 : Int32)))]) (rest := [(.ref b1)]) (lenOf pd1 rfl) rfl (by show 2 * 0 + _ ≤ _; exact Nat.le_of_eq rfl) (hb hby at_34) (fun _ _ => ⟨rfl, e1, (by decide : 1 + 0 ≤ _), (by decide : 3 + 0 ≤ _)⟩)
  dsimp only [Pt.U, Pt.locs, Pt.cells, Pt.slots] at X2 l2 y2 z2 st2 hQ2
  subst l2 y2 z2
  obtain ⟨rfl, N2q, K2q, P2_0, P2_1, P2_2, P2_3⟩ := hQ2
  have Z2 : n0 ≤ T2.heap.size := Nat.le_trans Z1 K2q.1
  have N2 := Fr.app N0 N2q
  refine Rch.step (st' := T2.setTop (mkF m 37 #[.val (.int vi0), .val (.int vi1), .val (.int vi2), .val (.int vi3), .val (.int (vi0 &&& (2147483647 : Int32))), .val (.int (vi1 &&& (2147483647 : Int32))), .val (.int (vi2 &&& (2147483647 : Int32))), .val (.int (vi3 &&& (2147483647 : Int32))), .unset, .unset, .unset, .unset, .unset, .unset, .unset, .unset, .unset, .unset, .unset] [(.ref b1)])) (fun _ hr => st2.trans hr) ?_
  refine Rch.step (st' := T2.setTop (mkF m 39 #[.val (.int vi0), .val (.int vi1), .val (.int vi2), .val (.int vi3), .val (.int (vi0 &&& (2147483647 : Int32))), .val (.int (vi1 &&& (2147483647 : Int32))), .val (.int (vi2 &&& (2147483647 : Int32))), .val (.int (vi3 &&& (2147483647 : Int32))), .val (.ref b1), .unset, .unset, .unset, .unset, .unset, .unset, .unset, .unset, .unset, .unset] [])) (fun _ hr => XS.astore X2.here hx rfl (hb hby at_37) rfl rfl (l' := #[.val (.int vi0), .val (.int vi1), .val (.int vi2), .val (.int vi3), .val (.int (vi0 &&& (2147483647 : Int32))), .val (.int (vi1 &&& (2147483647 : Int32))), .val (.int (vi2 &&& (2147483647 : Int32))), .val (.int (vi3 &&& (2147483647 : Int32))), .val (.ref b1), .unset, .unset, .unset, .unset, .unset, .unset, .unset, .unset, .unset, .unset]) rfl hr) ?_
  refine Rch.step (st' := T2.setTop (mkF m 41 #[.val (.int vi0), .val (.int vi1), .val (.int vi2), .val (.int vi3), .val (.int (vi0 &&& (2147483647 : Int32))), .val (.int (vi1 &&& (2147483647 : Int32))), .val (.int (vi2 &&& (2147483647 : Int32))), .val (.int (vi3 &&& (2147483647 : Int32))), .val (.ref b1), .unset, .unset, .unset, .unset, .unset, .unset, .unset, .unset, .unset, .unset] [(.ref b1)])) (fun _ hr => XS.aload X2.here hx rfl (hb hby at_39) rfl rfl hr) ?_
  refine Rch.step (st' := T2.setTop (mkF m 43 #[.val (.int vi0), .val (.int vi1), .val (.int vi2), .val (.int vi3), .val (.int (vi0 &&& (2147483647 : Int32))), .val (.int (vi1 &&& (2147483647 : Int32))), .val (.int (vi2 &&& (2147483647 : Int32))), .val (.int (vi3 &&& (2147483647 : Int32))), .val (.ref b1), .unset, .unset, .unset, .unset, .unset, .unset, .unset, .unset, .unset, .unset] [(.int (vi3 &&& (2147483647 : Int32))), (.ref b1)])) (fun _ hr => XS.iload X2.here hx rfl (hb hby at_41) rfl hr) ?_
  obtain ⟨cq3, kq3, q3a, q3b, q3c⟩ := isOf hZ rfl P2_0
  obtain ⟨_, _, ⟨T3, L3, k3, n3⟩, -, X3, ⟨Lc3, hQ3, l3, y3, z3⟩, st3⟩ := X2.virtualBack hx (y := (⟨"com/example/scrapline/scrapline/engine/Splice", "moved", "(I)I"⟩ : MethodName)) (z := (⟨"com/example/scrapline/scrapline/engine/Splice", "moved", "(I)I"⟩ : MethodName)) hown (mvT hZ (hw _ (List.mem_of_getElem? (i := 21) rfl))) (mvT hZ (hw _ (List.mem_of_getElem? (i := 22) rfl))) (notFace_of_selects (args := #[]) (mvT hZ (hw _ (List.mem_of_getElem? (i := 24) rfl)))) (mvT hZ (hw _ (List.mem_of_getElem? (i := 24) rfl))) (mvT hZ (hw _ (List.mem_of_getElem? (i := 23) rfl))) (by decide) (backOf (W := 0) (rm4 l Z a0 hw [] b1 (vi3 &&& (2147483647 : Int32)) (vi0 &&& (2147483647 : Int32)) (vi1 &&& (2147483647 : Int32)) (vi2 &&& (2147483647 : Int32)) T2.heap n0 Z2 P2_1 P2_2 P2_3) hZ (hw _ (List.mem_of_getElem? (i := 25) rfl)) (hw _ (List.mem_of_getElem? (i := 3) rfl)) (by decide) (by decide)) q3a q3c (g := (mkF m 43 #[.val (.int vi0), .val (.int vi1), .val (.int vi2), .val (.int vi3), .val (.int (vi0 &&& (2147483647 : Int32))), .val (.int (vi1 &&& (2147483647 : Int32))), .val (.int (vi2 &&& (2147483647 : Int32))), .val (.int (vi3 &&& (2147483647 : Int32))), .val (.ref b1), .unset, .unset, .unset, .unset, .unset, .unset, .unset, .unset, .unset, .unset] [(.int (vi3 &&& (2147483647 : Int32))), (.ref b1)])) rfl (by rw [hml]; rfl) (Steps.refl _) (argsL := [(.int (vi3 &&& (2147483647 : Int32)))]) (rest := []) (lenOf pd4 rfl) rfl (by show 2 * 0 + _ ≤ _; exact Nat.le_of_eq rfl) (hb hby at_43) (fun _ _ => ⟨rfl, rfl, (by decide : 1 + 0 ≤ _), (by decide : 3 + 0 ≤ _)⟩)
  dsimp only [Pt.U, Pt.locs, Pt.cells, Pt.slots] at X3 l3 y3 z3 st3 hQ3
  subst l3 y3 z3
  obtain ⟨rfl, N3q, e3⟩ := hQ3
  have N3 := Fr.app N2 N3q
  refine Rch.step (st' := T3.setTop (mkF m 46 #[.val (.int vi0), .val (.int vi1), .val (.int vi2), .val (.int vi3), .val (.int (vi0 &&& (2147483647 : Int32))), .val (.int (vi1 &&& (2147483647 : Int32))), .val (.int (vi2 &&& (2147483647 : Int32))), .val (.int (vi3 &&& (2147483647 : Int32))), .val (.ref b1), .unset, .unset, .unset, .unset, .unset, .unset, .unset, .unset, .unset, .unset] [(.int (f4_0 (vi3 &&& (2147483647 : Int32)) (vi2 &&& (2147483647 : Int32)) (vi0 &&& (2147483647 : Int32)) (vi1 &&& (2147483647 : Int32))))])) (fun _ hr => st3.trans hr) ?_
  refine Rch.step (st' := T3.setTop (mkF m 48 #[.val (.int vi0), .val (.int vi1), .val (.int vi2), .val (.int vi3), .val (.int (vi0 &&& (2147483647 : Int32))), .val (.int (vi1 &&& (2147483647 : Int32))), .val (.int (vi2 &&& (2147483647 : Int32))), .val (.int (vi3 &&& (2147483647 : Int32))), .val (.ref b1), .val (.int (f4_0 (vi3 &&& (2147483647 : Int32)) (vi2 &&& (2147483647 : Int32)) (vi0 &&& (2147483647 : Int32)) (vi1 &&& (2147483647 : Int32)))), .unset, .unset, .unset, .unset, .unset, .unset, .unset, .unset, .unset] [])) (fun _ hr => XS.istore X3.here hx rfl (hb hby at_46) rfl (l' := #[.val (.int vi0), .val (.int vi1), .val (.int vi2), .val (.int vi3), .val (.int (vi0 &&& (2147483647 : Int32))), .val (.int (vi1 &&& (2147483647 : Int32))), .val (.int (vi2 &&& (2147483647 : Int32))), .val (.int (vi3 &&& (2147483647 : Int32))), .val (.ref b1), .val (.int (f4_0 (vi3 &&& (2147483647 : Int32)) (vi2 &&& (2147483647 : Int32)) (vi0 &&& (2147483647 : Int32)) (vi1 &&& (2147483647 : Int32)))), .unset, .unset, .unset, .unset, .unset, .unset, .unset, .unset, .unset]) rfl hr) ?_
  refine Rch.step (st' := T3.setTop (mkF m 50 #[.val (.int vi0), .val (.int vi1), .val (.int vi2), .val (.int vi3), .val (.int (vi0 &&& (2147483647 : Int32))), .val (.int (vi1 &&& (2147483647 : Int32))), .val (.int (vi2 &&& (2147483647 : Int32))), .val (.int (vi3 &&& (2147483647 : Int32))), .val (.ref b1), .val (.int (f4_0 (vi3 &&& (2147483647 : Int32)) (vi2 &&& (2147483647 : Int32)) (vi0 &&& (2147483647 : Int32)) (vi1 &&& (2147483647 : Int32)))), .unset, .unset, .unset, .unset, .unset, .unset, .unset, .unset, .unset] [(.int (vi3 &&& (2147483647 : Int32)))])) (fun _ hr => XS.iload X3.here hx rfl (hb hby at_48) rfl hr) ?_
  refine Rch.step (st' := T3.setTop (mkF m 51 #[.val (.int vi0), .val (.int vi1), .val (.int vi2), .val (.int vi3), .val (.int (vi0 &&& (2147483647 : Int32))), .val (.int (vi1 &&& (2147483647 : Int32))), .val (.int (vi2 &&& (2147483647 : Int32))), .val (.int (vi3 &&& (2147483647 : Int32))), .val (.ref b1), .val (.int (f4_0 (vi3 &&& (2147483647 : Int32)) (vi2 &&& (2147483647 : Int32)) (vi0 &&& (2147483647 : Int32)) (vi1 &&& (2147483647 : Int32)))), .unset, .unset, .unset, .unset, .unset, .unset, .unset, .unset, .unset] [(.long ((vi3 &&& (2147483647 : Int32)).toInt64))])) (fun _ hr => XS.i2l X3.here hx rfl (hb hby at_50) rfl hr) ?_
  refine Rch.step (st' := T3.setTop (mkF m 53 #[.val (.int vi0), .val (.int vi1), .val (.int vi2), .val (.int vi3), .val (.int (vi0 &&& (2147483647 : Int32))), .val (.int (vi1 &&& (2147483647 : Int32))), .val (.int (vi2 &&& (2147483647 : Int32))), .val (.int (vi3 &&& (2147483647 : Int32))), .val (.ref b1), .val (.int (f4_0 (vi3 &&& (2147483647 : Int32)) (vi2 &&& (2147483647 : Int32)) (vi0 &&& (2147483647 : Int32)) (vi1 &&& (2147483647 : Int32)))), .val (.long ((vi3 &&& (2147483647 : Int32)).toInt64)), .second, .unset, .unset, .unset, .unset, .unset, .unset, .unset] [])) (fun _ hr => XS.lstore X3.here hx rfl (hb hby at_51) rfl (l' := #[.val (.int vi0), .val (.int vi1), .val (.int vi2), .val (.int vi3), .val (.int (vi0 &&& (2147483647 : Int32))), .val (.int (vi1 &&& (2147483647 : Int32))), .val (.int (vi2 &&& (2147483647 : Int32))), .val (.int (vi3 &&& (2147483647 : Int32))), .val (.ref b1), .val (.int (f4_0 (vi3 &&& (2147483647 : Int32)) (vi2 &&& (2147483647 : Int32)) (vi0 &&& (2147483647 : Int32)) (vi1 &&& (2147483647 : Int32)))), .val (.long ((vi3 &&& (2147483647 : Int32)).toInt64)), .second, .unset, .unset, .unset, .unset, .unset, .unset, .unset]) rfl hr) ?_
  refine Rch.step (st' := T3.setTop (mkF m 55 #[.val (.int vi0), .val (.int vi1), .val (.int vi2), .val (.int vi3), .val (.int (vi0 &&& (2147483647 : Int32))), .val (.int (vi1 &&& (2147483647 : Int32))), .val (.int (vi2 &&& (2147483647 : Int32))), .val (.int (vi3 &&& (2147483647 : Int32))), .val (.ref b1), .val (.int (f4_0 (vi3 &&& (2147483647 : Int32)) (vi2 &&& (2147483647 : Int32)) (vi0 &&& (2147483647 : Int32)) (vi1 &&& (2147483647 : Int32)))), .val (.long ((vi3 &&& (2147483647 : Int32)).toInt64)), .second, .unset, .unset, .unset, .unset, .unset, .unset, .unset] [(.int (vi0 &&& (2147483647 : Int32)))])) (fun _ hr => XS.iload X3.here hx rfl (hb hby at_53) rfl hr) ?_
  refine Rch.step (st' := T3.setTop (mkF m 56 #[.val (.int vi0), .val (.int vi1), .val (.int vi2), .val (.int vi3), .val (.int (vi0 &&& (2147483647 : Int32))), .val (.int (vi1 &&& (2147483647 : Int32))), .val (.int (vi2 &&& (2147483647 : Int32))), .val (.int (vi3 &&& (2147483647 : Int32))), .val (.ref b1), .val (.int (f4_0 (vi3 &&& (2147483647 : Int32)) (vi2 &&& (2147483647 : Int32)) (vi0 &&& (2147483647 : Int32)) (vi1 &&& (2147483647 : Int32)))), .val (.long ((vi3 &&& (2147483647 : Int32)).toInt64)), .second, .unset, .unset, .unset, .unset, .unset, .unset, .unset] [(.long ((vi0 &&& (2147483647 : Int32)).toInt64))])) (fun _ hr => XS.i2l X3.here hx rfl (hb hby at_55) rfl hr) ?_
  refine Rch.step (st' := T3.setTop (mkF m 58 #[.val (.int vi0), .val (.int vi1), .val (.int vi2), .val (.int vi3), .val (.int (vi0 &&& (2147483647 : Int32))), .val (.int (vi1 &&& (2147483647 : Int32))), .val (.int (vi2 &&& (2147483647 : Int32))), .val (.int (vi3 &&& (2147483647 : Int32))), .val (.ref b1), .val (.int (f4_0 (vi3 &&& (2147483647 : Int32)) (vi2 &&& (2147483647 : Int32)) (vi0 &&& (2147483647 : Int32)) (vi1 &&& (2147483647 : Int32)))), .val (.long ((vi3 &&& (2147483647 : Int32)).toInt64)), .second, .val (.long ((vi0 &&& (2147483647 : Int32)).toInt64)), .second, .unset, .unset, .unset, .unset, .unset] [])) (fun _ hr => XS.lstore X3.here hx rfl (hb hby at_56) rfl (l' := #[.val (.int vi0), .val (.int vi1), .val (.int vi2), .val (.int vi3), .val (.int (vi0 &&& (2147483647 : Int32))), .val (.int (vi1 &&& (2147483647 : Int32))), .val (.int (vi2 &&& (2147483647 : Int32))), .val (.int (vi3 &&& (2147483647 : Int32))), .val (.ref b1), .val (.int (f4_0 (vi3 &&& (2147483647 : Int32)) (vi2 &&& (2147483647 : Int32)) (vi0 &&& (2147483647 : Int32)) (vi1 &&& (2147483647 : Int32)))), .val (.long ((vi3 &&& (2147483647 : Int32)).toInt64)), .second, .val (.long ((vi0 &&& (2147483647 : Int32)).toInt64)), .second, .unset, .unset, .unset, .unset, .unset]) rfl hr) ?_
  refine Rch.step (st' := T3.setTop (mkF m 60 #[.val (.int vi0), .val (.int vi1), .val (.int vi2), .val (.int vi3), .val (.int (vi0 &&& (2147483647 : Int32))), .val (.int (vi1 &&& (2147483647 : Int32))), .val (.int (vi2 &&& (2147483647 : Int32))), .val (.int (vi3 &&& (2147483647 : Int32))), .val (.ref b1), .val (.int (f4_0 (vi3 &&& (2147483647 : Int32)) (vi2 &&& (2147483647 : Int32)) (vi0 &&& (2147483647 : Int32)) (vi1 &&& (2147483647 : Int32)))), .val (.long ((vi3 &&& (2147483647 : Int32)).toInt64)), .second, .val (.long ((vi0 &&& (2147483647 : Int32)).toInt64)), .second, .unset, .unset, .unset, .unset, .unset] [(.int (vi1 &&& (2147483647 : Int32)))])) (fun _ hr => XS.iload X3.here hx rfl (hb hby at_58) rfl hr) ?_
  refine Rch.step (st' := T3.setTop (mkF m 61 #[.val (.int vi0), .val (.int vi1), .val (.int vi2), .val (.int vi3), .val (.int (vi0 &&& (2147483647 : Int32))), .val (.int (vi1 &&& (2147483647 : Int32))), .val (.int (vi2 &&& (2147483647 : Int32))), .val (.int (vi3 &&& (2147483647 : Int32))), .val (.ref b1), .val (.int (f4_0 (vi3 &&& (2147483647 : Int32)) (vi2 &&& (2147483647 : Int32)) (vi0 &&& (2147483647 : Int32)) (vi1 &&& (2147483647 : Int32)))), .val (.long ((vi3 &&& (2147483647 : Int32)).toInt64)), .second, .val (.long ((vi0 &&& (2147483647 : Int32)).toInt64)), .second, .unset, .unset, .unset, .unset, .unset] [(.long ((vi1 &&& (2147483647 : Int32)).toInt64))])) (fun _ hr => XS.i2l X3.here hx rfl (hb hby at_60) rfl hr) ?_
  refine Rch.step (st' := T3.setTop (mkF m 63 #[.val (.int vi0), .val (.int vi1), .val (.int vi2), .val (.int vi3), .val (.int (vi0 &&& (2147483647 : Int32))), .val (.int (vi1 &&& (2147483647 : Int32))), .val (.int (vi2 &&& (2147483647 : Int32))), .val (.int (vi3 &&& (2147483647 : Int32))), .val (.ref b1), .val (.int (f4_0 (vi3 &&& (2147483647 : Int32)) (vi2 &&& (2147483647 : Int32)) (vi0 &&& (2147483647 : Int32)) (vi1 &&& (2147483647 : Int32)))), .val (.long ((vi3 &&& (2147483647 : Int32)).toInt64)), .second, .val (.long ((vi0 &&& (2147483647 : Int32)).toInt64)), .second, .val (.long ((vi1 &&& (2147483647 : Int32)).toInt64)), .second, .unset, .unset, .unset] [])) (fun _ hr => XS.lstore X3.here hx rfl (hb hby at_61) rfl (l' := #[.val (.int vi0), .val (.int vi1), .val (.int vi2), .val (.int vi3), .val (.int (vi0 &&& (2147483647 : Int32))), .val (.int (vi1 &&& (2147483647 : Int32))), .val (.int (vi2 &&& (2147483647 : Int32))), .val (.int (vi3 &&& (2147483647 : Int32))), .val (.ref b1), .val (.int (f4_0 (vi3 &&& (2147483647 : Int32)) (vi2 &&& (2147483647 : Int32)) (vi0 &&& (2147483647 : Int32)) (vi1 &&& (2147483647 : Int32)))), .val (.long ((vi3 &&& (2147483647 : Int32)).toInt64)), .second, .val (.long ((vi0 &&& (2147483647 : Int32)).toInt64)), .second, .val (.long ((vi1 &&& (2147483647 : Int32)).toInt64)), .second, .unset, .unset, .unset]) rfl hr) ?_
  refine Rch.step (st' := T3.setTop (mkF m 65 #[.val (.int vi0), .val (.int vi1), .val (.int vi2), .val (.int vi3), .val (.int (vi0 &&& (2147483647 : Int32))), .val (.int (vi1 &&& (2147483647 : Int32))), .val (.int (vi2 &&& (2147483647 : Int32))), .val (.int (vi3 &&& (2147483647 : Int32))), .val (.ref b1), .val (.int (f4_0 (vi3 &&& (2147483647 : Int32)) (vi2 &&& (2147483647 : Int32)) (vi0 &&& (2147483647 : Int32)) (vi1 &&& (2147483647 : Int32)))), .val (.long ((vi3 &&& (2147483647 : Int32)).toInt64)), .second, .val (.long ((vi0 &&& (2147483647 : Int32)).toInt64)), .second, .val (.long ((vi1 &&& (2147483647 : Int32)).toInt64)), .second, .unset, .unset, .unset] [(.int (vi2 &&& (2147483647 : Int32)))])) (fun _ hr => XS.iload X3.here hx rfl (hb hby at_63) rfl hr) ?_
  refine Rch.step (st' := T3.setTop (mkF m 66 #[.val (.int vi0), .val (.int vi1), .val (.int vi2), .val (.int vi3), .val (.int (vi0 &&& (2147483647 : Int32))), .val (.int (vi1 &&& (2147483647 : Int32))), .val (.int (vi2 &&& (2147483647 : Int32))), .val (.int (vi3 &&& (2147483647 : Int32))), .val (.ref b1), .val (.int (f4_0 (vi3 &&& (2147483647 : Int32)) (vi2 &&& (2147483647 : Int32)) (vi0 &&& (2147483647 : Int32)) (vi1 &&& (2147483647 : Int32)))), .val (.long ((vi3 &&& (2147483647 : Int32)).toInt64)), .second, .val (.long ((vi0 &&& (2147483647 : Int32)).toInt64)), .second, .val (.long ((vi1 &&& (2147483647 : Int32)).toInt64)), .second, .unset, .unset, .unset] [(.long ((vi2 &&& (2147483647 : Int32)).toInt64))])) (fun _ hr => XS.i2l X3.here hx rfl (hb hby at_65) rfl hr) ?_
  refine Rch.step (st' := T3.setTop (mkF m 68 #[.val (.int vi0), .val (.int vi1), .val (.int vi2), .val (.int vi3), .val (.int (vi0 &&& (2147483647 : Int32))), .val (.int (vi1 &&& (2147483647 : Int32))), .val (.int (vi2 &&& (2147483647 : Int32))), .val (.int (vi3 &&& (2147483647 : Int32))), .val (.ref b1), .val (.int (f4_0 (vi3 &&& (2147483647 : Int32)) (vi2 &&& (2147483647 : Int32)) (vi0 &&& (2147483647 : Int32)) (vi1 &&& (2147483647 : Int32)))), .val (.long ((vi3 &&& (2147483647 : Int32)).toInt64)), .second, .val (.long ((vi0 &&& (2147483647 : Int32)).toInt64)), .second, .val (.long ((vi1 &&& (2147483647 : Int32)).toInt64)), .second, .val (.long ((vi2 &&& (2147483647 : Int32)).toInt64)), .second, .unset] [])) (fun _ hr => XS.lstore X3.here hx rfl (hb hby at_66) rfl (l' := #[.val (.int vi0), .val (.int vi1), .val (.int vi2), .val (.int vi3), .val (.int (vi0 &&& (2147483647 : Int32))), .val (.int (vi1 &&& (2147483647 : Int32))), .val (.int (vi2 &&& (2147483647 : Int32))), .val (.int (vi3 &&& (2147483647 : Int32))), .val (.ref b1), .val (.int (f4_0 (vi3 &&& (2147483647 : Int32)) (vi2 &&& (2147483647 : Int32)) (vi0 &&& (2147483647 : Int32)) (vi1 &&& (2147483647 : Int32)))), .val (.long ((vi3 &&& (2147483647 : Int32)).toInt64)), .second, .val (.long ((vi0 &&& (2147483647 : Int32)).toInt64)), .second, .val (.long ((vi1 &&& (2147483647 : Int32)).toInt64)), .second, .val (.long ((vi2 &&& (2147483647 : Int32)).toInt64)), .second, .unset]) rfl hr) ?_
  refine Rch.step (st' := T3.setTop (mkF m 70 #[.val (.int vi0), .val (.int vi1), .val (.int vi2), .val (.int vi3), .val (.int (vi0 &&& (2147483647 : Int32))), .val (.int (vi1 &&& (2147483647 : Int32))), .val (.int (vi2 &&& (2147483647 : Int32))), .val (.int (vi3 &&& (2147483647 : Int32))), .val (.ref b1), .val (.int (f4_0 (vi3 &&& (2147483647 : Int32)) (vi2 &&& (2147483647 : Int32)) (vi0 &&& (2147483647 : Int32)) (vi1 &&& (2147483647 : Int32)))), .val (.long ((vi3 &&& (2147483647 : Int32)).toInt64)), .second, .val (.long ((vi0 &&& (2147483647 : Int32)).toInt64)), .second, .val (.long ((vi1 &&& (2147483647 : Int32)).toInt64)), .second, .val (.long ((vi2 &&& (2147483647 : Int32)).toInt64)), .second, .unset] [(.long ((vi3 &&& (2147483647 : Int32)).toInt64))])) (fun _ hr => XS.lload X3.here hx rfl (hb hby at_68) rfl hr) ?_
  refine Rch.step (st' := T3.setTop (mkF m 72 #[.val (.int vi0), .val (.int vi1), .val (.int vi2), .val (.int vi3), .val (.int (vi0 &&& (2147483647 : Int32))), .val (.int (vi1 &&& (2147483647 : Int32))), .val (.int (vi2 &&& (2147483647 : Int32))), .val (.int (vi3 &&& (2147483647 : Int32))), .val (.ref b1), .val (.int (f4_0 (vi3 &&& (2147483647 : Int32)) (vi2 &&& (2147483647 : Int32)) (vi0 &&& (2147483647 : Int32)) (vi1 &&& (2147483647 : Int32)))), .val (.long ((vi3 &&& (2147483647 : Int32)).toInt64)), .second, .val (.long ((vi0 &&& (2147483647 : Int32)).toInt64)), .second, .val (.long ((vi1 &&& (2147483647 : Int32)).toInt64)), .second, .val (.long ((vi2 &&& (2147483647 : Int32)).toInt64)), .second, .unset] [(.long ((vi0 &&& (2147483647 : Int32)).toInt64)), (.long ((vi3 &&& (2147483647 : Int32)).toInt64))])) (fun _ hr => XS.lload X3.here hx rfl (hb hby at_70) rfl hr) ?_
  refine Rch.step (st' := T3.setTop (mkF m 73 #[.val (.int vi0), .val (.int vi1), .val (.int vi2), .val (.int vi3), .val (.int (vi0 &&& (2147483647 : Int32))), .val (.int (vi1 &&& (2147483647 : Int32))), .val (.int (vi2 &&& (2147483647 : Int32))), .val (.int (vi3 &&& (2147483647 : Int32))), .val (.ref b1), .val (.int (f4_0 (vi3 &&& (2147483647 : Int32)) (vi2 &&& (2147483647 : Int32)) (vi0 &&& (2147483647 : Int32)) (vi1 &&& (2147483647 : Int32)))), .val (.long ((vi3 &&& (2147483647 : Int32)).toInt64)), .second, .val (.long ((vi0 &&& (2147483647 : Int32)).toInt64)), .second, .val (.long ((vi1 &&& (2147483647 : Int32)).toInt64)), .second, .val (.long ((vi2 &&& (2147483647 : Int32)).toInt64)), .second, .unset] [(.int (lcmpW ((vi3 &&& (2147483647 : Int32)).toInt64) ((vi0 &&& (2147483647 : Int32)).toInt64)))])) (fun _ hr => XS.lcmp X3.here hx rfl (hb hby at_72) rfl hr) ?_
  by_cases hc4 : ((vi3 &&& (2147483647 : Int32)).toInt64) < ((vi0 &&& (2147483647 : Int32)).toInt64)
  · rw [if_pos hc4]
    refine Rch.step (st' := T3.setTop (mkF m 76 #[.val (.int vi0), .val (.int vi1), .val (.int vi2), .val (.int vi3), .val (.int (vi0 &&& (2147483647 : Int32))), .val (.int (vi1 &&& (2147483647 : Int32))), .val (.int (vi2 &&& (2147483647 : Int32))), .val (.int (vi3 &&& (2147483647 : Int32))), .val (.ref b1), .val (.int (f4_0 (vi3 &&& (2147483647 : Int32)) (vi2 &&& (2147483647 : Int32)) (vi0 &&& (2147483647 : Int32)) (vi1 &&& (2147483647 : Int32)))), .val (.long ((vi3 &&& (2147483647 : Int32)).toInt64)), .second, .val (.long ((vi0 &&& (2147483647 : Int32)).toInt64)), .second, .val (.long ((vi1 &&& (2147483647 : Int32)).toInt64)), .second, .val (.long ((vi2 &&& (2147483647 : Int32)).toInt64)), .second, .unset] [])) (fun _ hr => XS.ifNo X3.here hx rfl (hb hby at_73) rfl ((if0 _ _).trans (tlt ((lw_lt ((vi3 &&& (2147483647 : Int32)).toInt64) ((vi0 &&& (2147483647 : Int32)).toInt64)).mpr hc4)).2.1) hr) ?_
    refine Rch.step (st' := T3.setTop (mkF m 78 #[.val (.int vi0), .val (.int vi1), .val (.int vi2), .val (.int vi3), .val (.int (vi0 &&& (2147483647 : Int32))), .val (.int (vi1 &&& (2147483647 : Int32))), .val (.int (vi2 &&& (2147483647 : Int32))), .val (.int (vi3 &&& (2147483647 : Int32))), .val (.ref b1), .val (.int (f4_0 (vi3 &&& (2147483647 : Int32)) (vi2 &&& (2147483647 : Int32)) (vi0 &&& (2147483647 : Int32)) (vi1 &&& (2147483647 : Int32)))), .val (.long ((vi3 &&& (2147483647 : Int32)).toInt64)), .second, .val (.long ((vi0 &&& (2147483647 : Int32)).toInt64)), .second, .val (.long ((vi1 &&& (2147483647 : Int32)).toInt64)), .second, .val (.long ((vi2 &&& (2147483647 : Int32)).toInt64)), .second, .unset] [(.int (vi3 &&& (2147483647 : Int32)))])) (fun _ hr => XS.iload X3.here hx rfl (hb hby at_76) rfl hr) ?_
    refine Rch.step (st' := T3.setTop (mkF m 80 #[.val (.int vi0), .val (.int vi1), .val (.int vi2), .val (.int vi3), .val (.int (vi0 &&& (2147483647 : Int32))), .val (.int (vi1 &&& (2147483647 : Int32))), .val (.int (vi2 &&& (2147483647 : Int32))), .val (.int (vi3 &&& (2147483647 : Int32))), .val (.ref b1), .val (.int (f4_0 (vi3 &&& (2147483647 : Int32)) (vi2 &&& (2147483647 : Int32)) (vi0 &&& (2147483647 : Int32)) (vi1 &&& (2147483647 : Int32)))), .val (.long ((vi3 &&& (2147483647 : Int32)).toInt64)), .second, .val (.long ((vi0 &&& (2147483647 : Int32)).toInt64)), .second, .val (.long ((vi1 &&& (2147483647 : Int32)).toInt64)), .second, .val (.long ((vi2 &&& (2147483647 : Int32)).toInt64)), .second, .val (.int (vi3 &&& (2147483647 : Int32)))] [])) (fun _ hr => XS.istore X3.here hx rfl (hb hby at_78) rfl (l' := #[.val (.int vi0), .val (.int vi1), .val (.int vi2), .val (.int vi3), .val (.int (vi0 &&& (2147483647 : Int32))), .val (.int (vi1 &&& (2147483647 : Int32))), .val (.int (vi2 &&& (2147483647 : Int32))), .val (.int (vi3 &&& (2147483647 : Int32))), .val (.ref b1), .val (.int (f4_0 (vi3 &&& (2147483647 : Int32)) (vi2 &&& (2147483647 : Int32)) (vi0 &&& (2147483647 : Int32)) (vi1 &&& (2147483647 : Int32)))), .val (.long ((vi3 &&& (2147483647 : Int32)).toInt64)), .second, .val (.long ((vi0 &&& (2147483647 : Int32)).toInt64)), .second, .val (.long ((vi1 &&& (2147483647 : Int32)).toInt64)), .second, .val (.long ((vi2 &&& (2147483647 : Int32)).toInt64)), .second, .val (.int (vi3 &&& (2147483647 : Int32)))]) rfl hr) ?_
    refine Rch.step (st' := T3.setTop (mkF m 111 #[.val (.int vi0), .val (.int vi1), .val (.int vi2), .val (.int vi3), .val (.int (vi0 &&& (2147483647 : Int32))), .val (.int (vi1 &&& (2147483647 : Int32))), .val (.int (vi2 &&& (2147483647 : Int32))), .val (.int (vi3 &&& (2147483647 : Int32))), .val (.ref b1), .val (.int (f4_0 (vi3 &&& (2147483647 : Int32)) (vi2 &&& (2147483647 : Int32)) (vi0 &&& (2147483647 : Int32)) (vi1 &&& (2147483647 : Int32)))), .val (.long ((vi3 &&& (2147483647 : Int32)).toInt64)), .second, .val (.long ((vi0 &&& (2147483647 : Int32)).toInt64)), .second, .val (.long ((vi1 &&& (2147483647 : Int32)).toInt64)), .second, .val (.long ((vi2 &&& (2147483647 : Int32)).toInt64)), .second, .val (.int (vi3 &&& (2147483647 : Int32)))] [])) (fun _ hr => XS.goto X3.here hx rfl (pc0 := 80) (pc' := 111) rfl (hb hby at_80) (by decide) (by decide) hr) ?_
    exact b0_111 ⟨X3, hx, hZ, hw, hby, hml, hown, hret, hlk, e3, Z2, N3⟩ vi0 vi1 vi2 vi3 (vi0 &&& (2147483647 : Int32)) (vi1 &&& (2147483647 : Int32)) (vi2 &&& (2147483647 : Int32)) (vi3 &&& (2147483647 : Int32)) b1 (f4_0 (vi3 &&& (2147483647 : Int32)) (vi2 &&& (2147483647 : Int32)) (vi0 &&& (2147483647 : Int32)) (vi1 &&& (2147483647 : Int32))) ((vi3 &&& (2147483647 : Int32)).toInt64) ((vi0 &&& (2147483647 : Int32)).toInt64) ((vi1 &&& (2147483647 : Int32)).toInt64) ((vi2 &&& (2147483647 : Int32)).toInt64) (vi3 &&& (2147483647 : Int32)) (vi2 &&& (2147483647 : Int32)) (vi0 &&& (2147483647 : Int32)) (vi1 &&& (2147483647 : Int32)) P2_0 P2_3 P2_1 P2_2 low_b1
  · rw [if_neg hc4]
    refine Rch.step (st' := T3.setTop (mkF m 83 #[.val (.int vi0), .val (.int vi1), .val (.int vi2), .val (.int vi3), .val (.int (vi0 &&& (2147483647 : Int32))), .val (.int (vi1 &&& (2147483647 : Int32))), .val (.int (vi2 &&& (2147483647 : Int32))), .val (.int (vi3 &&& (2147483647 : Int32))), .val (.ref b1), .val (.int (f4_0 (vi3 &&& (2147483647 : Int32)) (vi2 &&& (2147483647 : Int32)) (vi0 &&& (2147483647 : Int32)) (vi1 &&& (2147483647 : Int32)))), .val (.long ((vi3 &&& (2147483647 : Int32)).toInt64)), .second, .val (.long ((vi0 &&& (2147483647 : Int32)).toInt64)), .second, .val (.long ((vi1 &&& (2147483647 : Int32)).toInt64)), .second, .val (.long ((vi2 &&& (2147483647 : Int32)).toInt64)), .second, .unset] [])) (fun _ hr => XS.ifYes X3.here hx rfl (pc0 := 73) (pc' := 83) rfl (hb hby at_73) rfl ((if0 _ _).trans (flt (fun q => hc4 ((lw_lt ((vi3 &&& (2147483647 : Int32)).toInt64) ((vi0 &&& (2147483647 : Int32)).toInt64)).mp q))).2.1) (by decide) (by decide) hr) ?_
    refine Rch.step (st' := T3.setTop (mkF m 85 #[.val (.int vi0), .val (.int vi1), .val (.int vi2), .val (.int vi3), .val (.int (vi0 &&& (2147483647 : Int32))), .val (.int (vi1 &&& (2147483647 : Int32))), .val (.int (vi2 &&& (2147483647 : Int32))), .val (.int (vi3 &&& (2147483647 : Int32))), .val (.ref b1), .val (.int (f4_0 (vi3 &&& (2147483647 : Int32)) (vi2 &&& (2147483647 : Int32)) (vi0 &&& (2147483647 : Int32)) (vi1 &&& (2147483647 : Int32)))), .val (.long ((vi3 &&& (2147483647 : Int32)).toInt64)), .second, .val (.long ((vi0 &&& (2147483647 : Int32)).toInt64)), .second, .val (.long ((vi1 &&& (2147483647 : Int32)).toInt64)), .second, .val (.long ((vi2 &&& (2147483647 : Int32)).toInt64)), .second, .unset] [(.long ((vi3 &&& (2147483647 : Int32)).toInt64))])) (fun _ hr => XS.lload X3.here hx rfl (hb hby at_83) rfl hr) ?_
    refine Rch.step (st' := T3.setTop (mkF m 87 #[.val (.int vi0), .val (.int vi1), .val (.int vi2), .val (.int vi3), .val (.int (vi0 &&& (2147483647 : Int32))), .val (.int (vi1 &&& (2147483647 : Int32))), .val (.int (vi2 &&& (2147483647 : Int32))), .val (.int (vi3 &&& (2147483647 : Int32))), .val (.ref b1), .val (.int (f4_0 (vi3 &&& (2147483647 : Int32)) (vi2 &&& (2147483647 : Int32)) (vi0 &&& (2147483647 : Int32)) (vi1 &&& (2147483647 : Int32)))), .val (.long ((vi3 &&& (2147483647 : Int32)).toInt64)), .second, .val (.long ((vi0 &&& (2147483647 : Int32)).toInt64)), .second, .val (.long ((vi1 &&& (2147483647 : Int32)).toInt64)), .second, .val (.long ((vi2 &&& (2147483647 : Int32)).toInt64)), .second, .unset] [(.long ((vi0 &&& (2147483647 : Int32)).toInt64)), (.long ((vi3 &&& (2147483647 : Int32)).toInt64))])) (fun _ hr => XS.lload X3.here hx rfl (hb hby at_85) rfl hr) ?_
    refine Rch.step (st' := T3.setTop (mkF m 89 #[.val (.int vi0), .val (.int vi1), .val (.int vi2), .val (.int vi3), .val (.int (vi0 &&& (2147483647 : Int32))), .val (.int (vi1 &&& (2147483647 : Int32))), .val (.int (vi2 &&& (2147483647 : Int32))), .val (.int (vi3 &&& (2147483647 : Int32))), .val (.ref b1), .val (.int (f4_0 (vi3 &&& (2147483647 : Int32)) (vi2 &&& (2147483647 : Int32)) (vi0 &&& (2147483647 : Int32)) (vi1 &&& (2147483647 : Int32)))), .val (.long ((vi3 &&& (2147483647 : Int32)).toInt64)), .second, .val (.long ((vi0 &&& (2147483647 : Int32)).toInt64)), .second, .val (.long ((vi1 &&& (2147483647 : Int32)).toInt64)), .second, .val (.long ((vi2 &&& (2147483647 : Int32)).toInt64)), .second, .unset] [(.long ((vi1 &&& (2147483647 : Int32)).toInt64)), (.long ((vi0 &&& (2147483647 : Int32)).toInt64)), (.long ((vi3 &&& (2147483647 : Int32)).toInt64))])) (fun _ hr => XS.lload X3.here hx rfl (hb hby at_87) rfl hr) ?_
    refine Rch.step (st' := T3.setTop (mkF m 90 #[.val (.int vi0), .val (.int vi1), .val (.int vi2), .val (.int vi3), .val (.int (vi0 &&& (2147483647 : Int32))), .val (.int (vi1 &&& (2147483647 : Int32))), .val (.int (vi2 &&& (2147483647 : Int32))), .val (.int (vi3 &&& (2147483647 : Int32))), .val (.ref b1), .val (.int (f4_0 (vi3 &&& (2147483647 : Int32)) (vi2 &&& (2147483647 : Int32)) (vi0 &&& (2147483647 : Int32)) (vi1 &&& (2147483647 : Int32)))), .val (.long ((vi3 &&& (2147483647 : Int32)).toInt64)), .second, .val (.long ((vi0 &&& (2147483647 : Int32)).toInt64)), .second, .val (.long ((vi1 &&& (2147483647 : Int32)).toInt64)), .second, .val (.long ((vi2 &&& (2147483647 : Int32)).toInt64)), .second, .unset] [(.long (((vi0 &&& (2147483647 : Int32)).toInt64) + ((vi1 &&& (2147483647 : Int32)).toInt64))), (.long ((vi3 &&& (2147483647 : Int32)).toInt64))])) (fun _ hr => XS.ladd X3.here hx rfl (hb hby at_89) rfl hr) ?_
    refine Rch.step (st' := T3.setTop (mkF m 91 #[.val (.int vi0), .val (.int vi1), .val (.int vi2), .val (.int vi3), .val (.int (vi0 &&& (2147483647 : Int32))), .val (.int (vi1 &&& (2147483647 : Int32))), .val (.int (vi2 &&& (2147483647 : Int32))), .val (.int (vi3 &&& (2147483647 : Int32))), .val (.ref b1), .val (.int (f4_0 (vi3 &&& (2147483647 : Int32)) (vi2 &&& (2147483647 : Int32)) (vi0 &&& (2147483647 : Int32)) (vi1 &&& (2147483647 : Int32)))), .val (.long ((vi3 &&& (2147483647 : Int32)).toInt64)), .second, .val (.long ((vi0 &&& (2147483647 : Int32)).toInt64)), .second, .val (.long ((vi1 &&& (2147483647 : Int32)).toInt64)), .second, .val (.long ((vi2 &&& (2147483647 : Int32)).toInt64)), .second, .unset] [(.int (lcmpW ((vi3 &&& (2147483647 : Int32)).toInt64) (((vi0 &&& (2147483647 : Int32)).toInt64) + ((vi1 &&& (2147483647 : Int32)).toInt64))))])) (fun _ hr => XS.lcmp X3.here hx rfl (hb hby at_90) rfl hr) ?_
    by_cases hc5 : ((vi3 &&& (2147483647 : Int32)).toInt64) < (((vi0 &&& (2147483647 : Int32)).toInt64) + ((vi1 &&& (2147483647 : Int32)).toInt64))
    · rw [if_pos hc5]
      refine Rch.step (st' := T3.setTop (mkF m 94 #[.val (.int vi0), .val (.int vi1), .val (.int vi2), .val (.int vi3), .val (.int (vi0 &&& (2147483647 : Int32))), .val (.int (vi1 &&& (2147483647 : Int32))), .val (.int (vi2 &&& (2147483647 : Int32))), .val (.int (vi3 &&& (2147483647 : Int32))), .val (.ref b1), .val (.int (f4_0 (vi3 &&& (2147483647 : Int32)) (vi2 &&& (2147483647 : Int32)) (vi0 &&& (2147483647 : Int32)) (vi1 &&& (2147483647 : Int32)))), .val (.long ((vi3 &&& (2147483647 : Int32)).toInt64)), .second, .val (.long ((vi0 &&& (2147483647 : Int32)).toInt64)), .second, .val (.long ((vi1 &&& (2147483647 : Int32)).toInt64)), .second, .val (.long ((vi2 &&& (2147483647 : Int32)).toInt64)), .second, .unset] [])) (fun _ hr => XS.ifNo X3.here hx rfl (hb hby at_91) rfl ((if0 _ _).trans (tlt ((lw_lt ((vi3 &&& (2147483647 : Int32)).toInt64) (((vi0 &&& (2147483647 : Int32)).toInt64) + ((vi1 &&& (2147483647 : Int32)).toInt64))).mpr hc5)).2.1) hr) ?_
      refine Rch.step (st' := T3.setTop (mkF m 95 #[.val (.int vi0), .val (.int vi1), .val (.int vi2), .val (.int vi3), .val (.int (vi0 &&& (2147483647 : Int32))), .val (.int (vi1 &&& (2147483647 : Int32))), .val (.int (vi2 &&& (2147483647 : Int32))), .val (.int (vi3 &&& (2147483647 : Int32))), .val (.ref b1), .val (.int (f4_0 (vi3 &&& (2147483647 : Int32)) (vi2 &&& (2147483647 : Int32)) (vi0 &&& (2147483647 : Int32)) (vi1 &&& (2147483647 : Int32)))), .val (.long ((vi3 &&& (2147483647 : Int32)).toInt64)), .second, .val (.long ((vi0 &&& (2147483647 : Int32)).toInt64)), .second, .val (.long ((vi1 &&& (2147483647 : Int32)).toInt64)), .second, .val (.long ((vi2 &&& (2147483647 : Int32)).toInt64)), .second, .unset] [(.int (-1 : Int32))])) (fun _ hr => XS.iconst X3.here hx rfl (hb hby at_94) hr) ?_
      refine Rch.step (st' := T3.setTop (mkF m 97 #[.val (.int vi0), .val (.int vi1), .val (.int vi2), .val (.int vi3), .val (.int (vi0 &&& (2147483647 : Int32))), .val (.int (vi1 &&& (2147483647 : Int32))), .val (.int (vi2 &&& (2147483647 : Int32))), .val (.int (vi3 &&& (2147483647 : Int32))), .val (.ref b1), .val (.int (f4_0 (vi3 &&& (2147483647 : Int32)) (vi2 &&& (2147483647 : Int32)) (vi0 &&& (2147483647 : Int32)) (vi1 &&& (2147483647 : Int32)))), .val (.long ((vi3 &&& (2147483647 : Int32)).toInt64)), .second, .val (.long ((vi0 &&& (2147483647 : Int32)).toInt64)), .second, .val (.long ((vi1 &&& (2147483647 : Int32)).toInt64)), .second, .val (.long ((vi2 &&& (2147483647 : Int32)).toInt64)), .second, .val (.int (-1 : Int32))] [])) (fun _ hr => XS.istore X3.here hx rfl (hb hby at_95) rfl (l' := #[.val (.int vi0), .val (.int vi1), .val (.int vi2), .val (.int vi3), .val (.int (vi0 &&& (2147483647 : Int32))), .val (.int (vi1 &&& (2147483647 : Int32))), .val (.int (vi2 &&& (2147483647 : Int32))), .val (.int (vi3 &&& (2147483647 : Int32))), .val (.ref b1), .val (.int (f4_0 (vi3 &&& (2147483647 : Int32)) (vi2 &&& (2147483647 : Int32)) (vi0 &&& (2147483647 : Int32)) (vi1 &&& (2147483647 : Int32)))), .val (.long ((vi3 &&& (2147483647 : Int32)).toInt64)), .second, .val (.long ((vi0 &&& (2147483647 : Int32)).toInt64)), .second, .val (.long ((vi1 &&& (2147483647 : Int32)).toInt64)), .second, .val (.long ((vi2 &&& (2147483647 : Int32)).toInt64)), .second, .val (.int (-1 : Int32))]) rfl hr) ?_
      refine Rch.step (st' := T3.setTop (mkF m 111 #[.val (.int vi0), .val (.int vi1), .val (.int vi2), .val (.int vi3), .val (.int (vi0 &&& (2147483647 : Int32))), .val (.int (vi1 &&& (2147483647 : Int32))), .val (.int (vi2 &&& (2147483647 : Int32))), .val (.int (vi3 &&& (2147483647 : Int32))), .val (.ref b1), .val (.int (f4_0 (vi3 &&& (2147483647 : Int32)) (vi2 &&& (2147483647 : Int32)) (vi0 &&& (2147483647 : Int32)) (vi1 &&& (2147483647 : Int32)))), .val (.long ((vi3 &&& (2147483647 : Int32)).toInt64)), .second, .val (.long ((vi0 &&& (2147483647 : Int32)).toInt64)), .second, .val (.long ((vi1 &&& (2147483647 : Int32)).toInt64)), .second, .val (.long ((vi2 &&& (2147483647 : Int32)).toInt64)), .second, .val (.int (-1 : Int32))] [])) (fun _ hr => XS.goto X3.here hx rfl (pc0 := 97) (pc' := 111) rfl (hb hby at_97) (by decide) (by decide) hr) ?_
      exact b0_111 ⟨X3, hx, hZ, hw, hby, hml, hown, hret, hlk, e3, Z2, N3⟩ vi0 vi1 vi2 vi3 (vi0 &&& (2147483647 : Int32)) (vi1 &&& (2147483647 : Int32)) (vi2 &&& (2147483647 : Int32)) (vi3 &&& (2147483647 : Int32)) b1 (f4_0 (vi3 &&& (2147483647 : Int32)) (vi2 &&& (2147483647 : Int32)) (vi0 &&& (2147483647 : Int32)) (vi1 &&& (2147483647 : Int32))) ((vi3 &&& (2147483647 : Int32)).toInt64) ((vi0 &&& (2147483647 : Int32)).toInt64) ((vi1 &&& (2147483647 : Int32)).toInt64) ((vi2 &&& (2147483647 : Int32)).toInt64) (-1 : Int32) (vi2 &&& (2147483647 : Int32)) (vi0 &&& (2147483647 : Int32)) (vi1 &&& (2147483647 : Int32)) P2_0 P2_3 P2_1 P2_2 low_b1
    · rw [if_neg hc5]
      refine Rch.step (st' := T3.setTop (mkF m 100 #[.val (.int vi0), .val (.int vi1), .val (.int vi2), .val (.int vi3), .val (.int (vi0 &&& (2147483647 : Int32))), .val (.int (vi1 &&& (2147483647 : Int32))), .val (.int (vi2 &&& (2147483647 : Int32))), .val (.int (vi3 &&& (2147483647 : Int32))), .val (.ref b1), .val (.int (f4_0 (vi3 &&& (2147483647 : Int32)) (vi2 &&& (2147483647 : Int32)) (vi0 &&& (2147483647 : Int32)) (vi1 &&& (2147483647 : Int32)))), .val (.long ((vi3 &&& (2147483647 : Int32)).toInt64)), .second, .val (.long ((vi0 &&& (2147483647 : Int32)).toInt64)), .second, .val (.long ((vi1 &&& (2147483647 : Int32)).toInt64)), .second, .val (.long ((vi2 &&& (2147483647 : Int32)).toInt64)), .second, .unset] [])) (fun _ hr => XS.ifYes X3.here hx rfl (pc0 := 91) (pc' := 100) rfl (hb hby at_91) rfl ((if0 _ _).trans (flt (fun q => hc5 ((lw_lt ((vi3 &&& (2147483647 : Int32)).toInt64) (((vi0 &&& (2147483647 : Int32)).toInt64) + ((vi1 &&& (2147483647 : Int32)).toInt64))).mp q))).2.1) (by decide) (by decide) hr) ?_
      refine Rch.step (st' := T3.setTop (mkF m 102 #[.val (.int vi0), .val (.int vi1), .val (.int vi2), .val (.int vi3), .val (.int (vi0 &&& (2147483647 : Int32))), .val (.int (vi1 &&& (2147483647 : Int32))), .val (.int (vi2 &&& (2147483647 : Int32))), .val (.int (vi3 &&& (2147483647 : Int32))), .val (.ref b1), .val (.int (f4_0 (vi3 &&& (2147483647 : Int32)) (vi2 &&& (2147483647 : Int32)) (vi0 &&& (2147483647 : Int32)) (vi1 &&& (2147483647 : Int32)))), .val (.long ((vi3 &&& (2147483647 : Int32)).toInt64)), .second, .val (.long ((vi0 &&& (2147483647 : Int32)).toInt64)), .second, .val (.long ((vi1 &&& (2147483647 : Int32)).toInt64)), .second, .val (.long ((vi2 &&& (2147483647 : Int32)).toInt64)), .second, .unset] [(.long ((vi3 &&& (2147483647 : Int32)).toInt64))])) (fun _ hr => XS.lload X3.here hx rfl (hb hby at_100) rfl hr) ?_
      refine Rch.step (st' := T3.setTop (mkF m 104 #[.val (.int vi0), .val (.int vi1), .val (.int vi2), .val (.int vi3), .val (.int (vi0 &&& (2147483647 : Int32))), .val (.int (vi1 &&& (2147483647 : Int32))), .val (.int (vi2 &&& (2147483647 : Int32))), .val (.int (vi3 &&& (2147483647 : Int32))), .val (.ref b1), .val (.int (f4_0 (vi3 &&& (2147483647 : Int32)) (vi2 &&& (2147483647 : Int32)) (vi0 &&& (2147483647 : Int32)) (vi1 &&& (2147483647 : Int32)))), .val (.long ((vi3 &&& (2147483647 : Int32)).toInt64)), .second, .val (.long ((vi0 &&& (2147483647 : Int32)).toInt64)), .second, .val (.long ((vi1 &&& (2147483647 : Int32)).toInt64)), .second, .val (.long ((vi2 &&& (2147483647 : Int32)).toInt64)), .second, .unset] [(.long ((vi1 &&& (2147483647 : Int32)).toInt64)), (.long ((vi3 &&& (2147483647 : Int32)).toInt64))])) (fun _ hr => XS.lload X3.here hx rfl (hb hby at_102) rfl hr) ?_
      refine Rch.step (st' := T3.setTop (mkF m 105 #[.val (.int vi0), .val (.int vi1), .val (.int vi2), .val (.int vi3), .val (.int (vi0 &&& (2147483647 : Int32))), .val (.int (vi1 &&& (2147483647 : Int32))), .val (.int (vi2 &&& (2147483647 : Int32))), .val (.int (vi3 &&& (2147483647 : Int32))), .val (.ref b1), .val (.int (f4_0 (vi3 &&& (2147483647 : Int32)) (vi2 &&& (2147483647 : Int32)) (vi0 &&& (2147483647 : Int32)) (vi1 &&& (2147483647 : Int32)))), .val (.long ((vi3 &&& (2147483647 : Int32)).toInt64)), .second, .val (.long ((vi0 &&& (2147483647 : Int32)).toInt64)), .second, .val (.long ((vi1 &&& (2147483647 : Int32)).toInt64)), .second, .val (.long ((vi2 &&& (2147483647 : Int32)).toInt64)), .second, .unset] [(.long (((vi3 &&& (2147483647 : Int32)).toInt64) - ((vi1 &&& (2147483647 : Int32)).toInt64)))])) (fun _ hr => XS.lsub X3.here hx rfl (hb hby at_104) rfl hr) ?_
      refine Rch.step (st' := T3.setTop (mkF m 107 #[.val (.int vi0), .val (.int vi1), .val (.int vi2), .val (.int vi3), .val (.int (vi0 &&& (2147483647 : Int32))), .val (.int (vi1 &&& (2147483647 : Int32))), .val (.int (vi2 &&& (2147483647 : Int32))), .val (.int (vi3 &&& (2147483647 : Int32))), .val (.ref b1), .val (.int (f4_0 (vi3 &&& (2147483647 : Int32)) (vi2 &&& (2147483647 : Int32)) (vi0 &&& (2147483647 : Int32)) (vi1 &&& (2147483647 : Int32)))), .val (.long ((vi3 &&& (2147483647 : Int32)).toInt64)), .second, .val (.long ((vi0 &&& (2147483647 : Int32)).toInt64)), .second, .val (.long ((vi1 &&& (2147483647 : Int32)).toInt64)), .second, .val (.long ((vi2 &&& (2147483647 : Int32)).toInt64)), .second, .unset] [(.long ((vi2 &&& (2147483647 : Int32)).toInt64)), (.long (((vi3 &&& (2147483647 : Int32)).toInt64) - ((vi1 &&& (2147483647 : Int32)).toInt64)))])) (fun _ hr => XS.lload X3.here hx rfl (hb hby at_105) rfl hr) ?_
      refine Rch.step (st' := T3.setTop (mkF m 108 #[.val (.int vi0), .val (.int vi1), .val (.int vi2), .val (.int vi3), .val (.int (vi0 &&& (2147483647 : Int32))), .val (.int (vi1 &&& (2147483647 : Int32))), .val (.int (vi2 &&& (2147483647 : Int32))), .val (.int (vi3 &&& (2147483647 : Int32))), .val (.ref b1), .val (.int (f4_0 (vi3 &&& (2147483647 : Int32)) (vi2 &&& (2147483647 : Int32)) (vi0 &&& (2147483647 : Int32)) (vi1 &&& (2147483647 : Int32)))), .val (.long ((vi3 &&& (2147483647 : Int32)).toInt64)), .second, .val (.long ((vi0 &&& (2147483647 : Int32)).toInt64)), .second, .val (.long ((vi1 &&& (2147483647 : Int32)).toInt64)), .second, .val (.long ((vi2 &&& (2147483647 : Int32)).toInt64)), .second, .unset] [(.long ((((vi3 &&& (2147483647 : Int32)).toInt64) - ((vi1 &&& (2147483647 : Int32)).toInt64)) + ((vi2 &&& (2147483647 : Int32)).toInt64)))])) (fun _ hr => XS.ladd X3.here hx rfl (hb hby at_107) rfl hr) ?_
      refine Rch.step (st' := T3.setTop (mkF m 109 #[.val (.int vi0), .val (.int vi1), .val (.int vi2), .val (.int vi3), .val (.int (vi0 &&& (2147483647 : Int32))), .val (.int (vi1 &&& (2147483647 : Int32))), .val (.int (vi2 &&& (2147483647 : Int32))), .val (.int (vi3 &&& (2147483647 : Int32))), .val (.ref b1), .val (.int (f4_0 (vi3 &&& (2147483647 : Int32)) (vi2 &&& (2147483647 : Int32)) (vi0 &&& (2147483647 : Int32)) (vi1 &&& (2147483647 : Int32)))), .val (.long ((vi3 &&& (2147483647 : Int32)).toInt64)), .second, .val (.long ((vi0 &&& (2147483647 : Int32)).toInt64)), .second, .val (.long ((vi1 &&& (2147483647 : Int32)).toInt64)), .second, .val (.long ((vi2 &&& (2147483647 : Int32)).toInt64)), .second, .unset] [(.int (((((vi3 &&& (2147483647 : Int32)).toInt64) - ((vi1 &&& (2147483647 : Int32)).toInt64)) + ((vi2 &&& (2147483647 : Int32)).toInt64)).toInt32))])) (fun _ hr => XS.l2i X3.here hx rfl (hb hby at_108) rfl hr) ?_
      refine Rch.step (st' := T3.setTop (mkF m 111 #[.val (.int vi0), .val (.int vi1), .val (.int vi2), .val (.int vi3), .val (.int (vi0 &&& (2147483647 : Int32))), .val (.int (vi1 &&& (2147483647 : Int32))), .val (.int (vi2 &&& (2147483647 : Int32))), .val (.int (vi3 &&& (2147483647 : Int32))), .val (.ref b1), .val (.int (f4_0 (vi3 &&& (2147483647 : Int32)) (vi2 &&& (2147483647 : Int32)) (vi0 &&& (2147483647 : Int32)) (vi1 &&& (2147483647 : Int32)))), .val (.long ((vi3 &&& (2147483647 : Int32)).toInt64)), .second, .val (.long ((vi0 &&& (2147483647 : Int32)).toInt64)), .second, .val (.long ((vi1 &&& (2147483647 : Int32)).toInt64)), .second, .val (.long ((vi2 &&& (2147483647 : Int32)).toInt64)), .second, .val (.int (((((vi3 &&& (2147483647 : Int32)).toInt64) - ((vi1 &&& (2147483647 : Int32)).toInt64)) + ((vi2 &&& (2147483647 : Int32)).toInt64)).toInt32))] [])) (fun _ hr => XS.istore X3.here hx rfl (hb hby at_109) rfl (l' := #[.val (.int vi0), .val (.int vi1), .val (.int vi2), .val (.int vi3), .val (.int (vi0 &&& (2147483647 : Int32))), .val (.int (vi1 &&& (2147483647 : Int32))), .val (.int (vi2 &&& (2147483647 : Int32))), .val (.int (vi3 &&& (2147483647 : Int32))), .val (.ref b1), .val (.int (f4_0 (vi3 &&& (2147483647 : Int32)) (vi2 &&& (2147483647 : Int32)) (vi0 &&& (2147483647 : Int32)) (vi1 &&& (2147483647 : Int32)))), .val (.long ((vi3 &&& (2147483647 : Int32)).toInt64)), .second, .val (.long ((vi0 &&& (2147483647 : Int32)).toInt64)), .second, .val (.long ((vi1 &&& (2147483647 : Int32)).toInt64)), .second, .val (.long ((vi2 &&& (2147483647 : Int32)).toInt64)), .second, .val (.int (((((vi3 &&& (2147483647 : Int32)).toInt64) - ((vi1 &&& (2147483647 : Int32)).toInt64)) + ((vi2 &&& (2147483647 : Int32)).toInt64)).toInt32))]) rfl hr) ?_
      exact b0_111 ⟨X3, hx, hZ, hw, hby, hml, hown, hret, hlk, e3, Z2, N3⟩ vi0 vi1 vi2 vi3 (vi0 &&& (2147483647 : Int32)) (vi1 &&& (2147483647 : Int32)) (vi2 &&& (2147483647 : Int32)) (vi3 &&& (2147483647 : Int32)) b1 (f4_0 (vi3 &&& (2147483647 : Int32)) (vi2 &&& (2147483647 : Int32)) (vi0 &&& (2147483647 : Int32)) (vi1 &&& (2147483647 : Int32))) ((vi3 &&& (2147483647 : Int32)).toInt64) ((vi0 &&& (2147483647 : Int32)).toInt64) ((vi1 &&& (2147483647 : Int32)).toInt64) ((vi2 &&& (2147483647 : Int32)).toInt64) (((((vi3 &&& (2147483647 : Int32)).toInt64) - ((vi1 &&& (2147483647 : Int32)).toInt64)) + ((vi2 &&& (2147483647 : Int32)).toInt64)).toInt32) (vi2 &&& (2147483647 : Int32)) (vi0 &&& (2147483647 : Int32)) (vi1 &&& (2147483647 : Int32)) P2_0 P2_3 P2_1 P2_2 low_b1
theorem ef0 (m : MethodId) (x0 : Int32) (x1 : Int32) (x2 : Int32) (x3 : Int32) : entryFrame m #[(.int x0), (.int x1), (.int x2), (.int x3)] maxLocals = mkF m 0 #[.val (.int x0), .val (.int x1), .val (.int x2), .val (.int x3), .unset, .unset, .unset, .unset, .unset, .unset, .unset, .unset, .unset, .unset, .unset, .unset, .unset, .unset, .unset] [] := by first | (simp [entryFrame, mkF, argsToLocals, Value.category, maxLocals]; done) | rfl
set_option maxRecDepth 65536 in
set_option maxHeartbeats 40000000 in
theorem rm0 (l : Launch) (Z : State) (a0 : Array Value) (hw : ∀ d ∈ tables_1, d.before a0 Z = true) (ws : List Jvm.Cond) (x0 : Int32) (x1 : Int32) (x2 : Int32) (x3 : Int32) (h0 : Heap) (n0 : Nat) (Z0 : n0 ≤ h0.size)  :
    MetFree l x (head1 (Jvm.Cond.code x code maxLocals ret :: ws) room_1) (fun a U => a = #[(.int x0), (.int x1), (.int x2), (.int x3)] ∧ Z.Warmed39 U.vm ∧ U.heap = h0) (fun _ _ _ _ _ => True) (fun _ U o U' => ∃ v L, o = .returned v ∧ PL (f0_0 x0 x1 x2 x3) n0 v U'.heap L ∧ FrameEnd U o U' L room_1.cells room_1.slots) := by
  refine MetFree.of_bodySF (plainFor_of_name pn0) hisR ?_
  intro p e s m args below meth c s₁ Bd hml0 hP hK
  obtain ⟨rfl, hZ, hh⟩ := hP
  have hown : s.vm.findClass "com/example/scrapline/scrapline/engine/SpliceMovedPinLaw" = some m.cls := findClass_of_methodNamed Bd.named
  have e0 : s₁.heap = h0 := by rw [← hh, Bd.state]; rfl
  obtain ⟨s₂, v, L, h1, h2, h3, h4, h5⟩ := b0_0 (T := s₁) ⟨Stand.of_body Bd, Bd.exec, hZ, hw, Bd.bytes, hml0, hown, Bd.returns, BodyLoose.notSynchronized Bd, e0, Z0, Fr.nil n0⟩ x0 x1 x2 x3
  exact ⟨s₂, .returned v, castTop (ef0 m x0 x1 x2 x3) h1, h2, h3, v, L, rfl, h4, h5⟩
theorem own_law (a b c d : Int32) : f0_0 a b c d = 1 := by
  have ma := c_mask a 2147483647 31 (by decide) (by decide)
  have mb := c_mask b 2147483647 31 (by decide) (by decide)
  have mc := c_mask c 2147483647 31 (by decide) (by decide)
  have md := c_mask d 2147483647 31 (by decide) (by decide)
  unfold f0_0
  generalize a &&& (2147483647 : Int32) = p at *
  generalize b &&& (2147483647 : Int32) = r at *
  generalize c &&& (2147483647 : Int32) = q at *
  generalize d &&& (2147483647 : Int32) = x at *
  have rp := rng32 p
  have rr := rng32 r
  have rq := rng32 q
  have rx := rng32 x
  have lp := c_i2l p
  have lr := c_i2l r
  have lq := c_i2l q
  have lx := c_i2l x
  have s1 := c_ladd p.toInt64 r.toInt64
  have s1r := rng64 (p.toInt64 + r.toInt64)
  have s2 := c_lsub x.toInt64 r.toInt64
  have s2r := rng64 (x.toInt64 - r.toInt64)
  have s3 := c_ladd (x.toInt64 - r.toInt64) q.toInt64
  have s3r := rng64 ((x.toInt64 - r.toInt64) + q.toInt64)
  have s4 := c_l2i ((x.toInt64 - r.toInt64) + q.toInt64)
  have s4r := rng32 ((x.toInt64 - r.toInt64) + q.toInt64).toInt32
  have t1 := c_isub x p
  have t1r := rng32 (x - p)
  have t2 := c_isub x r
  have t2r := rng32 (x - r)
  have t3 := c_iadd (x - r) q
  have t3r := rng32 ((x - r) + q)
  by_cases h1 : x < p
  · have h1' : x.toInt64 < p.toInt64 := by
      rw [Int32.lt_iff_toInt_lt] at h1; rw [Int64.lt_iff_toInt_lt]; omega
    rw [if_pos h1']; simp [f0_111, f4_0, h1]
  · have h1' : ¬ x.toInt64 < p.toInt64 := by
      rw [Int32.lt_iff_toInt_lt] at h1; rw [Int64.lt_iff_toInt_lt]; omega
    rw [if_neg h1']
    by_cases h2 : x - p < r
    · have h2' : x.toInt64 < p.toInt64 + r.toInt64 := by
        rw [Int32.lt_iff_toInt_lt] at h1 h2; rw [Int64.lt_iff_toInt_lt]; omega
      rw [if_pos h2']; simp [f0_111, f4_0, h1, h2]
    · have h2' : ¬ x.toInt64 < p.toInt64 + r.toInt64 := by
        rw [Int32.lt_iff_toInt_lt] at h1 h2; rw [Int64.lt_iff_toInt_lt]; omega
      have h3 : x - r + q = ((x.toInt64 - r.toInt64) + q.toInt64).toInt32 := by
        apply Int32.toInt_inj.mp; omega
      rw [if_neg h2']; simp only [f0_111, f4_0, if_neg h1, if_neg h2, if_pos h3]
set_option maxRecDepth 65536 in
set_option maxHeartbeats 40000000 in
theorem comes_1 {Post : Tables → Env → Array Value → State → Outcome → State → Prop} (hpost : ∀ tb e args s v u, (limb_1_1.after args s (.returned v) u = true ∧ limb_1_2.after args s (.returned v) u = true ∧ True) → FrameEnd s (.returned v) u (Jvm.fieldLocs frame_1_writes args s ++ Jvm.arrayLocs frame_1_arrays args s ++ Jvm.staticLocs frame_1_statics s) 16 128 → Post tb e args s (.returned v) u) :
    ArmFor flags0 classFile x code maxLocals ret World_1 tables_1 room_1 Calls_1 rest_1 Pre_1 Post := by
  intro l hfl _ _ p e ha hc hk s m args below hf hA hF happ hP
  obtain ⟨hcalls, hrest, hpre⟩ := hP
  obtain ⟨-, -, -, hnamed, -, -, -, hat⟩ := (Spec.applies_iff hf).mp happ
  obtain ⟨hg, hn⟩ := and_e (Cond.before_iff.mp (show (Jvm.Cond.and given_1 narrow_1).before args s = true from hpre))
  obtain ⟨g1, g2⟩ := and_e hg
  obtain ⟨g3, g4⟩ := and_e g2
  obtain ⟨g5, g6⟩ := and_e g4
  obtain ⟨g7, g8⟩ := and_e g6
  obtain ⟨w0, w1, w2, w3, rfl⟩ : ∃ w0 w1 w2 w3 : Value, args = #[w0, w1, w2, w3] := by
    have hs : args.size = 4 := by simpa [Cond.value, given_1] using g1
    obtain ⟨L⟩ := args
    match L, hs with
    | [w0, w1, w2, w3], _ => exact ⟨w0, w1, w2, w3, rfl⟩
  have hw := fun d (hd : d ∈ tables_1) => atoms_spec (ws := Jvm.Cond.code x code maxLocals ret :: tables_1) hat d (List.mem_cons_of_mem _ hd)
  obtain ⟨i0, ei0⟩ := is_v g3
  obtain rfl : w0 = (.int i0) := Option.some.inj ei0
  obtain ⟨i1, ei1⟩ := is_v g5
  obtain rfl : w1 = (.int i1) := Option.some.inj ei1
  obtain ⟨i2, ei2⟩ := is_v g7
  obtain rfl : w2 = (.int i2) := Option.some.inj ei2
  obtain ⟨i3, ei3⟩ := is_v g8
  obtain rfl : w3 = (.int i3) := Option.some.inj ei3
  obtain ⟨n, o, h1, h2, h3, _, L, rfl, ⟨rfl, N⟩, hq⟩ := rm0 l s _ hw tables_1 i0 i1 i2 i3 s.heap s.heap.size (Nat.le_refl _) p e ha hc hk s m _ below hf ((Spec.applies_iff_loose hf).mp happ).1 ⟨rfl, State.Warmed39.refl s, rfl⟩ trivial
  have hlaw := own_law i0 i1 i2 i3
  refine ⟨n, _, h1, h2, h3, hpost _ _ _ _ _ _ ⟨Cond.after_iff.mpr rfl, Cond.after_iff.mpr (eq_i res_at (Term.int_eval (1)) (by rw [hlaw])), trivial⟩ ⟨hq.1, hq.2.1, (hq.2.2.sift fun y hy => Or.inr (N y hy)).mono (by decide) (by decide)⟩⟩
theorem main_1_1 : Claimed_1_1 := comes_1 fun _ _ _ _ _ _ h hF => ⟨h.1, hF⟩
theorem main_1_2 : Claimed_1_2 := comes_1 fun _ _ _ _ _ _ h hF => ⟨h.2.1, hF⟩
end Jvm.Pilot.@@N@@
namespace Jvm.Pilot.@@N@@
open Jvm Jvm.ClassFile Sem Op Lib Jvm.Free Jvm.Stand Jvm.Pilot.@@N@@.Jvm.D
/-! MADE BY PROGRAM (witnessworld.py) out of the Statement's table words and the real class files: 10 classes; the members and pool entries that the words name. The judged class is class 1, her method 1. -/
namespace start1
open Jvm.ClassFile
def u (s : String) : CpInfo := .utf8 (stringToUtf16 s)
/-- a pool by its gaps: so many unusable entries, then the entry; so many at the end -/
def gap : Nat → List CpInfo → List CpInfo
  | 0, r => r
  | n + 1, r => .unusable :: gap n r
def poolList (es : List (Nat × CpInfo)) (last : Nat) : List CpInfo := es.foldr (fun e r => gap e.1 (e.2 :: r)) (gap last [])
def pool (es : List (Nat × CpInfo)) (last : Nat) : Array CpInfo := ⟨poolList es last⟩
def fileOf (pool : Array CpInfo) (this : Nat) (attrs : Array Attribute := #[]) (ms : Array MethodInfo := #[]) (fl : Nat := 33) (sup : Nat := 0) (ifs : Array Nat := #[]) (fds : Array FieldInfo := #[]) : ClassFile where
  minorVersion := 0
  majorVersion := 65
  constantPool := pool
  accessFlags := fl
  thisClass := this
  superClass := sup
  interfaces := ifs
  fields := fds
  methods := ms
  attributes := attrs
def plain (name : String) (sup : Option ClassId) : Class where
  name := name
  kind := .ordinary
  loader := none
  accessFlags := 33
  super := sup
  interfaces := #[]
  cf := none
  fields := #[]
  methods := #[]
  instanceTypes := #[]
  staticTypes := #[]
  resolved := #[]
  callSites := []
  init := .initialized
  statics := none
  mirror := none

def pool0 : Array CpInfo := pool [(5, u "<init>"), (0, u "()V"), (1, .class_ 10), (1, u "java/lang/Object")] 113

def k0c0 : Code := { maxStack := 0, maxLocals := 1, code := object_method_1_code, exceptionTable := #[], attributes := #[] }
def k0m0 : Method := { name := "<init>", desc := "()V", sig := { parameters := [], returnType := none }, accessFlags := 1, code := some k0c0 }
/-- java/lang/Object -/
def k0 : Class := { plain "java/lang/Object" none with
  accessFlags := 33
  interfaces := #[]
  cf := some (fileOf pool0 8 #[] #[{ accessFlags := 1, nameIndex := 5, descriptorIndex := 6, attributes := #[] }] 33 0 #[] #[])
  fields := #[]
  methods := #[k0m0]
  instanceTypes := #[]
  staticTypes := #[]
  resolved := Array.replicate 124 none
  statics := none }

def pool1 : Array CpInfo := pool [(2, .class_ 4), (1, u "java/lang/Object"), (0, u "<init>"), (0, u "()V"), (0, .integer 2147483647), (0, .class_ 9), (0, u "com/example/scrapline/scrapline/engine/Splice"), (0, .methodref 8 11), (0, .nameAndType 5 12), (0, u "(III)V"), (0, .methodref 8 14), (0, .nameAndType 15 16), (0, u "moved"), (0, u "(I)I"), (2, .class_ 20), (0, u "com/example/scrapline/scrapline/engine/SpliceMovedPinLaw"), (2, u "law"), (0, u "(IIII)Z")] 3

def k1m0 : Method := { name := "<init>", desc := "()V", sig := { parameters := [], returnType := none }, accessFlags := 1, code := none }
def k1c1 : Code := { maxStack := 6, maxLocals := 19, code := code, exceptionTable := #[], attributes := #[] }
def k1m1 : Method := { name := "law", desc := "(IIII)Z", sig := { parameters := [.int, .int, .int, .int], returnType := some .boolean }, accessFlags := 9, code := some k1c1 }
/-- com/example/scrapline/scrapline/engine/SpliceMovedPinLaw -/
def k1 : Class := { plain "com/example/scrapline/scrapline/engine/SpliceMovedPinLaw" (some 0) with
  accessFlags := 49
  interfaces := #[]
  cf := some (fileOf pool1 19 #[] #[{ accessFlags := 1, nameIndex := 5, descriptorIndex := 6, attributes := #[] }, { accessFlags := 9, nameIndex := 23, descriptorIndex := 24, attributes := #[] }] 49 2 #[] #[])
  fields := #[]
  methods := #[k1m0, k1m1]
  instanceTypes := #[]
  staticTypes := #[]
  resolved := Array.replicate 28 none
  statics := none }

def pool2 : Array CpInfo := pool [(1, .methodref 2 3), (0, .class_ 4), (0, .nameAndType 5 6), (0, u "java/lang/Object"), (0, u "<init>"), (0, u "()V"), (0, .class_ 8), (0, u "java/lang/Record")] 13

def k2c0 : Code := { maxStack := 1, maxLocals := 1, code := jdk_30_method_1_code, exceptionTable := #[], attributes := #[] }
def k2m0 : Method := { name := "<init>", desc := "()V", sig := { parameters := [], returnType := none }, accessFlags := 4, code := some k2c0 }
/-- java/lang/Record -/
def k2 : Class := { plain "java/lang/Record" (some 0) with
  accessFlags := 1057
  interfaces := #[]
  cf := some (fileOf pool2 7 #[] #[{ accessFlags := 4, nameIndex := 5, descriptorIndex := 6, attributes := #[] }] 1057 2 #[] #[])
  fields := #[]
  methods := #[k2m0]
  instanceTypes := #[]
  staticTypes := #[]
  resolved := Array.replicate 22 none
  statics := none }

def pool3 : Array CpInfo := pool [(1, .methodref 2 3), (0, .class_ 4), (0, .nameAndType 5 6), (0, u "java/lang/Record"), (0, u "<init>"), (0, u "()V"), (0, .fieldref 8 9), (0, .class_ 10), (0, .nameAndType 11 12), (0, u "com/example/scrapline/scrapline/engine/Splice"), (0, u "position"), (0, u "I"), (0, .fieldref 8 14), (0, .nameAndType 15 12), (0, u "removed"), (0, .fieldref 8 17), (0, .nameAndType 18 12), (0, u "inserted"), (14, u "(III)V"), (3, u "moved"), (0, u "(I)I")] 26

def k3c0 : Code := { maxStack := 2, maxLocals := 4, code := prog_18_method_1_code, exceptionTable := #[], attributes := #[] }
def k3m0 : Method := { name := "<init>", desc := "(III)V", sig := { parameters := [.int, .int, .int], returnType := none }, accessFlags := 0, code := some k3c0 }
def k3c1 : Code := { maxStack := 2, maxLocals := 2, code := prog_18_method_2_code, exceptionTable := #[], attributes := #[] }
def k3m1 : Method := { name := "moved", desc := "(I)I", sig := { parameters := [.int], returnType := some .int }, accessFlags := 0, code := some k3c1 }
/-- com/example/scrapline/scrapline/engine/Splice -/
def k3 : Class := { plain "com/example/scrapline/scrapline/engine/Splice" (some 2) with
  accessFlags := 48
  interfaces := #[]
  cf := some (fileOf pool3 8 #[] #[{ accessFlags := 0, nameIndex := 5, descriptorIndex := 33, attributes := #[] }, { accessFlags := 0, nameIndex := 37, descriptorIndex := 38, attributes := #[] }] 48 2 #[] #[{ accessFlags := 18, nameIndex := 11, descriptorIndex := 12, attributes := #[] }, { accessFlags := 18, nameIndex := 15, descriptorIndex := 12, attributes := #[] }, { accessFlags := 18, nameIndex := 18, descriptorIndex := 12, attributes := #[] }])
  fields := #[{ name := "position", type := .int, accessFlags := 18, slot := 0, constantValue := 0 }, { name := "removed", type := .int, accessFlags := 18, slot := 1, constantValue := 0 }, { name := "inserted", type := .int, accessFlags := 18, slot := 2, constantValue := 0 }]
  methods := #[k3m0, k3m1]
  instanceTypes := #[.int, .int, .int]
  staticTypes := #[]
  resolved := Array.replicate 65 none
  statics := none }

def pool4 : Array CpInfo := pool [(1, u "java/lang/Cloneable"), (0, .class_ 1), (0, u "java/lang/Object"), (0, .class_ 3)] 3

/-- java/lang/Cloneable -/
def k4 : Class := { plain "java/lang/Cloneable" (some 0) with
  accessFlags := 1537
  interfaces := #[]
  cf := some (fileOf pool4 2 #[] #[] 1537 4 #[] #[])
  fields := #[]
  methods := #[]
  instanceTypes := #[]
  staticTypes := #[]
  resolved := Array.replicate 8 none
  statics := none }

def pool5 : Array CpInfo := pool [(1, u "java/io/Serializable"), (0, .class_ 1), (0, u "java/lang/Object"), (0, .class_ 3)] 3

/-- java/io/Serializable -/
def k5 : Class := { plain "java/io/Serializable" (some 0) with
  accessFlags := 1537
  interfaces := #[]
  cf := some (fileOf pool5 2 #[] #[] 1537 4 #[] #[])
  fields := #[]
  methods := #[]
  instanceTypes := #[]
  staticTypes := #[]
  resolved := Array.replicate 8 none
  statics := none }

/-- the primitive byte -/
def k6 : Class := { plain "byte" none with kind := .primitive 'B', accessFlags := 0x411 }
/-- [B -/
def k7 : Class := { plain "[B" (some 0) with kind := .array 6 .byte, interfaces := #[4, 5], accessFlags := 1041 }

/-- the primitive int -/
def k8 : Class := { plain "int" none with kind := .primitive 'I', accessFlags := 0x411 }
/-- [I -/
def k9 : Class := { plain "[I" (some 0) with kind := .array 8 .int, interfaces := #[4, 5], accessFlags := 1041 }

def heap : Heap := #[]
def classes : Array Class := #[k0, k1, k2, k3, k4, k5, k6, k7, k8, k9]
def interned : List (Array UInt16 × Addr) := []
def slotsUsed : Nat := 0
def theMethod : MethodId := ⟨1, 1⟩
def args0 : Array Value := #[.int 5, .int 7, .int 1, .int 3]
def aboutOver (below : List Frame) : State where
  vm := { classes := classes, interned := interned.toArray }
  heap := heap
  slotsUsed := slotsUsed
  threads := #[{ frames := .invoking theMethod args0 :: below }]
def below0 : List Frame := [.native { method := ⟨0, 0⟩, args := #[] }]
def about1 : State := aboutOver below0
def p0 : Program := .bare "" "" ""
def e0 : Env := launch0.env 0 0 0
theorem w_frames : about1.frames = Frame.invoking theMethod args0 :: below0 := rfl
set_option maxRecDepth 65536 in
theorem w_args : argsFit about1.vm theMethod args0 = true := by decide +kernel
set_option maxRecDepth 65536 in
theorem w_heap : heapFits about1 = true := by decide +kernel
set_option maxRecDepth 65536 in
theorem w_runnable : about1.curStatus? = some .runnable := by decide +kernel
set_option maxRecDepth 65536 in
theorem w_alone : about1.alone = true := by decide +kernel
set_option maxRecDepth 65536 in
theorem w_named : about1.methodNamed? x = some theMethod := by decide +kernel
set_option maxRecDepth 65536 in
theorem w_hears : about1.hears theMethod below0 = true := by decide +kernel
set_option maxRecDepth 65536 in
theorem w_ripe : about1.ripe theMethod args0 below0 = true := by decide +kernel
theorem w_running : about1.status = .running := rfl
set_option maxRecDepth 65536 in
theorem w_room : about1.hasRoom e0.platform room_1 = true :=
  launch0.hasRoom_least _ room_1 (by decide +kernel) (by decide +kernel) (by decide +kernel) (by decide +kernel) (by decide +kernel) (by decide +kernel)
theorem allAtoms_all (ts : List Jvm.Cond) (a : Array Jvm.Value) (st : Jvm.State) : (allAtoms ts).before a st = ts.all (fun c => c.before a st) := by
  induction ts with
  | nil => rfl
  | cons c t ih =>
    show (Jvm.Cond.and c (allAtoms t)).before a st = _
    rw [Jvm.Cond.before_and, ih, List.all_cons]
def words1 : List Jvm.Cond := Jvm.Cond.code x code maxLocals ret :: tables_1
/-- a 'code' word, met by the world's own term for the bytes: nothing is compared byte by byte -/
theorem code_word {y : MethodName} {bytes : ByteArray} {mx : Nat} {rt : Option FieldType} {a : Array Value} {s : State} {m : MethodId} {meth : Method} {c : Code} (h1 : s.methodNamed? y = some m) (h2 : s.vm.method? m = some meth) (h3 : meth.code = some c) (h4 : c.code = bytes)
    (h5 : (c.maxLocals == mx && c.exceptionTable.isEmpty && decide (c.maxStack ≤ mostOperands) && decide (meth.sig.returnType = rt) && !meth.locks && decide (parseMethodDescriptor y.desc = some meth.sig)) = true) : (Jvm.Cond.code y bytes mx rt).before a s = true := by
  simp only [Bool.and_eq_true, beq_iff_eq, Bool.not_eq_true', decide_eq_true_eq] at h5
  obtain ⟨⟨⟨⟨⟨g1, g2⟩, g3⟩, g4⟩, g5⟩, g6⟩ := h5
  simp [Cond.before, Cond.holds, Cond.value, h1, h2, h3, h4, g1, g2, g3, g4, g5, g6]
def isCode : Jvm.Cond → Bool
  | .code _ _ _ _ => true
  | _ => false
theorem all_split {L : List Jvm.Cond} {P : Jvm.Cond → Bool} (h1 : L.all (fun c => isCode c || P c) = true) (h2 : ∀ c ∈ L.filter isCode, P c = true) : L.all P = true := by
  refine List.all_eq_true.mpr fun c hc => ?_
  have h := List.all_eq_true.mp h1 c hc
  rcases Bool.eq_false_or_eq_true (isCode c) with hi | hi
  · exact h2 c (List.mem_filter.mpr ⟨hc, hi⟩)
  · simpa [hi] using h
set_option maxRecDepth 65536 in
theorem w_c0 : (Jvm.Cond.code x code maxLocals ret).before args0 about1 = true := code_word (m := ⟨1, 1⟩) (meth := k1m1) (c := k1c1) (by decide +kernel) rfl rfl rfl (by decide +kernel)
set_option maxRecDepth 65536 in
theorem w_c1 : (Jvm.Cond.code ({ cls := "com/example/scrapline/scrapline/engine/Splice", name := "<init>", desc := "(III)V" } : Jvm.MethodName) prog_18_method_1_code (4 : Nat) (Option.none : Option Jvm.ClassFile.FieldType)).before args0 about1 = true := code_word (m := ⟨3, 0⟩) (meth := k3m0) (c := k3c0) (by decide +kernel) rfl rfl rfl (by decide +kernel)
set_option maxRecDepth 65536 in
theorem w_c2 : (Jvm.Cond.code ({ cls := "java/lang/Record", name := "<init>", desc := "()V" } : Jvm.MethodName) jdk_30_method_1_code (1 : Nat) (Option.none : Option Jvm.ClassFile.FieldType)).before args0 about1 = true := code_word (m := ⟨2, 0⟩) (meth := k2m0) (c := k2c0) (by decide +kernel) rfl rfl rfl (by decide +kernel)
set_option maxRecDepth 65536 in
theorem w_c3 : (Jvm.Cond.code ({ cls := "java/lang/Object", name := "<init>", desc := "()V" } : Jvm.MethodName) object_method_1_code (1 : Nat) (Option.none : Option Jvm.ClassFile.FieldType)).before args0 about1 = true := code_word (m := ⟨0, 0⟩) (meth := k0m0) (c := k0c0) (by decide +kernel) rfl rfl rfl (by decide +kernel)
set_option maxRecDepth 65536 in
theorem w_c4 : (Jvm.Cond.code ({ cls := "com/example/scrapline/scrapline/engine/Splice", name := "moved", desc := "(I)I" } : Jvm.MethodName) prog_18_method_2_code (2 : Nat) (Option.some Jvm.ClassFile.FieldType.int)).before args0 about1 = true := code_word (m := ⟨3, 1⟩) (meth := k3m1) (c := k3c1) (by decide +kernel) rfl rfl rfl (by decide +kernel)
def codes1 : List Jvm.Cond := [Jvm.Cond.code x code maxLocals ret, Jvm.Cond.code ({ cls := "com/example/scrapline/scrapline/engine/Splice", name := "<init>", desc := "(III)V" } : Jvm.MethodName) prog_18_method_1_code (4 : Nat) (Option.none : Option Jvm.ClassFile.FieldType), Jvm.Cond.code ({ cls := "java/lang/Record", name := "<init>", desc := "()V" } : Jvm.MethodName) jdk_30_method_1_code (1 : Nat) (Option.none : Option Jvm.ClassFile.FieldType), Jvm.Cond.code ({ cls := "java/lang/Object", name := "<init>", desc := "()V" } : Jvm.MethodName) object_method_1_code (1 : Nat) (Option.none : Option Jvm.ClassFile.FieldType), Jvm.Cond.code ({ cls := "com/example/scrapline/scrapline/engine/Splice", name := "moved", desc := "(I)I" } : Jvm.MethodName) prog_18_method_2_code (2 : Nat) (Option.some Jvm.ClassFile.FieldType.int)]
set_option maxRecDepth 65536 in
theorem codes_eq : words1.filter isCode = codes1 := rfl
theorem w_codes : ∀ c ∈ words1.filter isCode, c.before args0 about1 = true := by
  rw [codes_eq]
  intro c hc
  simp only [codes1, List.mem_cons, List.not_mem_nil, or_false] at hc
  rcases hc with rfl | rfl | rfl | rfl | rfl
  · exact w_c0
  · exact w_c1
  · exact w_c2
  · exact w_c3
  · exact w_c4
set_option maxRecDepth 65536 in
theorem w_t1 : (words1.take 24).all (fun c => isCode c || c.before args0 about1) = true := by decide +kernel
set_option maxRecDepth 65536 in
theorem w_t2 : (words1.drop 24).all (fun c => isCode c || c.before args0 about1) = true := by decide +kernel
theorem w_tables : (allAtoms (Jvm.Cond.code x code maxLocals ret :: tables_1)).before args0 about1 = true := by
  rw [allAtoms_all]
  show words1.all (fun c => c.before args0 about1) = true
  refine all_split ?_ w_codes
  rw [← List.take_append_drop 24 words1, List.all_append, w_t1, w_t2]
  rfl
set_option maxRecDepth 65536 in
theorem w_case : (Jvm.Cond.and given_1 narrow_1).before args0 about1 = true := by decide +kernel
theorem w_applies : (headSpec (Jvm.Cond.code x code maxLocals ret :: tables_1) room_1).applies x e0.platform about1 = true :=
  (Spec.applies_iff w_frames).mpr ⟨w_running, w_runnable, w_alone, w_named, w_hears, w_ripe, w_room, w_tables⟩
theorem atStart : AtStart classFile x code maxLocals ret World_1 tables_1 room_1 Calls_1 rest_1 Pre_1 launch0 p0 e0 about1 theMethod args0 below0 :=
  ⟨lists_1, trivial, launch0.admits_env _ _ _, launch0.least_env, fairChoices_fair.cas, fairChoices_fair.clock, w_frames, w_args, w_heap, w_applies, trivial, trivial, w_case⟩
end start1
theorem witness_1 : WitnessClaimed_1 := ⟨start1.p0, start1.e0, start1.about1, start1.theMethod, start1.args0, start1.below0, start1.atStart⟩
end Jvm.Pilot.@@N@@
