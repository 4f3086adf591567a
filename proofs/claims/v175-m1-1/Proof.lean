import JvmDerived
import JvmDerived.Pilot.@@N@@Statement
import JvmDerived.Pilot.@@N@@Code
set_option linter.unusedVariables false
set_option linter.unusedSimpArgs false
namespace Jvm.RoadKit
open Sem ClassFile Op Lib Jvm.Stand Jvm.Free Jvm.LawKit
section New
variable {p : Program} {l : Launch} {e : Env} {R : Room} {s : State} {m : MethodId} {args : Array Value} {below : List Frame} {meth : Method} {c : Code} {T : State} {locs : List Loc} {cells slots : Nat}
theorem retI (X : Stand p l e R s m args below meth c T locs cells slots) (hx : p.tables.exec = Jvm.exec) {pc : Nat} {Ls : Array Slot} {z : Int32} {rest : List Value} (hret : meth.sig.returnType = some .int) (hd : decode c.code pc = .ok (.ireturn, 1)) {fs : List Frame}
    (hl : ∀ (f : JFrame) (acts : List Action), f.method = m → f.locked = none → f.entered = [] → (doReturn e (T.setTop f) acts (some (.int z))).1 = T.setFrames fs) : Steps p.tables e below (T.setTop (mkF m pc Ls (.int z :: rest))) (T.setFrames fs) := by
  have hm' : T.vm.method? m = some meth := X.method'
  have hn : narrow .int (.int z) = .int z := rfl
  show Steps p.tables e below (T.setTop { method := m, pc := pc, locals := Ls, stack := _ :: rest, locked := none }) _
  jvm_step X.here [X.here.top, hx, hd, hm', hret, hn]
  first | (intro acts; rw [hl _ acts rfl rfl rfl]) | rw [hl _ _ rfl rfl rfl]
  exact Steps.refl _
end New
end Jvm.RoadKit
namespace Jvm.Pilot.@@N@@
open Jvm Jvm.ClassFile Sem Op Lib Jvm.Free Jvm.Stand Jvm.LawKit Jvm.RoadKit Bundle Jvm.Pilot.@@N@@.Jvm.D

def Rch (p : Program) (e : Env) (below : List Frame) (s : State) (C S : Nat) (st : State) (K : Option Value → Heap → List Loc → Prop) : Prop :=
  ∃ s₂ v L, Steps p.tables e below st s₂ ∧ s₂.status = .running ∧ Ended s₂ below (.returned v) ∧ K v s₂.heap L ∧ FrameEnd s (.returned v) s₂ L C S
section Own
variable {p : Program} {l : Launch} {e : Env} {R : Room} {s : State} {m : MethodId} {args : Array Value} {below : List Frame} {meth : Method} {c : Code} {T : State} {locs : List Loc} {cells slots C S : Nat} {K : Option Value → Heap → List Loc → Prop}
theorem Rch.step {st st' : State} (h : ∀ t, Steps p.tables e below st' t → Steps p.tables e below st t) (k : Rch p e below s C S st' K) : Rch p e below s C S st K := by
  obtain ⟨s₂, v, L, h1, h2⟩ := k
  exact ⟨s₂, v, L, h _ h1, h2⟩
theorem Rch.imp {st : State} {K' : Option Value → Heap → List Loc → Prop} (h : ∀ v hh L, K v hh L → K' v hh L) (k : Rch p e below s C S st K) : Rch p e below s C S st K' := by
  obtain ⟨s₂, v, L, h1, h2, h3, h4, h5⟩ := k
  exact ⟨s₂, v, L, h1, h2, h3, h _ _ _ h4, h5⟩
theorem Rch.retI (X : Stand p l e R s m args below meth c T locs cells slots) (hx : p.tables.exec = Jvm.exec) (hret : meth.sig.returnType = some .int) (hlk : meth.locks = false) {pc : Nat} {Ls : Array Slot} {z : Int32} {rest : List Value} (hd : decode c.code pc = .ok (.ireturn, 1)) (hC : cells ≤ C) (hS : slots ≤ S) (hK : K (some (.int z)) T.heap locs) :
    Rch p e below s C S (T.setTop (mkF m pc Ls (.int z :: rest))) K := by
  obtain ⟨fs, hr, hrun, hended, hW, hsame⟩ := X.leave (v := some (.int z)) (fun h => by rw [hret] at h; cases h) hlk
  exact ⟨_, _, _, Jvm.RoadKit.retI X hx hret hd hr, hrun, hended, hK, ⟨_, rfl⟩, hW, hsame.mono hC hS⟩
theorem Rch.retN (X : Stand p l e R s m args below meth c T locs cells slots) (hx : p.tables.exec = Jvm.exec) {t : FieldType} (hret : meth.sig.returnType = some t) (hlk : meth.locks = false) (ht : t = .boolean ∨ t = .byte ∨ t = .char ∨ t = .short) {pc : Nat} {Ls : Array Slot} {z : Int32} {rest : List Value} (hd : decode c.code pc = .ok (.ireturn, 1)) (hC : cells ≤ C) (hS : slots ≤ S) (hK : K (some (.int (nar t z))) T.heap locs) :
    Rch p e below s C S (T.setTop (mkF m pc Ls (.int z :: rest))) K := by
  obtain ⟨fs, hr, hrun, hended, hW, hsame⟩ := X.leave (v := some (.int (nar t z))) (fun h => by rw [hret] at h; cases h) hlk
  exact ⟨_, _, _, Jvm.RoadKit.retN X hx hret ht hd hr, hrun, hended, hK, ⟨_, rfl⟩, hW, hsame.mono hC hS⟩
theorem Rch.retJ (X : Stand p l e R s m args below meth c T locs cells slots) (hx : p.tables.exec = Jvm.exec) (hret : meth.sig.returnType = some .long) (hlk : meth.locks = false) {pc : Nat} {Ls : Array Slot} {z : Int64} (hd : decode c.code pc = .ok (.lreturn, 1)) (hC : cells ≤ C) (hS : slots ≤ S) (hK : K (some (.long z)) T.heap locs) :
    Rch p e below s C S (T.setTop (mkF m pc Ls [.long z])) K := by
  obtain ⟨fs, hr, hrun, hended, hW, hsame⟩ := X.leave (v := some (.long z)) (fun h => by rw [hret] at h; cases h) hlk
  exact ⟨_, _, _, X.lreturnOut hx hret hd hr, hrun, hended, hK, ⟨_, rfl⟩, hW, hsame.mono hC hS⟩
theorem Rch.retV (X : Stand p l e R s m args below meth c T locs cells slots) (hx : p.tables.exec = Jvm.exec) (hret : meth.sig.returnType = none) (hlk : meth.locks = false) {pc : Nat} {Ls : Array Slot} (hd : decode c.code pc = .ok (.return_, 1)) (hC : cells ≤ C) (hS : slots ≤ S) (hK : K none T.heap locs) :
    Rch p e below s C S (T.setTop (mkF m pc Ls [])) K := by
  obtain ⟨fs, hr, hrun, hended, hW, hsame⟩ := X.leave (v := none) (fun _ => rfl) hlk
  exact ⟨_, _, _, X.returnOut hx hret hd hr, hrun, hended, hK, ⟨_, rfl⟩, hW, hsame.mono hC hS⟩
end Own
def PI (z : Int32) (h0 : Heap) (n0 : Nat) : Option Value → Heap → List Loc → Prop := fun v h L => v = some (.int z) ∧ Fr n0 L ∧ h = h0
def PJ (z : Int64) (h0 : Heap) (n0 : Nat) : Option Value → Heap → List Loc → Prop := fun v h L => v = some (.long z) ∧ Fr n0 L ∧ h = h0
def Cx (R : Room) (bytes : ByteArray) (ml : Nat) (own : String) (rt : Option FieldType) (p : Program) (l : Launch) (e : Env) (s : State) (m : MethodId) (args : Array Value) (below : List Frame) (meth : Method) (c : Code) (T : State) (locs : List Loc) (cells slots : Nat) (Z : State) (a0 : Array Value) (h0 : Heap) (n0 : Nat) : Prop :=
  Stand p l e R s m args below meth c T locs cells slots ∧ p.tables.exec = Jvm.exec ∧ Z.Warmed39 s.vm ∧ (∀ d ∈ tables_1, d.before a0 Z = true) ∧ c.code = bytes ∧ c.maxLocals = ml ∧ s.vm.findClass own = some m.cls ∧ meth.sig.returnType = rt ∧ meth.locks = false ∧ T.heap = h0 ∧ n0 ≤ h0.size ∧ Fr n0 locs
/-! arrays by lists: the whole content, as plain values -/
def Ars {α : Type} (emb : α → Value) (dv : α) (ty : FieldType) (Z : State) (h : Heap) (a : Addr) (n : Int32) (ws : List α) : Prop := ws.length = n.toNatClampNeg ∧ ∃ k, Arv Z h a k ty n (ws.map emb) (emb dv)
abbrev ArJ (Z : State) (h : Heap) (a : Addr) (n : Int32) (ws : List Int64) : Prop := Ars Value.long (0 : Int64) .long Z h a n ws
abbrev ArI (Z : State) (h : Heap) (a : Addr) (n : Int32) (ws : List Int32) : Prop := Ars Value.int (0 : Int32) .int Z h a n ws
abbrev ArB (Z : State) (h : Heap) (a : Addr) (n : Int32) (ws : List Int32) : Prop := Ars Value.int (0 : Int32) .byte Z h a n ws
theorem own_getD {α : Type} (emb : α → Value) (dv : α) : ∀ (ws : List α) (i : Nat), (ws.map emb).getD i (emb dv) = emb (ws.getD i dv)
  | [], i => by simp
  | w :: ws, 0 => by simp
  | w :: ws, i + 1 => by simpa using own_getD emb dv ws i
theorem Ars.ext {α : Type} {emb : α → Value} {dv : α} {ty : FieldType} {Z : State} {h h' : Heap} {a : Addr} {n : Int32} {ws : List α} (V : Ars emb dv ty Z h a n ws) (E : Ext h h') : Ars emb dv ty Z h' a n ws := by
  obtain ⟨hl, k, A⟩ := V
  exact ⟨hl, k, A.ext E⟩
theorem Ars.other {α : Type} {emb : α → Value} {dv : α} {ty : FieldType} {Z : State} {h h' : Heap} {a b : Addr} {n : Int32} {ws : List α} {sl : Nat} {v : Value} (V : Ars emb dv ty Z h a n ws) (W : Wr h h' b sl v) (q : a ≠ b) : Ars emb dv ty Z h' a n ws := by
  obtain ⟨hl, k, A⟩ := V
  exact ⟨hl, k, A.other W q⟩
theorem Ars.keep {α : Type} {emb : α → Value} {dv : α} {ty : FieldType} {Z : State} {h h' : Heap} {a : Addr} {n : Int32} {ws : List α} {us : List Addr} (V : Ars emb dv ty Z h a n ws) (K : Keep h h' us) (q : a ∉ us) : Ars emb dv ty Z h' a n ws := by
  obtain ⟨hl, k, A⟩ := V
  exact ⟨hl, k, A.keep K q⟩
theorem Ars.lt {α : Type} {emb : α → Value} {dv : α} {ty : FieldType} {Z : State} {h : Heap} {a : Addr} {n : Int32} {ws : List α} (V : Ars emb dv ty Z h a n ws) : a < h.size := by
  obtain ⟨hl, k, A⟩ := V
  exact A.lt
theorem Ars.fresh {α : Type} {emb : α → Value} {dv : α} {ty : FieldType} {Z : State} {h : Heap} {a : Addr} {n : Int32} {k : ClassId} (hd : defaultValue ty = emb dv) (A : Arr Z h a (newA k ty n) ty) (q : ¬ n < 0) : Ars emb dv ty Z h a n (List.replicate n.toNatClampNeg dv) := by
  refine ⟨by simp, k, ?_⟩
  have F := Arv.new A q
  rw [hd] at F
  have G := F.pad (pad_rep [] (emb dv) n.toNatClampNeg)
  simpa using G
section OwnArr
variable {p : Program} {l : Launch} {e : Env} {R : Room} {s : State} {m : MethodId} {args : Array Value} {below : List Frame} {meth : Method} {c : Code} {T : State} {locs : List Loc} {cells slots : Nat} {Z : State} {h : Heap}
theorem own_lt {n j : Int32} {k : Nat} (hl : k = n.toNatClampNeg) (h0 : ¬ j < 0) (h1 : j < n) : j.toNatClampNeg < k := by
  rw [Int32.lt_iff_toInt_lt] at h0 h1
  simp only [Int32.reduceToInt] at h0
  rw [hl]
  show j.toInt.toNat < n.toInt.toNat
  omega
theorem lenA {α : Type} {emb : α → Value} {dv : α} {ty : FieldType} {a : Addr} {n : Int32} {ws : List α} (X : Stand p l e R s m args below meth c T locs cells slots) (hx : p.tables.exec = Jvm.exec) (hZ : Z.Warmed39 s.vm) (eT : T.heap = h) (V : Ars emb dv ty Z h a n ws)
    {g : JFrame} (hg : g.method = m) {rest : List Value} (hs : g.stack = .ref a :: rest) (hd : decode c.code g.pc = .ok (.arraylength, 1)) :
    ∀ target, Steps p.tables e below (T.setTop { g with pc := g.pc + 1, stack := .int n :: rest }) target → Steps p.tables e below (T.setTop g) target := by
  obtain ⟨hl, k, cl, Ar, -, S, q3, H, -⟩ := V
  intro target hr
  refine X.arraylength hx (by rw [eT]; exact Ar.1) (State.isArrayOf_alike hZ.alike Ar.2.1) hg hs hd target ?_
  rw [len_of S q3]
  exact hr
theorem ldJ {a : Addr} {n : Int32} {ws : List Int64} (X : Stand p l e R s m args below meth c T locs cells slots) (hx : p.tables.exec = Jvm.exec) (hZ : Z.Warmed39 s.vm) (eT : T.heap = h) (V : ArJ Z h a n ws) {j : Int32} (h0 : ¬ j < 0) (h1 : j < n)
    {g : JFrame} (hg : g.method = m) {rest : List Value} (hs : g.stack = .int j :: .ref a :: rest) (hd : decode c.code g.pc = .ok (.laload, 1)) :
    ∀ target, Steps p.tables e below (T.setTop { g with pc := g.pc + 1, stack := .long (ws.getD j.toNatClampNeg 0) :: rest }) target → Steps p.tables e below (T.setTop g) target := by
  obtain ⟨hl, k, cl, Ar, -, S, q3, H, -⟩ := V
  have hin := inb_of S ⟨h0, h1⟩
  exact X.laload hx (by rw [eT]; exact Ar.1) (State.isArrayOf_alike hZ.alike Ar.2.1) Ar.2.2 hin (H.at hin (own_getD Value.long 0 ws _)) hg hs hd
theorem ldI {a : Addr} {n : Int32} {ws : List Int32} (X : Stand p l e R s m args below meth c T locs cells slots) (hx : p.tables.exec = Jvm.exec) (hZ : Z.Warmed39 s.vm) (eT : T.heap = h) (V : ArI Z h a n ws) {j : Int32} (h0 : ¬ j < 0) (h1 : j < n)
    {g : JFrame} (hg : g.method = m) {rest : List Value} (hs : g.stack = .int j :: .ref a :: rest) (hd : decode c.code g.pc = .ok (.iaload, 1)) :
    ∀ target, Steps p.tables e below (T.setTop { g with pc := g.pc + 1, stack := .int (ws.getD j.toNatClampNeg 0) :: rest }) target → Steps p.tables e below (T.setTop g) target := by
  obtain ⟨hl, k, cl, Ar, -, S, q3, H, -⟩ := V
  have hin := inb_of S ⟨h0, h1⟩
  exact X.iaload hx (by rw [eT]; exact Ar.1) (State.isArrayOf_alike hZ.alike Ar.2.1) Ar.2.2 hin (H.at hin (own_getD Value.int 0 ws _)) hg hs hd
theorem ldB {a : Addr} {n : Int32} {ws : List Int32} (X : Stand p l e R s m args below meth c T locs cells slots) (hx : p.tables.exec = Jvm.exec) (hZ : Z.Warmed39 s.vm) (eT : T.heap = h) (V : ArB Z h a n ws) {j : Int32} (h0 : ¬ j < 0) (h1 : j < n)
    {g : JFrame} (hg : g.method = m) {rest : List Value} (hs : g.stack = .int j :: .ref a :: rest) (hd : decode c.code g.pc = .ok (.baload, 1)) :
    ∀ target, Steps p.tables e below (T.setTop { g with pc := g.pc + 1, stack := .int (ws.getD j.toNatClampNeg 0) :: rest }) target → Steps p.tables e below (T.setTop g) target := by
  obtain ⟨hl, k, cl, Ar, -, S, q3, H, -⟩ := V
  have hin := inb_of S ⟨h0, h1⟩
  exact X.baloadBytes hx (by rw [eT]; exact Ar.1) (State.isArrayOf_alike hZ.alike Ar.2.1) Ar.2.2 hin (H.at hin (own_getD Value.int 0 ws _)) hg hs hd
theorem putJ {a : Addr} {n : Int32} {ws : List Int64} (X : Stand p l e R s m args below meth c T locs cells slots) (hx : p.tables.exec = Jvm.exec) (hZ : Z.Warmed39 s.vm) (eT : T.heap = h) (V : ArJ Z h a n ws) {j : Int32} {x : Int64} (h0 : ¬ j < 0) (h1 : j < n)
    {g : JFrame} (hg : g.method = m) {rest : List Value} (hs : g.stack = .long x :: .int j :: .ref a :: rest) (hd : decode c.code g.pc = .ok (.lastore, 1)) :
    ∃ T' h', Stand p l e R s m args below meth c T' (locs ++ [⟨a, j.toNatClampNeg⟩]) cells slots ∧ T'.heap = h' ∧ Wr h h' a j.toNatClampNeg (.long x) ∧ ArJ Z h' a n (ws.set j.toNatClampNeg x) ∧ ∀ target, Steps p.tables e below (T'.setTop { g with pc := g.pc + 1, stack := rest }) target → Steps p.tables e below (T.setTop g) target := by
  obtain ⟨hl, k, cl, Ar, q1, S, q3, H, G⟩ := V
  have hin := inb_of S ⟨h0, h1⟩
  obtain ⟨T', h', X', e', W, st⟩ := stJ X hx hZ eT Ar hin hg hs hd
  have F := Arv.set Ar q1 S q3 H G rfl W _ rfl (by rw [List.length_map]; exact own_lt hl h0 h1)
  rw [← List.map_set] at F
  exact ⟨T', h', X', e', W, ⟨by rw [List.length_set]; exact hl, k, F⟩, st⟩
theorem putI {a : Addr} {n : Int32} {ws : List Int32} (X : Stand p l e R s m args below meth c T locs cells slots) (hx : p.tables.exec = Jvm.exec) (hZ : Z.Warmed39 s.vm) (eT : T.heap = h) (V : ArI Z h a n ws) {j : Int32} {x : Int32} (h0 : ¬ j < 0) (h1 : j < n)
    {g : JFrame} (hg : g.method = m) {rest : List Value} (hs : g.stack = .int x :: .int j :: .ref a :: rest) (hd : decode c.code g.pc = .ok (.iastore, 1)) :
    ∃ T' h', Stand p l e R s m args below meth c T' (locs ++ [⟨a, j.toNatClampNeg⟩]) cells slots ∧ T'.heap = h' ∧ Wr h h' a j.toNatClampNeg (.int x) ∧ ArI Z h' a n (ws.set j.toNatClampNeg x) ∧ ∀ target, Steps p.tables e below (T'.setTop { g with pc := g.pc + 1, stack := rest }) target → Steps p.tables e below (T.setTop g) target := by
  obtain ⟨hl, k, cl, Ar, q1, S, q3, H, G⟩ := V
  have hin := inb_of S ⟨h0, h1⟩
  obtain ⟨T', h', X', e', W, st⟩ := stI X hx hZ eT Ar hin hg hs hd
  have F := Arv.set Ar q1 S q3 H G rfl W _ rfl (by rw [List.length_map]; exact own_lt hl h0 h1)
  rw [← List.map_set] at F
  exact ⟨T', h', X', e', W, ⟨by rw [List.length_set]; exact hl, k, F⟩, st⟩
theorem putB {a : Addr} {n : Int32} {ws : List Int32} (X : Stand p l e R s m args below meth c T locs cells slots) (hx : p.tables.exec = Jvm.exec) (hZ : Z.Warmed39 s.vm) (eT : T.heap = h) (V : ArB Z h a n ws) {j : Int32} {x : Int32} (h0 : ¬ j < 0) (h1 : j < n)
    {g : JFrame} (hg : g.method = m) {rest : List Value} (hs : g.stack = .int x :: .int j :: .ref a :: rest) (hd : decode c.code g.pc = .ok (.bastore, 1)) :
    ∃ T' h', Stand p l e R s m args below meth c T' (locs ++ [⟨a, j.toNatClampNeg⟩]) cells slots ∧ T'.heap = h' ∧ Wr h h' a j.toNatClampNeg (.int (nar .byte x)) ∧ ArB Z h' a n (ws.set j.toNatClampNeg (nar .byte x)) ∧ ∀ target, Steps p.tables e below (T'.setTop { g with pc := g.pc + 1, stack := rest }) target → Steps p.tables e below (T.setTop g) target := by
  obtain ⟨hl, k, cl, Ar, q1, S, q3, H, G⟩ := V
  have hin := inb_of S ⟨h0, h1⟩
  obtain ⟨T', h', X', e', W, st⟩ := stB X hx hZ eT Ar hin hg hs hd
  have F := Arv.set Ar q1 S q3 H G (fits_nar_byte _) W _ rfl (by rw [List.length_map]; exact own_lt hl h0 h1)
  rw [← List.map_set] at F
  exact ⟨T', h', X', e', W, ⟨by rw [List.length_set]; exact hl, k, F⟩, st⟩
theorem own_up {cells' slots' : Nat} (X : Stand p l e R s m args below meth c T locs cells slots) (h1 : cells ≤ cells') (h2 : slots ≤ slots') : Stand p l e R s m args below meth c T locs cells' slots' :=
  { X with same := X.same.mono h1 h2 }
end OwnArr

def RchW (p : Program) (e : Env) (below : List Frame) (s : State) (C S : Nat) (st : State) (K : Option Value → Heap → List Loc → Prop) : Prop :=
  ∃ s₂ v L, Steps p.tables e below st s₂ ∧ s₂.status = .running ∧ Ended s₂ below (.returned v) ∧ K v s₂.heap L ∧ ReturnedEndW s (.returned v) s₂ L C S
section OwnW
variable {p : Program} {l : Launch} {e : Env} {R : Room} {s : State} {vm0 : Vm} {k0 : Nat} {h : Heap} {m : MethodId} {args : Array Value} {below : List Frame} {meth : Method} {c : Code} {T : State} {locs : List Loc} {cells slots C S : Nat} {K : Option Value → Heap → List Loc → Prop}
theorem RchW.step {st st' : State} (h : ∀ t, Steps p.tables e below st' t → Steps p.tables e below st t) (k : RchW p e below s C S st' K) : RchW p e below s C S st K := by
  obtain ⟨s₂, v, L, h1, h2⟩ := k
  exact ⟨s₂, v, L, h _ h1, h2⟩
theorem RchW.retN (X : Stand p l e R (s.setVm vm0) m args below meth c T locs cells slots) (hS : s.Since vm0 k0) (eT : T.heap = h) (hk : k0 ≤ h.size) (hx : p.tables.exec = Jvm.exec) {t : FieldType} (hret : meth.sig.returnType = some t) (hlk : meth.locks = false) (ht : t = .boolean ∨ t = .byte ∨ t = .char ∨ t = .short) {pc : Nat} {Ls : Array Slot} {z : Int32} {rest : List Value} (hd : decode c.code pc = .ok (.ireturn, 1)) (hC : cells ≤ C) (hSl : slots ≤ S) (hK : K (some (.int (nar t z))) T.heap locs) :
    RchW p e below s C S (T.setTop (mkF m pc Ls (.int z :: rest))) K := by
  obtain ⟨fs, hr, hrun, hended, e1, e2, e3, e4⟩ := X.leaveW hS (by rw [eT]; exact hk) (v := some (.int (nar t z))) (fun h => by rw [hret] at h; cases h) hlk
  exact ⟨_, _, _, Jvm.RoadKit.retN X hx hret ht hd hr, hrun, hended, hK, e1, e2, e3, e4.mono hC hSl⟩
end OwnW
def CxW (R : Room) (bytes : ByteArray) (ml : Nat) (own : String) (rt : Option FieldType) (p : Program) (l : Launch) (e : Env) (s : State) (vm0 : Vm) (k0 : Nat) (m : MethodId) (args : Array Value) (below : List Frame) (meth : Method) (c : Code) (T : State) (locs : List Loc) (cells slots : Nat) (Z : State) (a0 : Array Value) (h0 : Heap) (n0 : Nat) : Prop :=
  Cx R bytes ml own rt p l e (s.setVm vm0) m args below meth c T locs cells slots Z a0 h0 n0 ∧ s.Since vm0 k0 ∧ k0 ≤ h0.size
def PV (h0 : Heap) (n0 : Nat) : Option Value → Heap → List Loc → Prop := fun v h L => v = none ∧ Fr n0 L ∧ h = h0
def PL (z : Int32) (n0 : Nat) : Option Value → Heap → List Loc → Prop := fun v h L => v = some (.int z) ∧ Fr n0 L
theorem own_d (v : Int32) : ¬ (v &&& (15 : Int32)) < 0 ∧ (v &&& (15 : Int32)) < (16 : Int32) := by
  have m := c_mask v 15 4 (by decide) (by decide)
  rw [Int32.lt_iff_toInt_lt, Int32.lt_iff_toInt_lt]
  simp only [Int32.reduceToInt]
  omega
theorem own_r {r : Int32} (h : ¬ (15 : Int32) < r) : r < (16 : Int32) := by
  rw [Int32.lt_iff_toInt_lt] at h ⊢
  simp only [Int32.reduceToInt] at h ⊢
  omega
theorem own_wS {Z : State} {a0 : Array Value} (hw : ∀ d ∈ tables_1, d.before a0 Z = true) : ∀ a ∈ Bundle.stringAtoms, a.before a0 Z = true := fun d hd => by
  simp only [Bundle.stringAtoms, List.mem_cons, List.not_mem_nil, or_false] at hd
  rcases hd with rfl | rfl | rfl | rfl | rfl | rfl | rfl
  · exact hw _ (List.mem_of_getElem? (i := 1) rfl)
  · exact hw _ (List.mem_of_getElem? (i := 2) rfl)
  · exact hw _ (List.mem_of_getElem? (i := 3) rfl)
  · exact hw _ (List.mem_of_getElem? (i := 4) rfl)
  · exact hw _ (List.mem_of_getElem? (i := 5) rfl)
  · exact hw _ (List.mem_of_getElem? (i := 6) rfl)
  · exact hw _ (List.mem_of_getElem? (i := 7) rfl)
-- body 5
theorem d5_0 : decode jdk_41_method_11_code 0 = .ok (.iload_n 0, 1) := by decide +kernel
theorem d5_1 : decode jdk_41_method_11_code 1 = .ok (.ifCond .lt 8, 3) := by decide +kernel
theorem d5_4 : decode jdk_41_method_11_code 4 = .ok (.iload_n 0, 1) := by decide +kernel
theorem d5_5 : decode jdk_41_method_11_code 5 = .ok (.iload_n 1, 1) := by decide +kernel
theorem d5_6 : decode jdk_41_method_11_code 6 = .ok (.if_icmp .lt 10, 3) := by decide +kernel
theorem d5_16 : decode jdk_41_method_11_code 16 = .ok (.iload_n 0, 1) := by decide +kernel
theorem d5_17 : decode jdk_41_method_11_code 17 = .ok (.ireturn, 1) := by decide +kernel
theorem pn5 : plainName "jdk/internal/util/Preconditions" = true := by first | (simp [plainName, overriddenIn]; done) | decide +kernel
theorem pd5 : parseMethodDescriptor "(IILjava/util/function/BiFunction;)I" = some ⟨[.int, .int, (.object "java/util/function/BiFunction")], some .int⟩ := by decide +kernel
def f5n_0 (vi0 : Int32) (vi1 : Int32) : Int32 := (if vi0 < (0 : Int32) then (0 : Int32) else (if vi0 < vi1 then vi0 else (0 : Int32)))
set_option maxRecDepth 65536 in
set_option maxHeartbeats 40000000 in
theorem b5n_0 {p : Program} {l : Launch} {e : Env} {s : State} {m : MethodId} {args : Array Value} {below : List Frame} {meth : Method} {c : Code} {T : State} {locs : List Loc} {Z : State} {a0 : Array Value} {h0 : Heap} {n0 : Nat} (cx : Cx ({ frames := 0, cells := 0, slots := 0, locals := 0 } : Room) jdk_41_method_11_code 3 "jdk/internal/util/Preconditions" (some .int) p l e s m args below meth c T locs 0 0 Z a0 h0 n0) (vi0 : Int32) (vi1 : Int32) (q0 : ¬ vi0 < 0) (q1 : vi0 < vi1) :
    Rch p e below s 0 0 (T.setTop (mkF m 0 #[.val (.int vi0), .val (.int vi1), .val .null] [])) (PI (f5n_0 vi0 vi1) h0 n0) := by
  obtain ⟨X0, hx, hZ, hw, hby, hml, hown, hret, hlk, e0, Z0, N0⟩ := cx
  unfold f5n_0
  refine Rch.step (st' := T.setTop (mkF m 1 #[.val (.int vi0), .val (.int vi1), .val .null] [(.int vi0)])) (fun _ hr => XS.iloadN X0.here hx rfl (hb hby d5_0) rfl hr) ?_
  by_cases hc1 : vi0 < (0 : Int32)
  · exact absurd hc1 q0
  · rw [if_neg hc1]
    refine Rch.step (st' := T.setTop (mkF m 4 #[.val (.int vi0), .val (.int vi1), .val .null] [])) (fun _ hr => XS.ifNo X0.here hx rfl (hb hby d5_1) rfl ((if0 _ _).trans (flt hc1).1) hr) ?_
    refine Rch.step (st' := T.setTop (mkF m 5 #[.val (.int vi0), .val (.int vi1), .val .null] [(.int vi0)])) (fun _ hr => XS.iloadN X0.here hx rfl (hb hby d5_4) rfl hr) ?_
    refine Rch.step (st' := T.setTop (mkF m 6 #[.val (.int vi0), .val (.int vi1), .val .null] [(.int vi1), (.int vi0)])) (fun _ hr => XS.iloadN X0.here hx rfl (hb hby d5_5) rfl hr) ?_
    by_cases hc2 : vi0 < vi1
    · rw [if_pos hc2]
      refine Rch.step (st' := T.setTop (mkF m 16 #[.val (.int vi0), .val (.int vi1), .val .null] [])) (fun _ hr => XS.icmpYes X0.here hx rfl (pc0 := 6) (pc' := 16) rfl (hb hby d5_6) rfl (tlt hc2).1 (by decide) (by decide) hr) ?_
      refine Rch.step (st' := T.setTop (mkF m 17 #[.val (.int vi0), .val (.int vi1), .val .null] [(.int vi0)])) (fun _ hr => XS.iloadN X0.here hx rfl (hb hby d5_16) rfl hr) ?_
      exact Rch.retI X0 hx hret hlk (hb hby d5_17) (by decide) (by decide) ⟨rfl, N0, e0⟩
    · exact absurd q1 hc2
theorem ef5n (m : MethodId) (x0 : Int32) (x1 : Int32) : entryFrame m #[(.int x0), (.int x1), .null] 3 = mkF m 0 #[.val (.int x0), .val (.int x1), .val .null] [] := by first | (simp [entryFrame, mkF, argsToLocals, Value.category]; done) | rfl
set_option maxRecDepth 65536 in
set_option maxHeartbeats 40000000 in
theorem rm5n (l : Launch) (Z : State) (a0 : Array Value) (hw : ∀ d ∈ tables_1, d.before a0 Z = true) (ws : List Jvm.Cond) (x1 : Int32) (x2 : Int32) (h0 : Heap) (n0 : Nat) (Z0 : n0 ≤ h0.size) (q0 : ¬ x1 < 0) (q1 : x1 < x2) :
    MetFree l (⟨"jdk/internal/util/Preconditions", "checkIndex", "(IILjava/util/function/BiFunction;)I"⟩ : MethodName) (head1 (Jvm.Cond.code (⟨"jdk/internal/util/Preconditions", "checkIndex", "(IILjava/util/function/BiFunction;)I"⟩ : MethodName) jdk_41_method_11_code 3 (some .int) :: ws) ({ frames := 0, cells := 0, slots := 0, locals := 0 } : Room)) (fun a U => a = #[(.int x1), (.int x2), .null] ∧ Z.Warmed39 U.vm ∧ U.heap = h0) (fun _ _ _ _ _ => True) (fun _ U o U' => ∃ v L, o = .returned v ∧ PI (f5n_0 x1 x2) h0 n0 v U'.heap L ∧ FrameEnd U o U' L ({ frames := 0, cells := 0, slots := 0, locals := 0 } : Room).cells ({ frames := 0, cells := 0, slots := 0, locals := 0 } : Room).slots) := by
  refine MetFree.of_bodySF (plainFor_of_name pn5) hisR ?_
  intro p e s m args below meth c s₁ Bd hml0 hP hK
  obtain ⟨rfl, hZ, hh⟩ := hP
  have hown : s.vm.findClass "jdk/internal/util/Preconditions" = some m.cls := findClass_of_methodNamed Bd.named
  have e0 : s₁.heap = h0 := by rw [← hh, Bd.state]; rfl
  obtain ⟨s₂, v, L, h1, h2, h3, h4, h5⟩ := b5n_0 (T := s₁) ⟨Stand.of_body Bd, Bd.exec, hZ, hw, Bd.bytes, hml0, hown, Bd.returns, BodyLoose.notSynchronized Bd, e0, Z0, Fr.nil n0⟩ x1 x2 q0 q1
  exact ⟨s₂, .returned v, castTop (ef5n m x1 x2) h1, h2, h3, v, L, rfl, h4, h5⟩
-- body 5
def f5r_0 (vi0 : Int32) (vi1 : Int32) : Int32 := (if vi0 < (0 : Int32) then (0 : Int32) else (if vi0 < vi1 then vi0 else (0 : Int32)))
set_option maxRecDepth 65536 in
set_option maxHeartbeats 40000000 in
theorem b5r_0 {p : Program} {l : Launch} {e : Env} {s : State} {m : MethodId} {args : Array Value} {below : List Frame} {meth : Method} {c : Code} {T : State} {locs : List Loc} {Z : State} {a0 : Array Value} {h0 : Heap} {n0 : Nat} (cx : Cx ({ frames := 0, cells := 0, slots := 0, locals := 0 } : Room) jdk_41_method_11_code 3 "jdk/internal/util/Preconditions" (some .int) p l e s m args below meth c T locs 0 0 Z a0 h0 n0) (vi0 : Int32) (vi1 : Int32) (va2 : Addr) (q0 : ¬ vi0 < 0) (q1 : vi0 < vi1) :
    Rch p e below s 0 0 (T.setTop (mkF m 0 #[.val (.int vi0), .val (.int vi1), .val (.ref va2)] [])) (PI (f5r_0 vi0 vi1) h0 n0) := by
  obtain ⟨X0, hx, hZ, hw, hby, hml, hown, hret, hlk, e0, Z0, N0⟩ := cx
  unfold f5r_0
  refine Rch.step (st' := T.setTop (mkF m 1 #[.val (.int vi0), .val (.int vi1), .val (.ref va2)] [(.int vi0)])) (fun _ hr => XS.iloadN X0.here hx rfl (hb hby d5_0) rfl hr) ?_
  by_cases hc1 : vi0 < (0 : Int32)
  · exact absurd hc1 q0
  · rw [if_neg hc1]
    refine Rch.step (st' := T.setTop (mkF m 4 #[.val (.int vi0), .val (.int vi1), .val (.ref va2)] [])) (fun _ hr => XS.ifNo X0.here hx rfl (hb hby d5_1) rfl ((if0 _ _).trans (flt hc1).1) hr) ?_
    refine Rch.step (st' := T.setTop (mkF m 5 #[.val (.int vi0), .val (.int vi1), .val (.ref va2)] [(.int vi0)])) (fun _ hr => XS.iloadN X0.here hx rfl (hb hby d5_4) rfl hr) ?_
    refine Rch.step (st' := T.setTop (mkF m 6 #[.val (.int vi0), .val (.int vi1), .val (.ref va2)] [(.int vi1), (.int vi0)])) (fun _ hr => XS.iloadN X0.here hx rfl (hb hby d5_5) rfl hr) ?_
    by_cases hc2 : vi0 < vi1
    · rw [if_pos hc2]
      refine Rch.step (st' := T.setTop (mkF m 16 #[.val (.int vi0), .val (.int vi1), .val (.ref va2)] [])) (fun _ hr => XS.icmpYes X0.here hx rfl (pc0 := 6) (pc' := 16) rfl (hb hby d5_6) rfl (tlt hc2).1 (by decide) (by decide) hr) ?_
      refine Rch.step (st' := T.setTop (mkF m 17 #[.val (.int vi0), .val (.int vi1), .val (.ref va2)] [(.int vi0)])) (fun _ hr => XS.iloadN X0.here hx rfl (hb hby d5_16) rfl hr) ?_
      exact Rch.retI X0 hx hret hlk (hb hby d5_17) (by decide) (by decide) ⟨rfl, N0, e0⟩
    · exact absurd q1 hc2
theorem ef5r (m : MethodId) (x0 : Int32) (x1 : Int32) (x2 : Addr) : entryFrame m #[(.int x0), (.int x1), (.ref x2)] 3 = mkF m 0 #[.val (.int x0), .val (.int x1), .val (.ref x2)] [] := by first | (simp [entryFrame, mkF, argsToLocals, Value.category]; done) | rfl
set_option maxRecDepth 65536 in
set_option maxHeartbeats 40000000 in
theorem rm5r (l : Launch) (Z : State) (a0 : Array Value) (hw : ∀ d ∈ tables_1, d.before a0 Z = true) (ws : List Jvm.Cond) (x1 : Int32) (x2 : Int32) (of : Addr) (h0 : Heap) (n0 : Nat) (Z0 : n0 ≤ h0.size) (q0 : ¬ x1 < 0) (q1 : x1 < x2) :
    MetFree l (⟨"jdk/internal/util/Preconditions", "checkIndex", "(IILjava/util/function/BiFunction;)I"⟩ : MethodName) (head1 (Jvm.Cond.code (⟨"jdk/internal/util/Preconditions", "checkIndex", "(IILjava/util/function/BiFunction;)I"⟩ : MethodName) jdk_41_method_11_code 3 (some .int) :: ws) ({ frames := 0, cells := 0, slots := 0, locals := 0 } : Room)) (fun a U => a = #[(.int x1), (.int x2), (.ref of)] ∧ Z.Warmed39 U.vm ∧ U.heap = h0) (fun _ _ _ _ _ => True) (fun _ U o U' => ∃ v L, o = .returned v ∧ PI (f5r_0 x1 x2) h0 n0 v U'.heap L ∧ FrameEnd U o U' L ({ frames := 0, cells := 0, slots := 0, locals := 0 } : Room).cells ({ frames := 0, cells := 0, slots := 0, locals := 0 } : Room).slots) := by
  refine MetFree.of_bodySF (plainFor_of_name pn5) hisR ?_
  intro p e s m args below meth c s₁ Bd hml0 hP hK
  obtain ⟨rfl, hZ, hh⟩ := hP
  have hown : s.vm.findClass "jdk/internal/util/Preconditions" = some m.cls := findClass_of_methodNamed Bd.named
  have e0 : s₁.heap = h0 := by rw [← hh, Bd.state]; rfl
  obtain ⟨s₂, v, L, h1, h2, h3, h4, h5⟩ := b5r_0 (T := s₁) ⟨Stand.of_body Bd, Bd.exec, hZ, hw, Bd.bytes, hml0, hown, Bd.returns, BodyLoose.notSynchronized Bd, e0, Z0, Fr.nil n0⟩ x1 x2 of q0 q1
  exact ⟨s₂, .returned v, castTop (ef5r m x1 x2 of) h1, h2, h3, v, L, rfl, h4, h5⟩
-- body 4
theorem d4_0 : decode jdk_42_method_155_code 0 = .ok (.iload_n 0, 1) := by decide +kernel
theorem d4_1 : decode jdk_42_method_155_code 1 = .ok (.iload_n 1, 1) := by decide +kernel
theorem d4_2 : decode jdk_42_method_155_code 2 = .ok (.getstatic 1053, 3) := by decide +kernel
theorem d4_5 : decode jdk_42_method_155_code 5 = .ok (.invokestatic 1059, 3) := by decide +kernel
theorem d4_8 : decode jdk_42_method_155_code 8 = .ok (.pop, 1) := by decide +kernel
theorem d4_9 : decode jdk_42_method_155_code 9 = .ok (.return_, 1) := by decide +kernel
theorem pn4 : plainName "java/lang/String" = true := by first | (simp [plainName, overriddenIn]; done) | decide +kernel
theorem pd4 : parseMethodDescriptor "(II)V" = some ⟨[.int, .int], none⟩ := by decide +kernel
set_option maxRecDepth 65536 in
set_option maxHeartbeats 40000000 in
theorem b4n_0 {p : Program} {l : Launch} {e : Env} {s : State} {m : MethodId} {args : Array Value} {below : List Frame} {meth : Method} {c : Code} {T : State} {locs : List Loc} {Z : State} {a0 : Array Value} {h0 : Heap} {n0 : Nat} (cx : Cx ({ frames := 1, cells := 0, slots := 0, locals := 14 } : Room) jdk_42_method_155_code 2 "java/lang/String" none p l e s m args below meth c T locs 0 0 Z a0 h0 n0) (vi0 : Int32) (vi1 : Int32) (Hf0 : Sta Z h0 "jdk/internal/util/Preconditions" "SIOOBE_FORMATTER" "Ljava/util/function/BiFunction;" .null) (q0 : ¬ vi0 < 0) (q1 : vi0 < vi1) :
    Rch p e below s 0 0 (T.setTop (mkF m 0 #[.val (.int vi0), .val (.int vi1)] [])) (PV h0 n0) := by
  obtain ⟨X0, hx, hZ, hw, hby, hml, hown, hret, hlk, e0, Z0, N0⟩ := cx
  refine Rch.step (st' := T.setTop (mkF m 1 #[.val (.int vi0), .val (.int vi1)] [(.int vi0)])) (fun _ hr => XS.iloadN X0.here hx rfl (hb hby d4_0) rfl hr) ?_
  refine Rch.step (st' := T.setTop (mkF m 2 #[.val (.int vi0), .val (.int vi1)] [(.int vi1), (.int vi0)])) (fun _ hr => XS.iloadN X0.here hx rfl (hb hby d4_1) rfl hr) ?_
  obtain ⟨T1, X1, e1, st1⟩ := getS2 X0 hx hZ hown (host := "") (Or.inl (hw _ (List.mem_of_getElem? (i := 28) rfl))) Via.refl e0 Hf0 (g := (mkF m 2 #[.val (.int vi0), .val (.int vi1)] [(.int vi1), (.int vi0)])) rfl (hb hby d4_2)
  refine Rch.step (st' := T1.setTop (mkF m 5 #[.val (.int vi0), .val (.int vi1)] [.null, (.int vi1), (.int vi0)])) (fun _ hr => st1 _ hr) ?_
  obtain ⟨_, _, ⟨T2, L2, k2, n2⟩, -, X2, ⟨Lc2, hQ2, l2, y2, z2⟩, st2⟩ := Jvm.LawKit.callS X1 hx (y := (⟨"jdk/internal/util/Preconditions", "checkIndex", "(IILjava/util/function/BiFunction;)I"⟩ : MethodName)) hown (mvT hZ (hw _ (List.mem_of_getElem? (i := 30) rfl))) (mvT hZ (hw _ (List.mem_of_getElem? (i := 31) rfl))) (mvT hZ (hw _ (List.mem_of_getElem? (i := 29) rfl))) (mvT hZ (hw _ (List.mem_of_getElem? (i := 32) rfl))) (by decide) (backOf (W := 0) (rm5n l Z a0 hw [] vi0 vi1 h0 n0 Z0 q0 q1) hZ (hw _ (List.mem_of_getElem? (i := 32) rfl)) (hw _ (List.mem_of_getElem? (i := 29) rfl)) (by decide) (by decide)) (g := (mkF m 5 #[.val (.int vi0), .val (.int vi1)] [.null, (.int vi1), (.int vi0)])) rfl (by rw [hml]; rfl) (argsL := [(.int vi0), (.int vi1), .null]) (rest := []) (lenOf pd5 rfl) rfl (by show 2 * 0 + _ ≤ _; exact Nat.le_of_eq rfl) (hb hby d4_5) (fun _ _ => ⟨rfl, e1, (by decide : 0 + 0 ≤ _), (by decide : 0 + 0 ≤ _)⟩)
  dsimp only [Pt.U, Pt.locs, Pt.cells, Pt.slots] at X2 l2 y2 z2 st2 hQ2
  subst l2 y2 z2
  obtain ⟨rfl, N2q, e2⟩ := hQ2
  have N2 := Fr.app N0 N2q
  refine Rch.step (st' := T2.setTop (mkF m 8 #[.val (.int vi0), .val (.int vi1)] [(.int (f5n_0 vi0 vi1))])) (fun _ hr => st2 _ hr) ?_
  refine Rch.step (st' := T2.setTop (mkF m 9 #[.val (.int vi0), .val (.int vi1)] [])) (fun _ hr => XS.pop X2.here hx rfl (hb hby d4_8) rfl rfl hr) ?_
  exact Rch.retV X2 hx hret hlk (hb hby d4_9) (by decide) (by decide) ⟨rfl, N2, e2⟩
theorem ef4n (m : MethodId) (x0 : Int32) (x1 : Int32) : entryFrame m #[(.int x0), (.int x1)] 2 = mkF m 0 #[.val (.int x0), .val (.int x1)] [] := by first | (simp [entryFrame, mkF, argsToLocals, Value.category]; done) | rfl
set_option maxRecDepth 65536 in
set_option maxHeartbeats 40000000 in
theorem rm4n (l : Launch) (Z : State) (a0 : Array Value) (hw : ∀ d ∈ tables_1, d.before a0 Z = true) (ws : List Jvm.Cond) (x1 : Int32) (x2 : Int32) (h0 : Heap) (n0 : Nat) (Z0 : n0 ≤ h0.size) (H0 : Sta Z h0 "jdk/internal/util/Preconditions" "SIOOBE_FORMATTER" "Ljava/util/function/BiFunction;" .null) (q0 : ¬ x1 < 0) (q1 : x1 < x2) :
    MetFree l (⟨"java/lang/String", "checkIndex", "(II)V"⟩ : MethodName) (head1 (Jvm.Cond.code (⟨"java/lang/String", "checkIndex", "(II)V"⟩ : MethodName) jdk_42_method_155_code 2 none :: ws) ({ frames := 1, cells := 0, slots := 0, locals := 14 } : Room)) (fun a U => a = #[(.int x1), (.int x2)] ∧ Z.Warmed39 U.vm ∧ U.heap = h0) (fun _ _ _ _ _ => True) (fun _ U o U' => ∃ v L, o = .returned v ∧ PV h0 n0 v U'.heap L ∧ FrameEnd U o U' L ({ frames := 1, cells := 0, slots := 0, locals := 14 } : Room).cells ({ frames := 1, cells := 0, slots := 0, locals := 14 } : Room).slots) := by
  refine MetFree.of_bodySF (plainFor_of_name pn4) hisR ?_
  intro p e s m args below meth c s₁ Bd hml0 hP hK
  obtain ⟨rfl, hZ, hh⟩ := hP
  have hown : s.vm.findClass "java/lang/String" = some m.cls := findClass_of_methodNamed Bd.named
  have e0 : s₁.heap = h0 := by rw [← hh, Bd.state]; rfl
  obtain ⟨s₂, v, L, h1, h2, h3, h4, h5⟩ := b4n_0 (T := s₁) ⟨Stand.of_body Bd, Bd.exec, hZ, hw, Bd.bytes, hml0, hown, Bd.returns, BodyLoose.notSynchronized Bd, e0, Z0, Fr.nil n0⟩ x1 x2 H0 q0 q1
  exact ⟨s₂, .returned v, castTop (ef4n m x1 x2) h1, h2, h3, v, L, rfl, h4, h5⟩
-- body 4
set_option maxRecDepth 65536 in
set_option maxHeartbeats 40000000 in
theorem b4r_0 {p : Program} {l : Launch} {e : Env} {s : State} {m : MethodId} {args : Array Value} {below : List Frame} {meth : Method} {c : Code} {T : State} {locs : List Loc} {Z : State} {a0 : Array Value} {h0 : Heap} {n0 : Nat} (cx : Cx ({ frames := 1, cells := 0, slots := 0, locals := 14 } : Room) jdk_42_method_155_code 2 "java/lang/String" none p l e s m args below meth c T locs 0 0 Z a0 h0 n0) (vi0 : Int32) (vi1 : Int32) (o0 : Addr) (Hf0 : Sta Z h0 "jdk/internal/util/Preconditions" "SIOOBE_FORMATTER" "Ljava/util/function/BiFunction;" (.ref o0)) (q0 : ¬ vi0 < 0) (q1 : vi0 < vi1) :
    Rch p e below s 0 0 (T.setTop (mkF m 0 #[.val (.int vi0), .val (.int vi1)] [])) (PV h0 n0) := by
  obtain ⟨X0, hx, hZ, hw, hby, hml, hown, hret, hlk, e0, Z0, N0⟩ := cx
  refine Rch.step (st' := T.setTop (mkF m 1 #[.val (.int vi0), .val (.int vi1)] [(.int vi0)])) (fun _ hr => XS.iloadN X0.here hx rfl (hb hby d4_0) rfl hr) ?_
  refine Rch.step (st' := T.setTop (mkF m 2 #[.val (.int vi0), .val (.int vi1)] [(.int vi1), (.int vi0)])) (fun _ hr => XS.iloadN X0.here hx rfl (hb hby d4_1) rfl hr) ?_
  obtain ⟨T1, X1, e1, st1⟩ := getS2 X0 hx hZ hown (host := "") (Or.inl (hw _ (List.mem_of_getElem? (i := 28) rfl))) Via.refl e0 Hf0 (g := (mkF m 2 #[.val (.int vi0), .val (.int vi1)] [(.int vi1), (.int vi0)])) rfl (hb hby d4_2)
  refine Rch.step (st' := T1.setTop (mkF m 5 #[.val (.int vi0), .val (.int vi1)] [(.ref o0), (.int vi1), (.int vi0)])) (fun _ hr => st1 _ hr) ?_
  obtain ⟨_, _, ⟨T2, L2, k2, n2⟩, -, X2, ⟨Lc2, hQ2, l2, y2, z2⟩, st2⟩ := Jvm.LawKit.callS X1 hx (y := (⟨"jdk/internal/util/Preconditions", "checkIndex", "(IILjava/util/function/BiFunction;)I"⟩ : MethodName)) hown (mvT hZ (hw _ (List.mem_of_getElem? (i := 30) rfl))) (mvT hZ (hw _ (List.mem_of_getElem? (i := 31) rfl))) (mvT hZ (hw _ (List.mem_of_getElem? (i := 29) rfl))) (mvT hZ (hw _ (List.mem_of_getElem? (i := 32) rfl))) (by decide) (backOf (W := 0) (rm5r l Z a0 hw [] vi0 vi1 o0 h0 n0 Z0 q0 q1) hZ (hw _ (List.mem_of_getElem? (i := 32) rfl)) (hw _ (List.mem_of_getElem? (i := 29) rfl)) (by decide) (by decide)) (g := (mkF m 5 #[.val (.int vi0), .val (.int vi1)] [(.ref o0), (.int vi1), (.int vi0)])) rfl (by rw [hml]; rfl) (argsL := [(.int vi0), (.int vi1), (.ref o0)]) (rest := []) (lenOf pd5 rfl) rfl (by show 2 * 0 + _ ≤ _; exact Nat.le_of_eq rfl) (hb hby d4_5) (fun _ _ => ⟨rfl, e1, (by decide : 0 + 0 ≤ _), (by decide : 0 + 0 ≤ _)⟩)
  dsimp only [Pt.U, Pt.locs, Pt.cells, Pt.slots] at X2 l2 y2 z2 st2 hQ2
  subst l2 y2 z2
  obtain ⟨rfl, N2q, e2⟩ := hQ2
  have N2 := Fr.app N0 N2q
  refine Rch.step (st' := T2.setTop (mkF m 8 #[.val (.int vi0), .val (.int vi1)] [(.int (f5r_0 vi0 vi1))])) (fun _ hr => st2 _ hr) ?_
  refine Rch.step (st' := T2.setTop (mkF m 9 #[.val (.int vi0), .val (.int vi1)] [])) (fun _ hr => XS.pop X2.here hx rfl (hb hby d4_8) rfl rfl hr) ?_
  exact Rch.retV X2 hx hret hlk (hb hby d4_9) (by decide) (by decide) ⟨rfl, N2, e2⟩
theorem ef4r (m : MethodId) (x0 : Int32) (x1 : Int32) : entryFrame m #[(.int x0), (.int x1)] 2 = mkF m 0 #[.val (.int x0), .val (.int x1)] [] := by first | (simp [entryFrame, mkF, argsToLocals, Value.category]; done) | rfl
set_option maxRecDepth 65536 in
set_option maxHeartbeats 40000000 in
theorem rm4r (l : Launch) (Z : State) (a0 : Array Value) (hw : ∀ d ∈ tables_1, d.before a0 Z = true) (ws : List Jvm.Cond) (x1 : Int32) (x2 : Int32) (of : Addr) (h0 : Heap) (n0 : Nat) (Z0 : n0 ≤ h0.size) (H0 : Sta Z h0 "jdk/internal/util/Preconditions" "SIOOBE_FORMATTER" "Ljava/util/function/BiFunction;" (.ref of)) (q0 : ¬ x1 < 0) (q1 : x1 < x2) :
    MetFree l (⟨"java/lang/String", "checkIndex", "(II)V"⟩ : MethodName) (head1 (Jvm.Cond.code (⟨"java/lang/String", "checkIndex", "(II)V"⟩ : MethodName) jdk_42_method_155_code 2 none :: ws) ({ frames := 1, cells := 0, slots := 0, locals := 14 } : Room)) (fun a U => a = #[(.int x1), (.int x2)] ∧ Z.Warmed39 U.vm ∧ U.heap = h0) (fun _ _ _ _ _ => True) (fun _ U o U' => ∃ v L, o = .returned v ∧ PV h0 n0 v U'.heap L ∧ FrameEnd U o U' L ({ frames := 1, cells := 0, slots := 0, locals := 14 } : Room).cells ({ frames := 1, cells := 0, slots := 0, locals := 14 } : Room).slots) := by
  refine MetFree.of_bodySF (plainFor_of_name pn4) hisR ?_
  intro p e s m args below meth c s₁ Bd hml0 hP hK
  obtain ⟨rfl, hZ, hh⟩ := hP
  have hown : s.vm.findClass "java/lang/String" = some m.cls := findClass_of_methodNamed Bd.named
  have e0 : s₁.heap = h0 := by rw [← hh, Bd.state]; rfl
  obtain ⟨s₂, v, L, h1, h2, h3, h4, h5⟩ := b4r_0 (T := s₁) ⟨Stand.of_body Bd, Bd.exec, hZ, hw, Bd.bytes, hml0, hown, Bd.returns, BodyLoose.notSynchronized Bd, e0, Z0, Fr.nil n0⟩ x1 x2 of H0 q0 q1
  exact ⟨s₂, .returned v, castTop (ef4r m x1 x2) h1, h2, h3, v, L, rfl, h4, h5⟩
theorem rm4 (l : Launch) (Z : State) (a0 : Array Value) (hw : ∀ d ∈ tables_1, d.before a0 Z = true) (ws : List Jvm.Cond) (x1 : Int32) (x2 : Int32) (fm : Value) (h0 : Heap) (n0 : Nat) (Z0 : n0 ≤ h0.size) (H0 : Sta Z h0 "jdk/internal/util/Preconditions" "SIOOBE_FORMATTER" "Ljava/util/function/BiFunction;" fm) (rf : fm.isRef = true) (q0 : ¬ x1 < 0) (q1 : x1 < x2) :
    MetFree l (⟨"java/lang/String", "checkIndex", "(II)V"⟩ : MethodName) (head1 (Jvm.Cond.code (⟨"java/lang/String", "checkIndex", "(II)V"⟩ : MethodName) jdk_42_method_155_code 2 none :: ws) ({ frames := 1, cells := 0, slots := 0, locals := 14 } : Room)) (fun a U => a = #[(.int x1), (.int x2)] ∧ Z.Warmed39 U.vm ∧ U.heap = h0) (fun _ _ _ _ _ => True) (fun _ U o U' => ∃ v L, o = .returned v ∧ PV h0 n0 v U'.heap L ∧ FrameEnd U o U' L ({ frames := 1, cells := 0, slots := 0, locals := 14 } : Room).cells ({ frames := 1, cells := 0, slots := 0, locals := 14 } : Room).slots) := by
  rcases ref_cases rf with rfl | ⟨of, rfl⟩
  · exact rm4n l Z a0 hw ws x1 x2 h0 n0 Z0 H0 q0 q1
  · exact rm4r l Z a0 hw ws x1 x2 of h0 n0 Z0 H0 q0 q1
-- body 3
theorem d3_0 : decode jdk_43_method_2_code 0 = .ok (.iload_n 1, 1) := by decide +kernel
theorem d3_1 : decode jdk_43_method_2_code 1 = .ok (.aload_n 0, 1) := by decide +kernel
theorem d3_2 : decode jdk_43_method_2_code 2 = .ok (.arraylength, 1) := by decide +kernel
theorem d3_3 : decode jdk_43_method_2_code 3 = .ok (.invokestatic 9, 3) := by decide +kernel
theorem d3_6 : decode jdk_43_method_2_code 6 = .ok (.aload_n 0, 1) := by decide +kernel
theorem d3_7 : decode jdk_43_method_2_code 7 = .ok (.iload_n 1, 1) := by decide +kernel
theorem d3_8 : decode jdk_43_method_2_code 8 = .ok (.baload, 1) := by decide +kernel
theorem d3_9 : decode jdk_43_method_2_code 9 = .ok (.sipush 255, 3) := by decide +kernel
theorem d3_12 : decode jdk_43_method_2_code 12 = .ok (.iand, 1) := by decide +kernel
theorem d3_13 : decode jdk_43_method_2_code 13 = .ok (.i2c, 1) := by decide +kernel
theorem d3_14 : decode jdk_43_method_2_code 14 = .ok (.ireturn, 1) := by decide +kernel
theorem pn3 : plainName "java/lang/StringLatin1" = true := by first | (simp [plainName, overriddenIn]; done) | decide +kernel
theorem pd3 : parseMethodDescriptor "([BI)C" = some ⟨[(.array .byte), .int], some .char⟩ := by decide +kernel
def f3_0 (vi1 : Int32) (n1v : Int32) (w1 : List Int32) : Int32 := (nar .char (((w1.getD (vi1).toNatClampNeg 0) &&& (255 : Int32)).toUInt32.toUInt16.toUInt32.toInt32))
set_option maxRecDepth 65536 in
set_option maxHeartbeats 40000000 in
theorem b3_0 {p : Program} {l : Launch} {e : Env} {s : State} {m : MethodId} {args : Array Value} {below : List Frame} {meth : Method} {c : Code} {T : State} {locs : List Loc} {Z : State} {a0 : Array Value} {h0 : Heap} {n0 : Nat} (cx : Cx ({ frames := 2, cells := 0, slots := 0, locals := 27 } : Room) jdk_43_method_2_code 2 "java/lang/StringLatin1" (some .char) p l e s m args below meth c T locs 0 0 Z a0 h0 n0) (va0 : Addr) (vi1 : Int32) (w0 : Value) (n1v : Int32) (w1 : List Int32) (Hf0 : Sta Z h0 "jdk/internal/util/Preconditions" "SIOOBE_FORMATTER" "Ljava/util/function/BiFunction;" w0) (Hf1 : ArB Z h0 va0 n1v w1) (rf : w0.isRef = true) (q0 : ¬ vi1 < 0) (q1 : vi1 < n1v) :
    Rch p e below s 0 0 (T.setTop (mkF m 0 #[.val (.ref va0), .val (.int vi1)] [])) (PI (f3_0 vi1 n1v w1) h0 n0) := by
  obtain ⟨X0, hx, hZ, hw, hby, hml, hown, hret, hlk, e0, Z0, N0⟩ := cx
  unfold f3_0
  refine Rch.step (st' := T.setTop (mkF m 1 #[.val (.ref va0), .val (.int vi1)] [(.int vi1)])) (fun _ hr => XS.iloadN X0.here hx rfl (hb hby d3_0) rfl hr) ?_
  refine Rch.step (st' := T.setTop (mkF m 2 #[.val (.ref va0), .val (.int vi1)] [(.ref va0), (.int vi1)])) (fun _ hr => XS.aloadN X0.here hx rfl (hb hby d3_1) rfl rfl hr) ?_
  refine Rch.step (st' := T.setTop (mkF m 3 #[.val (.ref va0), .val (.int vi1)] [(.int n1v), (.int vi1)])) (fun _ hr => lenA X0 hx hZ e0 Hf1 (g := (mkF m 2 #[.val (.ref va0), .val (.int vi1)] [(.ref va0), (.int vi1)])) rfl rfl (hb hby d3_2) _ hr) ?_
  obtain ⟨_, _, ⟨T1, L1, k1, n1⟩, -, X1, ⟨Lc1, hQ1, l1, y1, z1⟩, st1⟩ := Jvm.LawKit.callS X0 hx (y := (⟨"java/lang/String", "checkIndex", "(II)V"⟩ : MethodName)) hown (mvT hZ (hw _ (List.mem_of_getElem? (i := 25) rfl))) (mvT hZ (hw _ (List.mem_of_getElem? (i := 26) rfl))) (mvT hZ (hw _ (List.mem_of_getElem? (i := 1) rfl))) (mvT hZ (hw _ (List.mem_of_getElem? (i := 27) rfl))) (by decide) (backOf (W := 0) (rm4 l Z a0 hw [] vi1 n1v w0 h0 n0 Z0 Hf0 rf q0 q1) hZ (hw _ (List.mem_of_getElem? (i := 27) rfl)) (hw _ (List.mem_of_getElem? (i := 1) rfl)) (by decide) (by decide)) (g := (mkF m 3 #[.val (.ref va0), .val (.int vi1)] [(.int n1v), (.int vi1)])) rfl (by rw [hml]; rfl) (argsL := [(.int vi1), (.int n1v)]) (rest := []) (lenOf pd4 rfl) rfl (by show 2 * 0 + _ ≤ _; exact Nat.le_of_eq rfl) (hb hby d3_3) (fun _ _ => ⟨rfl, e0, (by decide : 0 + 0 ≤ _), (by decide : 0 + 0 ≤ _)⟩)
  dsimp only [Pt.U, Pt.locs, Pt.cells, Pt.slots] at X1 l1 y1 z1 st1 hQ1
  subst l1 y1 z1
  obtain ⟨rfl, N1q, e1⟩ := hQ1
  have N1 := Fr.app N0 N1q
  refine Rch.step (st' := T1.setTop (mkF m 6 #[.val (.ref va0), .val (.int vi1)] [])) (fun _ hr => st1 _ hr) ?_
  refine Rch.step (st' := T1.setTop (mkF m 7 #[.val (.ref va0), .val (.int vi1)] [(.ref va0)])) (fun _ hr => XS.aloadN X1.here hx rfl (hb hby d3_6) rfl rfl hr) ?_
  refine Rch.step (st' := T1.setTop (mkF m 8 #[.val (.ref va0), .val (.int vi1)] [(.int vi1), (.ref va0)])) (fun _ hr => XS.iloadN X1.here hx rfl (hb hby d3_7) rfl hr) ?_
  refine Rch.step (st' := T1.setTop (mkF m 9 #[.val (.ref va0), .val (.int vi1)] [(.int (w1.getD (vi1).toNatClampNeg 0))])) (fun _ hr => ldB X1 hx hZ e1 Hf1 (j := vi1) q0 q1 (g := (mkF m 8 #[.val (.ref va0), .val (.int vi1)] [(.int vi1), (.ref va0)])) rfl rfl (hb hby d3_8) _ hr) ?_
  refine Rch.step (st' := T1.setTop (mkF m 12 #[.val (.ref va0), .val (.int vi1)] [(.int (255 : Int32)), (.int (w1.getD (vi1).toNatClampNeg 0))])) (fun _ hr => XS.sipush X1.here hx rfl (hb hby d3_9) hr) ?_
  refine Rch.step (st' := T1.setTop (mkF m 13 #[.val (.ref va0), .val (.int vi1)] [(.int ((w1.getD (vi1).toNatClampNeg 0) &&& (255 : Int32)))])) (fun _ hr => XS.iand X1.here hx rfl (hb hby d3_12) rfl hr) ?_
  refine Rch.step (st' := T1.setTop (mkF m 14 #[.val (.ref va0), .val (.int vi1)] [(.int (((w1.getD (vi1).toNatClampNeg 0) &&& (255 : Int32)).toUInt32.toUInt16.toUInt32.toInt32))])) (fun _ hr => XS.i2c X1.here hx rfl (hb hby d3_13) rfl hr) ?_
  exact Rch.retN X1 hx (t := .char) hret hlk (by simp) (hb hby d3_14) (by decide) (by decide) ⟨rfl, N1, e1⟩
theorem ef3 (m : MethodId) (x0 : Addr) (x1 : Int32) : entryFrame m #[(.ref x0), (.int x1)] 2 = mkF m 0 #[.val (.ref x0), .val (.int x1)] [] := by first | (simp [entryFrame, mkF, argsToLocals, Value.category]; done) | rfl
set_option maxRecDepth 65536 in
set_option maxHeartbeats 40000000 in
theorem rm3 (l : Launch) (Z : State) (a0 : Array Value) (hw : ∀ d ∈ tables_1, d.before a0 Z = true) (ws : List Jvm.Cond) (oA : Addr) (x1 : Int32) (kn : Int32) (kw : List Int32) (fm : Value) (h0 : Heap) (n0 : Nat) (Z0 : n0 ≤ h0.size) (H0 : ArB Z h0 oA kn kw) (H1 : Sta Z h0 "jdk/internal/util/Preconditions" "SIOOBE_FORMATTER" "Ljava/util/function/BiFunction;" fm) (rf : fm.isRef = true) (q0 : ¬ x1 < 0) (q1 : x1 < kn) :
    MetFree l (⟨"java/lang/StringLatin1", "charAt", "([BI)C"⟩ : MethodName) (head1 (Jvm.Cond.code (⟨"java/lang/StringLatin1", "charAt", "([BI)C"⟩ : MethodName) jdk_43_method_2_code 2 (some .char) :: ws) ({ frames := 2, cells := 0, slots := 0, locals := 27 } : Room)) (fun a U => a = #[(.ref oA), (.int x1)] ∧ Z.Warmed39 U.vm ∧ U.heap = h0) (fun _ _ _ _ _ => True) (fun _ U o U' => ∃ v L, o = .returned v ∧ PI (f3_0 x1 kn kw) h0 n0 v U'.heap L ∧ FrameEnd U o U' L ({ frames := 2, cells := 0, slots := 0, locals := 27 } : Room).cells ({ frames := 2, cells := 0, slots := 0, locals := 27 } : Room).slots) := by
  refine MetFree.of_bodySF (plainFor_of_name pn3) hisR ?_
  intro p e s m args below meth c s₁ Bd hml0 hP hK
  obtain ⟨rfl, hZ, hh⟩ := hP
  have hown : s.vm.findClass "java/lang/StringLatin1" = some m.cls := findClass_of_methodNamed Bd.named
  have e0 : s₁.heap = h0 := by rw [← hh, Bd.state]; rfl
  obtain ⟨s₂, v, L, h1, h2, h3, h4, h5⟩ := b3_0 (T := s₁) ⟨Stand.of_body Bd, Bd.exec, hZ, hw, Bd.bytes, hml0, hown, Bd.returns, BodyLoose.notSynchronized Bd, e0, Z0, Fr.nil n0⟩ oA x1 fm kn kw H1 H0 rf q0 q1
  exact ⟨s₂, .returned v, castTop (ef3 m oA x1) h1, h2, h3, v, L, rfl, h4, h5⟩
-- body 2
theorem d2_0 : decode jdk_42_method_154_code 0 = .ok (.getstatic 38, 3) := by decide +kernel
theorem d2_3 : decode jdk_42_method_154_code 3 = .ok (.ifCond .eq 14, 3) := by decide +kernel
theorem d2_6 : decode jdk_42_method_154_code 6 = .ok (.aload_n 0, 1) := by decide +kernel
theorem d2_7 : decode jdk_42_method_154_code 7 = .ok (.getfield 15, 3) := by decide +kernel
theorem d2_10 : decode jdk_42_method_154_code 10 = .ok (.ifCond .ne 7, 3) := by decide +kernel
theorem d2_13 : decode jdk_42_method_154_code 13 = .ok (.iconst 1, 1) := by decide +kernel
theorem d2_14 : decode jdk_42_method_154_code 14 = .ok (.goto 4, 3) := by decide +kernel
theorem d2_18 : decode jdk_42_method_154_code 18 = .ok (.ireturn, 1) := by decide +kernel
theorem pn2 : plainName "java/lang/String" = true := by first | (simp [plainName, overriddenIn]; done) | decide +kernel
theorem pd2 : parseMethodDescriptor "()Z" = some ⟨[], some .boolean⟩ := by decide +kernel
def f2_0 (w0 : Int32) (w1 : Int32) : Int32 := (if w0 = (0 : Int32) then (0 : Int32) else (if w1 = (0 : Int32) then (1 : Int32) else (0 : Int32)))
set_option maxRecDepth 65536 in
set_option maxHeartbeats 40000000 in
theorem b2_0 {p : Program} {l : Launch} {e : Env} {s : State} {m : MethodId} {args : Array Value} {below : List Frame} {meth : Method} {c : Code} {T : State} {locs : List Loc} {Z : State} {a0 : Array Value} {h0 : Heap} {n0 : Nat} (cx : Cx ({ frames := 0, cells := 0, slots := 0, locals := 0 } : Room) jdk_42_method_154_code 1 "java/lang/String" (some .boolean) p l e s m args below meth c T locs 0 0 Z a0 h0 n0) (va0 : Addr) (w0 : Int32) (w1 : Int32) (Hf0 : Sta Z h0 "java/lang/String" "COMPACT_STRINGS" "Z" (.int w0)) (Hf1 : Fld Z h0 va0 "java/lang/String" "coder" "B" (.int w1)) (hz : w0 ≠ 0) (hcd : w1 = 0) :
    Rch p e below s 0 0 (T.setTop (mkF m 0 #[.val (.ref va0)] [])) (PI (f2_0 w0 w1) h0 n0) := by
  obtain ⟨X0, hx, hZ, hw, hby, hml, hown, hret, hlk, e0, Z0, N0⟩ := cx
  unfold f2_0
  obtain ⟨T1, X1, e1, st1⟩ := getS2 X0 hx hZ hown (host := "") (Or.inl (hw _ (List.mem_of_getElem? (i := 18) rfl))) Via.refl e0 Hf0 (g := (mkF m 0 #[.val (.ref va0)] [])) rfl (hb hby d2_0)
  refine Rch.step (st' := T1.setTop (mkF m 3 #[.val (.ref va0)] [(.int w0)])) (fun _ hr => st1 _ hr) ?_
  by_cases hc2 : w0 = (0 : Int32)
  · exact absurd hc2 hz
  · rw [if_neg hc2]
    refine Rch.step (st' := T1.setTop (mkF m 6 #[.val (.ref va0)] [])) (fun _ hr => XS.ifNo X1.here hx rfl (hb hby d2_3) rfl ((if0 _ _).trans (feq hc2).1) hr) ?_
    refine Rch.step (st' := T1.setTop (mkF m 7 #[.val (.ref va0)] [(.ref va0)])) (fun _ hr => XS.aloadN X1.here hx rfl (hb hby d2_6) rfl rfl hr) ?_
    obtain ⟨T3, X3, e3, st3⟩ := getF X1 hx hZ hown (host := "") (Or.inl (hw _ (List.mem_of_getElem? (i := 19) rfl))) Via.refl e1 Hf1 (g := (mkF m 7 #[.val (.ref va0)] [(.ref va0)])) rfl rfl (hb hby d2_7)
    refine Rch.step (st' := T3.setTop (mkF m 10 #[.val (.ref va0)] [(.int w1)])) (fun _ hr => st3 _ hr) ?_
    by_cases hc4 : w1 = (0 : Int32)
    · rw [if_pos hc4]
      refine Rch.step (st' := T3.setTop (mkF m 13 #[.val (.ref va0)] [])) (fun _ hr => XS.ifNo X3.here hx rfl (hb hby d2_10) rfl ((if0 _ _).trans (teq hc4).2) hr) ?_
      refine Rch.step (st' := T3.setTop (mkF m 14 #[.val (.ref va0)] [(.int (1 : Int32))])) (fun _ hr => XS.iconst X3.here hx rfl (hb hby d2_13) hr) ?_
      refine Rch.step (st' := T3.setTop (mkF m 18 #[.val (.ref va0)] [(.int (1 : Int32))])) (fun _ hr => XS.goto X3.here hx rfl (pc0 := 14) (pc' := 18) rfl (hb hby d2_14) (by decide) (by decide) hr) ?_
      exact Rch.retN X3 hx (t := .boolean) hret hlk (by simp) (hb hby d2_18) (by decide) (by decide) ⟨rfl, N0, e3⟩
    · exact absurd hcd hc4
theorem ef2 (m : MethodId) (x0 : Addr) : entryFrame m #[(.ref x0)] 1 = mkF m 0 #[.val (.ref x0)] [] := by first | (simp [entryFrame, mkF, argsToLocals, Value.category]; done) | rfl
set_option maxRecDepth 65536 in
set_option maxHeartbeats 40000000 in
theorem rm2 (l : Launch) (Z : State) (a0 : Array Value) (hw : ∀ d ∈ tables_1, d.before a0 Z = true) (ws : List Jvm.Cond) (ob : Addr) (kc : Int32) (kz : Int32) (h0 : Heap) (n0 : Nat) (Z0 : n0 ≤ h0.size) (H0 : Fld Z h0 ob "java/lang/String" "coder" "B" (.int kc)) (H1 : Sta Z h0 "java/lang/String" "COMPACT_STRINGS" "Z" (.int kz)) (hz : kz ≠ 0) (hcd : kc = 0) :
    MetFree l (⟨"java/lang/String", "isLatin1", "()Z"⟩ : MethodName) (head1 (Jvm.Cond.code (⟨"java/lang/String", "isLatin1", "()Z"⟩ : MethodName) jdk_42_method_154_code 1 (some .boolean) :: ws) ({ frames := 0, cells := 0, slots := 0, locals := 0 } : Room)) (fun a U => a = #[(.ref ob)] ∧ Z.Warmed39 U.vm ∧ U.heap = h0) (fun _ _ _ _ _ => True) (fun _ U o U' => ∃ v L, o = .returned v ∧ PI (f2_0 kz kc) h0 n0 v U'.heap L ∧ FrameEnd U o U' L ({ frames := 0, cells := 0, slots := 0, locals := 0 } : Room).cells ({ frames := 0, cells := 0, slots := 0, locals := 0 } : Room).slots) := by
  refine MetFree.of_bodySF (plainFor_of_name pn2) hisR ?_
  intro p e s m args below meth c s₁ Bd hml0 hP hK
  obtain ⟨rfl, hZ, hh⟩ := hP
  have hown : s.vm.findClass "java/lang/String" = some m.cls := findClass_of_methodNamed Bd.named
  have e0 : s₁.heap = h0 := by rw [← hh, Bd.state]; rfl
  obtain ⟨s₂, v, L, h1, h2, h3, h4, h5⟩ := b2_0 (T := s₁) ⟨Stand.of_body Bd, Bd.exec, hZ, hw, Bd.bytes, hml0, hown, Bd.returns, BodyLoose.notSynchronized Bd, e0, Z0, Fr.nil n0⟩ ob kz kc H1 H0 hz hcd
  exact ⟨s₂, .returned v, castTop (ef2 m ob) h1, h2, h3, v, L, rfl, h4, h5⟩
theorem own_lat {kc kz : Int32} (hz : kz ≠ 0) (hcd : kc = 0) : (f2_0 kz kc) ≠ 0 := by
  subst hcd
  unfold f2_0
  rw [if_neg hz, if_pos rfl]
  decide
-- body 1
theorem d1_0 : decode jdk_42_method_56_code 0 = .ok (.aload_n 0, 1) := by decide +kernel
theorem d1_1 : decode jdk_42_method_56_code 1 = .ok (.invokevirtual 492, 3) := by decide +kernel
theorem d1_4 : decode jdk_42_method_56_code 4 = .ok (.ifCond .eq 12, 3) := by decide +kernel
theorem d1_7 : decode jdk_42_method_56_code 7 = .ok (.aload_n 0, 1) := by decide +kernel
theorem d1_8 : decode jdk_42_method_56_code 8 = .ok (.getfield 9, 3) := by decide +kernel
theorem d1_11 : decode jdk_42_method_56_code 11 = .ok (.iload_n 1, 1) := by decide +kernel
theorem d1_12 : decode jdk_42_method_56_code 12 = .ok (.invokestatic 495, 3) := by decide +kernel
theorem d1_15 : decode jdk_42_method_56_code 15 = .ok (.ireturn, 1) := by decide +kernel
theorem pn1 : plainName "java/lang/String" = true := by first | (simp [plainName, overriddenIn]; done) | decide +kernel
theorem pd1 : parseMethodDescriptor "(I)C" = some ⟨[.int], some .char⟩ := by decide +kernel
def f1_0 (vi1 : Int32) (w0 : Int32) (w3 : Int32) (n5v : Int32) (w5 : List Int32) : Int32 := (if (f2_0 w0 w3) = (0 : Int32) then (0 : Int32) else (nar .char (f3_0 vi1 n5v w5)))
set_option maxRecDepth 65536 in
set_option maxHeartbeats 40000000 in
theorem b1_0 {p : Program} {l : Launch} {e : Env} {s : State} {m : MethodId} {args : Array Value} {below : List Frame} {meth : Method} {c : Code} {T : State} {locs : List Loc} {Z : State} {a0 : Array Value} {h0 : Heap} {n0 : Nat} (cx : Cx ({ frames := 3, cells := 0, slots := 0, locals := 40 } : Room) jdk_42_method_56_code 2 "java/lang/String" (some .char) p l e s m args below meth c T locs 0 0 Z a0 h0 n0) (va0 : Addr) (vi1 : Int32) (o1 : Addr) (w0 : Int32) (w1 : Value) (w3 : Int32) (n5v : Int32) (w5 : List Int32) (Hf0 : Sta Z h0 "java/lang/String" "COMPACT_STRINGS" "Z" (.int w0)) (Hf1 : Sta Z h0 "jdk/internal/util/Preconditions" "SIOOBE_FORMATTER" "Ljava/util/function/BiFunction;" w1) (Hf2 : Exa Z h0 va0 "java/lang/String") (Hf3 : Fld Z h0 va0 "java/lang/String" "coder" "B" (.int w3)) (Hf4 : Fld Z h0 va0 "java/lang/String" "value" "[B" (.ref o1)) (Hf5 : ArB Z h0 o1 n5v w5) (hz : w0 ≠ 0) (hcd : w3 = 0) (rf : w1.isRef = true) (q0 : ¬ vi1 < 0) (q1 : vi1 < n5v) :
    Rch p e below s 0 0 (T.setTop (mkF m 0 #[.val (.ref va0), .val (.int vi1)] [])) (PI (f1_0 vi1 w0 w3 n5v w5) h0 n0) := by
  obtain ⟨X0, hx, hZ, hw, hby, hml, hown, hret, hlk, e0, Z0, N0⟩ := cx
  unfold f1_0
  refine Rch.step (st' := T.setTop (mkF m 1 #[.val (.ref va0), .val (.int vi1)] [(.ref va0)])) (fun _ hr => XS.aloadN X0.here hx rfl (hb hby d1_0) rfl rfl hr) ?_
  obtain ⟨cq1, kq1, q1a, q1b, q1c⟩ := isOf hZ e0 Hf2
  obtain ⟨_, _, ⟨T1, L1, k1, n1⟩, -, X1, ⟨Lc1, hQ1, l1, y1, z1⟩, st1⟩ := X0.virtualBack hx (y := (⟨"java/lang/String", "isLatin1", "()Z"⟩ : MethodName)) (z := (⟨"java/lang/String", "isLatin1", "()Z"⟩ : MethodName)) hown (mvT hZ (hw _ (List.mem_of_getElem? (i := 13) rfl))) (mvT hZ (hw _ (List.mem_of_getElem? (i := 14) rfl))) (notFace_of_selects (args := #[]) (mvT hZ (hw _ (List.mem_of_getElem? (i := 16) rfl)))) (mvT hZ (hw _ (List.mem_of_getElem? (i := 16) rfl))) (mvT hZ (hw _ (List.mem_of_getElem? (i := 15) rfl))) (by decide) (backOf (W := 0) (rm2 l Z a0 hw [] va0 w3 w0 h0 n0 Z0 Hf3 Hf0 hz hcd) hZ (hw _ (List.mem_of_getElem? (i := 17) rfl)) (hw _ (List.mem_of_getElem? (i := 1) rfl)) (by decide) (by decide)) q1a q1c (g := (mkF m 1 #[.val (.ref va0), .val (.int vi1)] [(.ref va0)])) rfl (by rw [hml]; rfl) (Steps.refl _) (argsL := []) (rest := []) (lenOf pd2 rfl) rfl (by show 2 * 0 + _ ≤ _; exact Nat.le_of_eq rfl) (hb hby d1_1) (fun _ _ => ⟨rfl, e0, (by decide : 0 + 0 ≤ _), (by decide : 0 + 0 ≤ _)⟩)
  dsimp only [Pt.U, Pt.locs, Pt.cells, Pt.slots] at X1 l1 y1 z1 st1 hQ1
  subst l1 y1 z1
  obtain ⟨rfl, N1q, e1⟩ := hQ1
  have N1 := Fr.app N0 N1q
  refine Rch.step (st' := T1.setTop (mkF m 4 #[.val (.ref va0), .val (.int vi1)] [(.int (f2_0 w0 w3))])) (fun _ hr => st1.trans hr) ?_
  by_cases hc2 : (f2_0 w0 w3) = (0 : Int32)
  · exact absurd hc2 (own_lat hz hcd)
  · rw [if_neg hc2]
    refine Rch.step (st' := T1.setTop (mkF m 7 #[.val (.ref va0), .val (.int vi1)] [])) (fun _ hr => XS.ifNo X1.here hx rfl (hb hby d1_4) rfl ((if0 _ _).trans (feq hc2).1) hr) ?_
    refine Rch.step (st' := T1.setTop (mkF m 8 #[.val (.ref va0), .val (.int vi1)] [(.ref va0)])) (fun _ hr => XS.aloadN X1.here hx rfl (hb hby d1_7) rfl rfl hr) ?_
    obtain ⟨T3, X3, e3, st3⟩ := getF X1 hx hZ hown (host := "") (Or.inl (hw _ (List.mem_of_getElem? (i := 20) rfl))) Via.refl e1 Hf4 (g := (mkF m 8 #[.val (.ref va0), .val (.int vi1)] [(.ref va0)])) rfl rfl (hb hby d1_8)
    refine Rch.step (st' := T3.setTop (mkF m 11 #[.val (.ref va0), .val (.int vi1)] [(.ref o1)])) (fun _ hr => st3 _ hr) ?_
    refine Rch.step (st' := T3.setTop (mkF m 12 #[.val (.ref va0), .val (.int vi1)] [(.int vi1), (.ref o1)])) (fun _ hr => XS.iloadN X3.here hx rfl (hb hby d1_11) rfl hr) ?_
    obtain ⟨_, _, ⟨T4, L4, k4, n4⟩, -, X4, ⟨Lc4, hQ4, l4, y4, z4⟩, st4⟩ := Jvm.LawKit.callS X3 hx (y := (⟨"java/lang/StringLatin1", "charAt", "([BI)C"⟩ : MethodName)) hown (mvT hZ (hw _ (List.mem_of_getElem? (i := 21) rfl))) (mvT hZ (hw _ (List.mem_of_getElem? (i := 22) rfl))) (mvT hZ (hw _ (List.mem_of_getElem? (i := 23) rfl))) (mvT hZ (hw _ (List.mem_of_getElem? (i := 24) rfl))) (by decide) (backOf (W := 0) (rm3 l Z a0 hw [] o1 vi1 n5v w5 w1 h0 n0 Z0 Hf5 Hf1 rf q0 q1) hZ (hw _ (List.mem_of_getElem? (i := 24) rfl)) (hw _ (List.mem_of_getElem? (i := 23) rfl)) (by decide) (by decide)) (g := (mkF m 12 #[.val (.ref va0), .val (.int vi1)] [(.int vi1), (.ref o1)])) rfl (by rw [hml]; rfl) (argsL := [(.ref o1), (.int vi1)]) (rest := []) (lenOf pd3 rfl) rfl (by show 2 * 0 + _ ≤ _; exact Nat.le_of_eq rfl) (hb hby d1_12) (fun _ _ => ⟨rfl, e3, (by decide : 0 + 0 ≤ _), (by decide : 0 + 0 ≤ _)⟩)
    dsimp only [Pt.U, Pt.locs, Pt.cells, Pt.slots] at X4 l4 y4 z4 st4 hQ4
    subst l4 y4 z4
    obtain ⟨rfl, N4q, e4⟩ := hQ4
    have N4 := Fr.app N1 N4q
    refine Rch.step (st' := T4.setTop (mkF m 15 #[.val (.ref va0), .val (.int vi1)] [(.int (f3_0 vi1 n5v w5))])) (fun _ hr => st4 _ hr) ?_
    exact Rch.retN X4 hx (t := .char) hret hlk (by simp) (hb hby d1_15) (by decide) (by decide) ⟨rfl, N4, e4⟩
theorem ef1 (m : MethodId) (x0 : Addr) (x1 : Int32) : entryFrame m #[(.ref x0), (.int x1)] 2 = mkF m 0 #[.val (.ref x0), .val (.int x1)] [] := by first | (simp [entryFrame, mkF, argsToLocals, Value.category]; done) | rfl
set_option maxRecDepth 65536 in
set_option maxHeartbeats 40000000 in
theorem rm1 (l : Launch) (Z : State) (a0 : Array Value) (hw : ∀ d ∈ tables_1, d.before a0 Z = true) (ws : List Jvm.Cond) (ob : Addr) (x1 : Int32) (kc : Int32) (kz : Int32) (oA : Addr) (kn : Int32) (kw : List Int32) (fm : Value) (h0 : Heap) (n0 : Nat) (Z0 : n0 ≤ h0.size) (H0 : Exa Z h0 ob "java/lang/String") (H1 : Fld Z h0 ob "java/lang/String" "coder" "B" (.int kc)) (H2 : Fld Z h0 ob "java/lang/String" "value" "[B" (.ref oA)) (H3 : ArB Z h0 oA kn kw) (H4 : Sta Z h0 "java/lang/String" "COMPACT_STRINGS" "Z" (.int kz)) (H5 : Sta Z h0 "jdk/internal/util/Preconditions" "SIOOBE_FORMATTER" "Ljava/util/function/BiFunction;" fm) (hz : kz ≠ 0) (hcd : kc = 0) (rf : fm.isRef = true) (q0 : ¬ x1 < 0) (q1 : x1 < kn) :
    MetFree l (⟨"java/lang/String", "charAt", "(I)C"⟩ : MethodName) (head1 (Jvm.Cond.code (⟨"java/lang/String", "charAt", "(I)C"⟩ : MethodName) jdk_42_method_56_code 2 (some .char) :: ws) ({ frames := 3, cells := 0, slots := 0, locals := 40 } : Room)) (fun a U => a = #[(.ref ob), (.int x1)] ∧ Z.Warmed39 U.vm ∧ U.heap = h0) (fun _ _ _ _ _ => True) (fun _ U o U' => ∃ v L, o = .returned v ∧ PI (f1_0 x1 kz kc kn kw) h0 n0 v U'.heap L ∧ FrameEnd U o U' L ({ frames := 3, cells := 0, slots := 0, locals := 40 } : Room).cells ({ frames := 3, cells := 0, slots := 0, locals := 40 } : Room).slots) := by
  refine MetFree.of_bodySF (plainFor_of_name pn1) hisR ?_
  intro p e s m args below meth c s₁ Bd hml0 hP hK
  obtain ⟨rfl, hZ, hh⟩ := hP
  have hown : s.vm.findClass "java/lang/String" = some m.cls := findClass_of_methodNamed Bd.named
  have e0 : s₁.heap = h0 := by rw [← hh, Bd.state]; rfl
  obtain ⟨s₂, v, L, h1, h2, h3, h4, h5⟩ := b1_0 (T := s₁) ⟨Stand.of_body Bd, Bd.exec, hZ, hw, Bd.bytes, hml0, hown, Bd.returns, BodyLoose.notSynchronized Bd, e0, Z0, Fr.nil n0⟩ ob x1 oA kz fm kc kn kw H4 H5 H0 H1 H2 H3 hz hcd rf q0 q1
  exact ⟨s₂, .returned v, castTop (ef1 m ob x1) h1, h2, h3, v, L, rfl, h4, h5⟩
-- body 6
theorem d6_0 : decode prog_18_method_14_code 0 = .ok (.iload_n 0, 1) := by decide +kernel
theorem d6_1 : decode prog_18_method_14_code 1 = .ok (.bipush 48, 2) := by decide +kernel
theorem d6_3 : decode prog_18_method_14_code 3 = .ok (.if_icmp .lt 14, 3) := by decide +kernel
theorem d6_6 : decode prog_18_method_14_code 6 = .ok (.iload_n 0, 1) := by decide +kernel
theorem d6_7 : decode prog_18_method_14_code 7 = .ok (.bipush 57, 2) := by decide +kernel
theorem d6_9 : decode prog_18_method_14_code 9 = .ok (.if_icmp .gt 8, 3) := by decide +kernel
theorem d6_12 : decode prog_18_method_14_code 12 = .ok (.iload_n 0, 1) := by decide +kernel
theorem d6_13 : decode prog_18_method_14_code 13 = .ok (.bipush 48, 2) := by decide +kernel
theorem d6_15 : decode prog_18_method_14_code 15 = .ok (.isub, 1) := by decide +kernel
theorem d6_16 : decode prog_18_method_14_code 16 = .ok (.ireturn, 1) := by decide +kernel
theorem d6_17 : decode prog_18_method_14_code 17 = .ok (.iload_n 0, 1) := by decide +kernel
theorem d6_18 : decode prog_18_method_14_code 18 = .ok (.bipush 97, 2) := by decide +kernel
theorem d6_20 : decode prog_18_method_14_code 20 = .ok (.if_icmp .lt 17, 3) := by decide +kernel
theorem d6_23 : decode prog_18_method_14_code 23 = .ok (.iload_n 0, 1) := by decide +kernel
theorem d6_24 : decode prog_18_method_14_code 24 = .ok (.bipush 102, 2) := by decide +kernel
theorem d6_26 : decode prog_18_method_14_code 26 = .ok (.if_icmp .gt 11, 3) := by decide +kernel
theorem d6_29 : decode prog_18_method_14_code 29 = .ok (.iload_n 0, 1) := by decide +kernel
theorem d6_30 : decode prog_18_method_14_code 30 = .ok (.bipush 97, 2) := by decide +kernel
theorem d6_32 : decode prog_18_method_14_code 32 = .ok (.isub, 1) := by decide +kernel
theorem d6_33 : decode prog_18_method_14_code 33 = .ok (.bipush 10, 2) := by decide +kernel
theorem d6_35 : decode prog_18_method_14_code 35 = .ok (.iadd, 1) := by decide +kernel
theorem d6_36 : decode prog_18_method_14_code 36 = .ok (.ireturn, 1) := by decide +kernel
theorem d6_37 : decode prog_18_method_14_code 37 = .ok (.iload_n 0, 1) := by decide +kernel
theorem d6_38 : decode prog_18_method_14_code 38 = .ok (.bipush 65, 2) := by decide +kernel
theorem d6_40 : decode prog_18_method_14_code 40 = .ok (.if_icmp .lt 17, 3) := by decide +kernel
theorem d6_43 : decode prog_18_method_14_code 43 = .ok (.iload_n 0, 1) := by decide +kernel
theorem d6_44 : decode prog_18_method_14_code 44 = .ok (.bipush 70, 2) := by decide +kernel
theorem d6_46 : decode prog_18_method_14_code 46 = .ok (.if_icmp .gt 11, 3) := by decide +kernel
theorem d6_49 : decode prog_18_method_14_code 49 = .ok (.iload_n 0, 1) := by decide +kernel
theorem d6_50 : decode prog_18_method_14_code 50 = .ok (.bipush 65, 2) := by decide +kernel
theorem d6_52 : decode prog_18_method_14_code 52 = .ok (.isub, 1) := by decide +kernel
theorem d6_53 : decode prog_18_method_14_code 53 = .ok (.bipush 10, 2) := by decide +kernel
theorem d6_55 : decode prog_18_method_14_code 55 = .ok (.iadd, 1) := by decide +kernel
theorem d6_56 : decode prog_18_method_14_code 56 = .ok (.ireturn, 1) := by decide +kernel
theorem d6_57 : decode prog_18_method_14_code 57 = .ok (.iconst (-1), 1) := by decide +kernel
theorem d6_58 : decode prog_18_method_14_code 58 = .ok (.ireturn, 1) := by decide +kernel
theorem pn6 : plainName "com/example/kavsak/kavsak/HttpSyntax" = true := by first | (simp [plainName, overriddenIn]; done) | decide +kernel
theorem pd6 : parseMethodDescriptor "(C)I" = some ⟨[.char], some .int⟩ := by decide +kernel
def f6_37 (vi0 : Int32) : Int32 := (if vi0 < (65 : Int32) then (-1 : Int32) else (if (70 : Int32) < vi0 then (-1 : Int32) else ((vi0 - (65 : Int32)) + (10 : Int32))))
def f6_17 (vi0 : Int32) : Int32 := (if vi0 < (97 : Int32) then (f6_37 vi0) else (if (102 : Int32) < vi0 then (f6_37 vi0) else ((vi0 - (97 : Int32)) + (10 : Int32))))
def f6_0 (vi0 : Int32) : Int32 := (if vi0 < (48 : Int32) then (f6_17 vi0) else (if (57 : Int32) < vi0 then (f6_17 vi0) else (vi0 - (48 : Int32))))
set_option maxRecDepth 65536 in
set_option maxHeartbeats 40000000 in
theorem b6_37 {p : Program} {l : Launch} {e : Env} {s : State} {m : MethodId} {args : Array Value} {below : List Frame} {meth : Method} {c : Code} {T : State} {locs : List Loc} {Z : State} {a0 : Array Value} {h0 : Heap} {n0 : Nat} (cx : Cx ({ frames := 0, cells := 0, slots := 0, locals := 0 } : Room) prog_18_method_14_code 1 "com/example/kavsak/kavsak/HttpSyntax" (some .int) p l e s m args below meth c T locs 0 0 Z a0 h0 n0) (vi0 : Int32) :
    Rch p e below s 0 0 (T.setTop (mkF m 37 #[.val (.int vi0)] [])) (PI (f6_37 vi0) h0 n0) := by
  obtain ⟨X0, hx, hZ, hw, hby, hml, hown, hret, hlk, e0, Z0, N0⟩ := cx
  unfold f6_37
  refine Rch.step (st' := T.setTop (mkF m 38 #[.val (.int vi0)] [(.int vi0)])) (fun _ hr => XS.iloadN X0.here hx rfl (hb hby d6_37) rfl hr) ?_
  refine Rch.step (st' := T.setTop (mkF m 40 #[.val (.int vi0)] [(.int (65 : Int32)), (.int vi0)])) (fun _ hr => XS.bipush X0.here hx rfl (hb hby d6_38) hr) ?_
  by_cases hc1 : vi0 < (65 : Int32)
  · rw [if_pos hc1]
    refine Rch.step (st' := T.setTop (mkF m 57 #[.val (.int vi0)] [])) (fun _ hr => XS.icmpYes X0.here hx rfl (pc0 := 40) (pc' := 57) rfl (hb hby d6_40) rfl (tlt hc1).1 (by decide) (by decide) hr) ?_
    refine Rch.step (st' := T.setTop (mkF m 58 #[.val (.int vi0)] [(.int (-1 : Int32))])) (fun _ hr => XS.iconst X0.here hx rfl (hb hby d6_57) hr) ?_
    exact Rch.retI X0 hx hret hlk (hb hby d6_58) (by decide) (by decide) ⟨rfl, N0, e0⟩
  · rw [if_neg hc1]
    refine Rch.step (st' := T.setTop (mkF m 43 #[.val (.int vi0)] [])) (fun _ hr => XS.icmpNo X0.here hx rfl (hb hby d6_40) rfl (flt hc1).1 hr) ?_
    refine Rch.step (st' := T.setTop (mkF m 44 #[.val (.int vi0)] [(.int vi0)])) (fun _ hr => XS.iloadN X0.here hx rfl (hb hby d6_43) rfl hr) ?_
    refine Rch.step (st' := T.setTop (mkF m 46 #[.val (.int vi0)] [(.int (70 : Int32)), (.int vi0)])) (fun _ hr => XS.bipush X0.here hx rfl (hb hby d6_44) hr) ?_
    by_cases hc2 : (70 : Int32) < vi0
    · rw [if_pos hc2]
      refine Rch.step (st' := T.setTop (mkF m 57 #[.val (.int vi0)] [])) (fun _ hr => XS.icmpYes X0.here hx rfl (pc0 := 46) (pc' := 57) rfl (hb hby d6_46) rfl (tlt hc2).2.2.1 (by decide) (by decide) hr) ?_
      refine Rch.step (st' := T.setTop (mkF m 58 #[.val (.int vi0)] [(.int (-1 : Int32))])) (fun _ hr => XS.iconst X0.here hx rfl (hb hby d6_57) hr) ?_
      exact Rch.retI X0 hx hret hlk (hb hby d6_58) (by decide) (by decide) ⟨rfl, N0, e0⟩
    · rw [if_neg hc2]
      refine Rch.step (st' := T.setTop (mkF m 49 #[.val (.int vi0)] [])) (fun _ hr => XS.icmpNo X0.here hx rfl (hb hby d6_46) rfl (flt hc2).2.2.1 hr) ?_
      refine Rch.step (st' := T.setTop (mkF m 50 #[.val (.int vi0)] [(.int vi0)])) (fun _ hr => XS.iloadN X0.here hx rfl (hb hby d6_49) rfl hr) ?_
      refine Rch.step (st' := T.setTop (mkF m 52 #[.val (.int vi0)] [(.int (65 : Int32)), (.int vi0)])) (fun _ hr => XS.bipush X0.here hx rfl (hb hby d6_50) hr) ?_
      refine Rch.step (st' := T.setTop (mkF m 53 #[.val (.int vi0)] [(.int (vi0 - (65 : Int32)))])) (fun _ hr => XS.isub X0.here hx rfl (hb hby d6_52) rfl hr) ?_
      refine Rch.step (st' := T.setTop (mkF m 55 #[.val (.int vi0)] [(.int (10 : Int32)), (.int (vi0 - (65 : Int32)))])) (fun _ hr => XS.bipush X0.here hx rfl (hb hby d6_53) hr) ?_
      refine Rch.step (st' := T.setTop (mkF m 56 #[.val (.int vi0)] [(.int ((vi0 - (65 : Int32)) + (10 : Int32)))])) (fun _ hr => XS.iadd X0.here hx rfl (hb hby d6_55) rfl hr) ?_
      exact Rch.retI X0 hx hret hlk (hb hby d6_56) (by decide) (by decide) ⟨rfl, N0, e0⟩
set_option maxRecDepth 65536 in
set_option maxHeartbeats 40000000 in
theorem b6_17 {p : Program} {l : Launch} {e : Env} {s : State} {m : MethodId} {args : Array Value} {below : List Frame} {meth : Method} {c : Code} {T : State} {locs : List Loc} {Z : State} {a0 : Array Value} {h0 : Heap} {n0 : Nat} (cx : Cx ({ frames := 0, cells := 0, slots := 0, locals := 0 } : Room) prog_18_method_14_code 1 "com/example/kavsak/kavsak/HttpSyntax" (some .int) p l e s m args below meth c T locs 0 0 Z a0 h0 n0) (vi0 : Int32) :
    Rch p e below s 0 0 (T.setTop (mkF m 17 #[.val (.int vi0)] [])) (PI (f6_17 vi0) h0 n0) := by
  obtain ⟨X0, hx, hZ, hw, hby, hml, hown, hret, hlk, e0, Z0, N0⟩ := cx
  unfold f6_17
  refine Rch.step (st' := T.setTop (mkF m 18 #[.val (.int vi0)] [(.int vi0)])) (fun _ hr => XS.iloadN X0.here hx rfl (hb hby d6_17) rfl hr) ?_
  refine Rch.step (st' := T.setTop (mkF m 20 #[.val (.int vi0)] [(.int (97 : Int32)), (.int vi0)])) (fun _ hr => XS.bipush X0.here hx rfl (hb hby d6_18) hr) ?_
  by_cases hc1 : vi0 < (97 : Int32)
  · rw [if_pos hc1]
    refine Rch.step (st' := T.setTop (mkF m 37 #[.val (.int vi0)] [])) (fun _ hr => XS.icmpYes X0.here hx rfl (pc0 := 20) (pc' := 37) rfl (hb hby d6_20) rfl (tlt hc1).1 (by decide) (by decide) hr) ?_
    exact b6_37 ⟨X0, hx, hZ, hw, hby, hml, hown, hret, hlk, e0, Z0, N0⟩ vi0
  · rw [if_neg hc1]
    refine Rch.step (st' := T.setTop (mkF m 23 #[.val (.int vi0)] [])) (fun _ hr => XS.icmpNo X0.here hx rfl (hb hby d6_20) rfl (flt hc1).1 hr) ?_
    refine Rch.step (st' := T.setTop (mkF m 24 #[.val (.int vi0)] [(.int vi0)])) (fun _ hr => XS.iloadN X0.here hx rfl (hb hby d6_23) rfl hr) ?_
    refine Rch.step (st' := T.setTop (mkF m 26 #[.val (.int vi0)] [(.int (102 : Int32)), (.int vi0)])) (fun _ hr => XS.bipush X0.here hx rfl (hb hby d6_24) hr) ?_
    by_cases hc2 : (102 : Int32) < vi0
    · rw [if_pos hc2]
      refine Rch.step (st' := T.setTop (mkF m 37 #[.val (.int vi0)] [])) (fun _ hr => XS.icmpYes X0.here hx rfl (pc0 := 26) (pc' := 37) rfl (hb hby d6_26) rfl (tlt hc2).2.2.1 (by decide) (by decide) hr) ?_
      exact b6_37 ⟨X0, hx, hZ, hw, hby, hml, hown, hret, hlk, e0, Z0, N0⟩ vi0
    · rw [if_neg hc2]
      refine Rch.step (st' := T.setTop (mkF m 29 #[.val (.int vi0)] [])) (fun _ hr => XS.icmpNo X0.here hx rfl (hb hby d6_26) rfl (flt hc2).2.2.1 hr) ?_
      refine Rch.step (st' := T.setTop (mkF m 30 #[.val (.int vi0)] [(.int vi0)])) (fun _ hr => XS.iloadN X0.here hx rfl (hb hby d6_29) rfl hr) ?_
      refine Rch.step (st' := T.setTop (mkF m 32 #[.val (.int vi0)] [(.int (97 : Int32)), (.int vi0)])) (fun _ hr => XS.bipush X0.here hx rfl (hb hby d6_30) hr) ?_
      refine Rch.step (st' := T.setTop (mkF m 33 #[.val (.int vi0)] [(.int (vi0 - (97 : Int32)))])) (fun _ hr => XS.isub X0.here hx rfl (hb hby d6_32) rfl hr) ?_
      refine Rch.step (st' := T.setTop (mkF m 35 #[.val (.int vi0)] [(.int (10 : Int32)), (.int (vi0 - (97 : Int32)))])) (fun _ hr => XS.bipush X0.here hx rfl (hb hby d6_33) hr) ?_
      refine Rch.step (st' := T.setTop (mkF m 36 #[.val (.int vi0)] [(.int ((vi0 - (97 : Int32)) + (10 : Int32)))])) (fun _ hr => XS.iadd X0.here hx rfl (hb hby d6_35) rfl hr) ?_
      exact Rch.retI X0 hx hret hlk (hb hby d6_36) (by decide) (by decide) ⟨rfl, N0, e0⟩
set_option maxRecDepth 65536 in
set_option maxHeartbeats 40000000 in
theorem b6_0 {p : Program} {l : Launch} {e : Env} {s : State} {m : MethodId} {args : Array Value} {below : List Frame} {meth : Method} {c : Code} {T : State} {locs : List Loc} {Z : State} {a0 : Array Value} {h0 : Heap} {n0 : Nat} (cx : Cx ({ frames := 0, cells := 0, slots := 0, locals := 0 } : Room) prog_18_method_14_code 1 "com/example/kavsak/kavsak/HttpSyntax" (some .int) p l e s m args below meth c T locs 0 0 Z a0 h0 n0) (vi0 : Int32) :
    Rch p e below s 0 0 (T.setTop (mkF m 0 #[.val (.int vi0)] [])) (PI (f6_0 vi0) h0 n0) := by
  obtain ⟨X0, hx, hZ, hw, hby, hml, hown, hret, hlk, e0, Z0, N0⟩ := cx
  unfold f6_0
  refine Rch.step (st' := T.setTop (mkF m 1 #[.val (.int vi0)] [(.int vi0)])) (fun _ hr => XS.iloadN X0.here hx rfl (hb hby d6_0) rfl hr) ?_
  refine Rch.step (st' := T.setTop (mkF m 3 #[.val (.int vi0)] [(.int (48 : Int32)), (.int vi0)])) (fun _ hr => XS.bipush X0.here hx rfl (hb hby d6_1) hr) ?_
  by_cases hc1 : vi0 < (48 : Int32)
  · rw [if_pos hc1]
    refine Rch.step (st' := T.setTop (mkF m 17 #[.val (.int vi0)] [])) (fun _ hr => XS.icmpYes X0.here hx rfl (pc0 := 3) (pc' := 17) rfl (hb hby d6_3) rfl (tlt hc1).1 (by decide) (by decide) hr) ?_
    exact b6_17 ⟨X0, hx, hZ, hw, hby, hml, hown, hret, hlk, e0, Z0, N0⟩ vi0
  · rw [if_neg hc1]
    refine Rch.step (st' := T.setTop (mkF m 6 #[.val (.int vi0)] [])) (fun _ hr => XS.icmpNo X0.here hx rfl (hb hby d6_3) rfl (flt hc1).1 hr) ?_
    refine Rch.step (st' := T.setTop (mkF m 7 #[.val (.int vi0)] [(.int vi0)])) (fun _ hr => XS.iloadN X0.here hx rfl (hb hby d6_6) rfl hr) ?_
    refine Rch.step (st' := T.setTop (mkF m 9 #[.val (.int vi0)] [(.int (57 : Int32)), (.int vi0)])) (fun _ hr => XS.bipush X0.here hx rfl (hb hby d6_7) hr) ?_
    by_cases hc2 : (57 : Int32) < vi0
    · rw [if_pos hc2]
      refine Rch.step (st' := T.setTop (mkF m 17 #[.val (.int vi0)] [])) (fun _ hr => XS.icmpYes X0.here hx rfl (pc0 := 9) (pc' := 17) rfl (hb hby d6_9) rfl (tlt hc2).2.2.1 (by decide) (by decide) hr) ?_
      exact b6_17 ⟨X0, hx, hZ, hw, hby, hml, hown, hret, hlk, e0, Z0, N0⟩ vi0
    · rw [if_neg hc2]
      refine Rch.step (st' := T.setTop (mkF m 12 #[.val (.int vi0)] [])) (fun _ hr => XS.icmpNo X0.here hx rfl (hb hby d6_9) rfl (flt hc2).2.2.1 hr) ?_
      refine Rch.step (st' := T.setTop (mkF m 13 #[.val (.int vi0)] [(.int vi0)])) (fun _ hr => XS.iloadN X0.here hx rfl (hb hby d6_12) rfl hr) ?_
      refine Rch.step (st' := T.setTop (mkF m 15 #[.val (.int vi0)] [(.int (48 : Int32)), (.int vi0)])) (fun _ hr => XS.bipush X0.here hx rfl (hb hby d6_13) hr) ?_
      refine Rch.step (st' := T.setTop (mkF m 16 #[.val (.int vi0)] [(.int (vi0 - (48 : Int32)))])) (fun _ hr => XS.isub X0.here hx rfl (hb hby d6_15) rfl hr) ?_
      exact Rch.retI X0 hx hret hlk (hb hby d6_16) (by decide) (by decide) ⟨rfl, N0, e0⟩
theorem ef6 (m : MethodId) (x0 : Int32) : entryFrame m #[(.int x0)] 1 = mkF m 0 #[.val (.int x0)] [] := by first | (simp [entryFrame, mkF, argsToLocals, Value.category]; done) | rfl
set_option maxRecDepth 65536 in
set_option maxHeartbeats 40000000 in
theorem rm6 (l : Launch) (Z : State) (a0 : Array Value) (hw : ∀ d ∈ tables_1, d.before a0 Z = true) (ws : List Jvm.Cond) (x0 : Int32) (h0 : Heap) (n0 : Nat) (Z0 : n0 ≤ h0.size)  :
    MetFree l (⟨"com/example/kavsak/kavsak/HttpSyntax", "hexValue", "(C)I"⟩ : MethodName) (head1 (Jvm.Cond.code (⟨"com/example/kavsak/kavsak/HttpSyntax", "hexValue", "(C)I"⟩ : MethodName) prog_18_method_14_code 1 (some .int) :: ws) ({ frames := 0, cells := 0, slots := 0, locals := 0 } : Room)) (fun a U => a = #[(.int x0)] ∧ Z.Warmed39 U.vm ∧ U.heap = h0) (fun _ _ _ _ _ => True) (fun _ U o U' => ∃ v L, o = .returned v ∧ PI (f6_0 x0) h0 n0 v U'.heap L ∧ FrameEnd U o U' L ({ frames := 0, cells := 0, slots := 0, locals := 0 } : Room).cells ({ frames := 0, cells := 0, slots := 0, locals := 0 } : Room).slots) := by
  refine MetFree.of_bodySF (plainFor_of_name pn6) hisR ?_
  intro p e s m args below meth c s₁ Bd hml0 hP hK
  obtain ⟨rfl, hZ, hh⟩ := hP
  have hown : s.vm.findClass "com/example/kavsak/kavsak/HttpSyntax" = some m.cls := findClass_of_methodNamed Bd.named
  have e0 : s₁.heap = h0 := by rw [← hh, Bd.state]; rfl
  obtain ⟨s₂, v, L, h1, h2, h3, h4, h5⟩ := b6_0 (T := s₁) ⟨Stand.of_body Bd, Bd.exec, hZ, hw, Bd.bytes, hml0, hown, Bd.returns, BodyLoose.notSynchronized Bd, e0, Z0, Fr.nil n0⟩ x0
  exact ⟨s₂, .returned v, castTop (ef6 m x0) h1, h2, h3, v, L, rfl, h4, h5⟩
-- body 0
theorem pn0 : plainName "com/example/kavsak/kavsak/HttpSyntaxHexValuePinLaw" = true := by first | (simp [plainName, overriddenIn]; done) | decide +kernel
def f0_0 (vi0 : Int32) (vi1 : Int32) (w0 : Int32) : Int32 := (if (f6_0 (f1_0 (vi1 &&& (15 : Int32)) w0 (0 : Int32) (16 : Int32) [(48 : Int32), (49 : Int32), (50 : Int32), (51 : Int32), (52 : Int32), (53 : Int32), (54 : Int32), (55 : Int32), (56 : Int32), (57 : Int32), (97 : Int32), (98 : Int32), (99 : Int32), (100 : Int32), (101 : Int32), (102 : Int32)])) = (vi1 &&& (15 : Int32)) then (if (f6_0 (f1_0 (vi1 &&& (15 : Int32)) w0 (0 : Int32) (16 : Int32) [(48 : Int32), (49 : Int32), (50 : Int32), (51 : Int32), (52 : Int32), (53 : Int32), (54 : Int32), (55 : Int32), (56 : Int32), (57 : Int32), (65 : Int32), (66 : Int32), (67 : Int32), (68 : Int32), (69 : Int32), (70 : Int32)])) = (vi1 &&& (15 : Int32)) then (if (f6_0 (vi0.toUInt32.toUInt16.toUInt32.toInt32)) = (-1 : Int32) then (1 : Int32) else (if (f6_0 (vi0.toUInt32.toUInt16.toUInt32.toInt32)) < (0 : Int32) then (0 : Int32) else (if (15 : Int32) < (f6_0 (vi0.toUInt32.toUInt16.toUInt32.toInt32)) then (0 : Int32) else (if (vi0.toUInt32.toUInt16.toUInt32.toInt32) = (f1_0 (f6_0 (vi0.toUInt32.toUInt16.toUInt32.toInt32)) w0 (0 : Int32) (16 : Int32) [(48 : Int32), (49 : Int32), (50 : Int32), (51 : Int32), (52 : Int32), (53 : Int32), (54 : Int32), (55 : Int32), (56 : Int32), (57 : Int32), (97 : Int32), (98 : Int32), (99 : Int32), (100 : Int32), (101 : Int32), (102 : Int32)]) then (1 : Int32) else (if (vi0.toUInt32.toUInt16.toUInt32.toInt32) = (f1_0 (f6_0 (vi0.toUInt32.toUInt16.toUInt32.toInt32)) w0 (0 : Int32) (16 : Int32) [(48 : Int32), (49 : Int32), (50 : Int32), (51 : Int32), (52 : Int32), (53 : Int32), (54 : Int32), (55 : Int32), (56 : Int32), (57 : Int32), (65 : Int32), (66 : Int32), (67 : Int32), (68 : Int32), (69 : Int32), (70 : Int32)]) then (1 : Int32) else (0 : Int32)))))) else (0 : Int32)) else (0 : Int32))
set_option maxRecDepth 65536 in
set_option maxHeartbeats 40000000 in
theorem b0_0 {p : Program} {l : Launch} {e : Env} {s : State} {vm0 : Vm} {k0 : Nat} {m : MethodId} {args : Array Value} {below : List Frame} {meth : Method} {c : Code} {T : State} {locs : List Loc} {Z : State} {a0 : Array Value} {h0 : Heap} {n0 : Nat} (cx : CxW room_1 code 5 "com/example/kavsak/kavsak/HttpSyntaxHexValuePinLaw" (some .boolean) p l e s vm0 k0 m args below meth c T locs 0 0 Z a0 h0 n0) (vi0 : Int32) (vi1 : Int32) (w0 : Int32) (w1 : Value) (Hf0 : Sta Z h0 "java/lang/String" "COMPACT_STRINGS" "Z" (.int w0)) (Hf1 : Sta Z h0 "jdk/internal/util/Preconditions" "SIOOBE_FORMATTER" "Ljava/util/function/BiFunction;" w1) (hz : w0 ≠ 0) (rf : w1.isRef = true) (hEL : EW Z a0 consts_1) (hCH : CHv Z consts_1 vm0 h0) :
    RchW p e below s 8 2112 (T.setTop (mkF m 0 #[.val (.int vi0), .val (.int vi1), .unset, .unset, .unset] [])) (PL (f0_0 vi0 vi1 w0) n0) := by
  obtain ⟨⟨X0, hx, hZ, hw, hby, hml, hown, hret, hlk, e0, Z0, N0⟩, hS, hk⟩ := cx
  have hwS := own_wS hw
  unfold f0_0
  refine RchW.step (st' := T.setTop (mkF m 1 #[.val (.int vi0), .val (.int vi1), .unset, .unset, .unset] [(.int vi1)])) (fun _ hr => XS.iloadN X0.here hx rfl (hb hby at_0) rfl hr) ?_
  refine RchW.step (st' := T.setTop (mkF m 3 #[.val (.int vi0), .val (.int vi1), .unset, .unset, .unset] [(.int (15 : Int32)), (.int vi1)])) (fun _ hr => XS.bipush X0.here hx rfl (hb hby at_1) hr) ?_
  refine RchW.step (st' := T.setTop (mkF m 4 #[.val (.int vi0), .val (.int vi1), .unset, .unset, .unset] [(.int (vi1 &&& (15 : Int32)))])) (fun _ hr => XS.iand X0.here hx rfl (hb hby at_3) rfl hr) ?_
  refine RchW.step (st' := T.setTop (mkF m 5 #[.val (.int vi0), .val (.int vi1), .val (.int (vi1 &&& (15 : Int32))), .unset, .unset] [])) (fun _ hr => XS.istoreN X0.here hx rfl (hb hby at_4) rfl (l' := #[.val (.int vi0), .val (.int vi1), .val (.int (vi1 &&& (15 : Int32))), .unset, .unset]) rfl hr) ?_
  obtain ⟨b1, T1, h1, k1, c1, kc1, X1, e1, E1, hS, hk1, hZ, hown, A1, Fcoder_b1, Fvalue_b1, Va1, -, -, hCr1, -, -, st1⟩ := ldcCH X0 hx hZ hown (hw _ (List.mem_of_getElem? (i := 0) rfl)) hwS e0 hS hk hEL (List.mem_of_getElem? (i := 0) rfl) hCH (vs := ([(48 : Int32), (49 : Int32), (50 : Int32), (51 : Int32), (52 : Int32), (53 : Int32), (54 : Int32), (55 : Int32), (56 : Int32), (57 : Int32), (97 : Int32), (98 : Int32), (99 : Int32), (100 : Int32), (101 : Int32), (102 : Int32)] : List Int32).map Value.int) (z := (16 : Int32)) ⟨by decide, rfl⟩ (by decide) rfl (g := (mkF m 5 #[.val (.int vi0), .val (.int vi1), .val (.int (vi1 &&& (15 : Int32))), .unset, .unset] [])) rfl (hb hby at_5) (n := 64) (by decide) (by decide) (by decide) (by decide)
  have hCH := hCr1.1
  have SCOMPACT_STRINGS_st_1 : Sta Z h1 "java/lang/String" "COMPACT_STRINGS" "Z" (.int w0) := Hf0.ext E1
  have SSIOOBE_FORMATTER_st_1 : Sta Z h1 "jdk/internal/util/Preconditions" "SIOOBE_FORMATTER" "Ljava/util/function/BiFunction;" w1 := Hf1.ext E1
  have Z1 : n0 ≤ h1.size := Nat.le_trans Z0 E1.1
  have V_c1 : ArB Z h1 c1 (16 : Int32) [(48 : Int32), (49 : Int32), (50 : Int32), (51 : Int32), (52 : Int32), (53 : Int32), (54 : Int32), (55 : Int32), (56 : Int32), (57 : Int32), (97 : Int32), (98 : Int32), (99 : Int32), (100 : Int32), (101 : Int32), (102 : Int32)] := ⟨rfl, kc1, Va1⟩
  refine RchW.step (st' := T1.setTop (mkF m 7 #[.val (.int vi0), .val (.int vi1), .val (.int (vi1 &&& (15 : Int32))), .unset, .unset] [(.ref b1)])) (fun _ hr => st1 _ hr) ?_
  refine RchW.step (st' := T1.setTop (mkF m 8 #[.val (.int vi0), .val (.int vi1), .val (.int (vi1 &&& (15 : Int32))), .unset, .unset] [(.int (vi1 &&& (15 : Int32))), (.ref b1)])) (fun _ hr => XS.iloadN X1.here hx rfl (hb hby at_7) rfl hr) ?_
  obtain ⟨cq2, kq2, q2a, q2b, q2c⟩ := isOf hZ e1 A1
  obtain ⟨_, _, ⟨T2, L2, k2, n2⟩, -, X2, ⟨Lc2, hQ2, l2, y2, z2⟩, st2⟩ := X1.virtualBack hx (y := (⟨"java/lang/String", "charAt", "(I)C"⟩ : MethodName)) (z := (⟨"java/lang/String", "charAt", "(I)C"⟩ : MethodName)) hown (mvT hZ (hw _ (List.mem_of_getElem? (i := 8) rfl))) (mvT hZ (hw _ (List.mem_of_getElem? (i := 9) rfl))) (notFace_of_selects (args := #[]) (mvT hZ (hw _ (List.mem_of_getElem? (i := 11) rfl)))) (mvT hZ (hw _ (List.mem_of_getElem? (i := 11) rfl))) (mvT hZ (hw _ (List.mem_of_getElem? (i := 10) rfl))) (by decide) (backOf (W := 0) (rm1 l Z a0 hw [] b1 (vi1 &&& (15 : Int32)) (0 : Int32) w0 c1 (16 : Int32) [(48 : Int32), (49 : Int32), (50 : Int32), (51 : Int32), (52 : Int32), (53 : Int32), (54 : Int32), (55 : Int32), (56 : Int32), (57 : Int32), (97 : Int32), (98 : Int32), (99 : Int32), (100 : Int32), (101 : Int32), (102 : Int32)] w1 h1 n0 Z1 A1 Fcoder_b1 Fvalue_b1 V_c1 SCOMPACT_STRINGS_st_1 SSIOOBE_FORMATTER_st_1 hz rfl rf (own_d _).1 (own_d _).2) hZ (hw _ (List.mem_of_getElem? (i := 12) rfl)) (hw _ (List.mem_of_getElem? (i := 1) rfl)) (by decide) (by decide)) q2a q2c (g := (mkF m 8 #[.val (.int vi0), .val (.int vi1), .val (.int (vi1 &&& (15 : Int32))), .unset, .unset] [(.int (vi1 &&& (15 : Int32))), (.ref b1)])) rfl (by rw [hml]; rfl) (Steps.refl _) (argsL := [(.int (vi1 &&& (15 : Int32)))]) (rest := []) (lenOf pd1 rfl) rfl (by show 2 * 0 + _ ≤ _; exact Nat.le_of_eq rfl) (hb hby at_8) (fun _ _ => ⟨rfl, e1, (by decide : 2 + 0 ≤ _), (by decide : 68 + 0 ≤ _)⟩)
  dsimp only [Pt.U, Pt.locs, Pt.cells, Pt.slots] at X2 l2 y2 z2 st2 hQ2
  subst l2 y2 z2
  obtain ⟨rfl, N2q, e2⟩ := hQ2
  have N2 := Fr.app N0 N2q
  refine RchW.step (st' := T2.setTop (mkF m 11 #[.val (.int vi0), .val (.int vi1), .val (.int (vi1 &&& (15 : Int32))), .unset, .unset] [(.int (f1_0 (vi1 &&& (15 : Int32)) w0 (0 : Int32) (16 : Int32) [(48 : Int32), (49 : Int32), (50 : Int32), (51 : Int32), (52 : Int32), (53 : Int32), (54 : Int32), (55 : Int32), (56 : Int32), (57 : Int32), (97 : Int32), (98 : Int32), (99 : Int32), (100 : Int32), (101 : Int32), (102 : Int32)]))])) (fun _ hr => st2.trans hr) ?_
  obtain ⟨_, _, ⟨T3, L3, k3, n3⟩, -, X3, ⟨Lc3, hQ3, l3, y3, z3⟩, st3⟩ := Jvm.LawKit.callS X2 hx (y := (⟨"com/example/kavsak/kavsak/HttpSyntax", "hexValue", "(C)I"⟩ : MethodName)) hown (mvT hZ (hw _ (List.mem_of_getElem? (i := 33) rfl))) (mvT hZ (hw _ (List.mem_of_getElem? (i := 34) rfl))) (mvT hZ (hw _ (List.mem_of_getElem? (i := 35) rfl))) (mvT hZ (hw _ (List.mem_of_getElem? (i := 36) rfl))) (by decide) (backOf (W := 0) (rm6 l Z a0 hw [] (f1_0 (vi1 &&& (15 : Int32)) w0 (0 : Int32) (16 : Int32) [(48 : Int32), (49 : Int32), (50 : Int32), (51 : Int32), (52 : Int32), (53 : Int32), (54 : Int32), (55 : Int32), (56 : Int32), (57 : Int32), (97 : Int32), (98 : Int32), (99 : Int32), (100 : Int32), (101 : Int32), (102 : Int32)]) h1 n0 Z1) hZ (hw _ (List.mem_of_getElem? (i := 36) rfl)) (hw _ (List.mem_of_getElem? (i := 35) rfl)) (by decide) (by decide)) (g := (mkF m 11 #[.val (.int vi0), .val (.int vi1), .val (.int (vi1 &&& (15 : Int32))), .unset, .unset] [(.int (f1_0 (vi1 &&& (15 : Int32)) w0 (0 : Int32) (16 : Int32) [(48 : Int32), (49 : Int32), (50 : Int32), (51 : Int32), (52 : Int32), (53 : Int32), (54 : Int32), (55 : Int32), (56 : Int32), (57 : Int32), (97 : Int32), (98 : Int32), (99 : Int32), (100 : Int32), (101 : Int32), (102 : Int32)]))])) rfl (by rw [hml]; rfl) (argsL := [(.int (f1_0 (vi1 &&& (15 : Int32)) w0 (0 : Int32) (16 : Int32) [(48 : Int32), (49 : Int32), (50 : Int32), (51 : Int32), (52 : Int32), (53 : Int32), (54 : Int32), (55 : Int32), (56 : Int32), (57 : Int32), (97 : Int32), (98 : Int32), (99 : Int32), (100 : Int32), (101 : Int32), (102 : Int32)]))]) (rest := []) (lenOf pd6 rfl) rfl (by show 2 * 0 + _ ≤ _; exact Nat.le_of_eq rfl) (hb hby at_11) (fun _ _ => ⟨rfl, e2, (by decide : 2 + 0 ≤ _), (by decide : 68 + 0 ≤ _)⟩)
  dsimp only [Pt.U, Pt.locs, Pt.cells, Pt.slots] at X3 l3 y3 z3 st3 hQ3
  subst l3 y3 z3
  obtain ⟨rfl, N3q, e3⟩ := hQ3
  have N3 := Fr.app N2 N3q
  refine RchW.step (st' := T3.setTop (mkF m 14 #[.val (.int vi0), .val (.int vi1), .val (.int (vi1 &&& (15 : Int32))), .unset, .unset] [(.int (f6_0 (f1_0 (vi1 &&& (15 : Int32)) w0 (0 : Int32) (16 : Int32) [(48 : Int32), (49 : Int32), (50 : Int32), (51 : Int32), (52 : Int32), (53 : Int32), (54 : Int32), (55 : Int32), (56 : Int32), (57 : Int32), (97 : Int32), (98 : Int32), (99 : Int32), (100 : Int32), (101 : Int32), (102 : Int32)])))])) (fun _ hr => st3 _ hr) ?_
  refine RchW.step (st' := T3.setTop (mkF m 15 #[.val (.int vi0), .val (.int vi1), .val (.int (vi1 &&& (15 : Int32))), .unset, .unset] [(.int (vi1 &&& (15 : Int32))), (.int (f6_0 (f1_0 (vi1 &&& (15 : Int32)) w0 (0 : Int32) (16 : Int32) [(48 : Int32), (49 : Int32), (50 : Int32), (51 : Int32), (52 : Int32), (53 : Int32), (54 : Int32), (55 : Int32), (56 : Int32), (57 : Int32), (97 : Int32), (98 : Int32), (99 : Int32), (100 : Int32), (101 : Int32), (102 : Int32)])))])) (fun _ hr => XS.iloadN X3.here hx rfl (hb hby at_14) rfl hr) ?_
  by_cases hc4 : (f6_0 (f1_0 (vi1 &&& (15 : Int32)) w0 (0 : Int32) (16 : Int32) [(48 : Int32), (49 : Int32), (50 : Int32), (51 : Int32), (52 : Int32), (53 : Int32), (54 : Int32), (55 : Int32), (56 : Int32), (57 : Int32), (97 : Int32), (98 : Int32), (99 : Int32), (100 : Int32), (101 : Int32), (102 : Int32)])) = (vi1 &&& (15 : Int32))
  · rw [if_pos hc4]
    refine RchW.step (st' := T3.setTop (mkF m 20 #[.val (.int vi0), .val (.int vi1), .val (.int (vi1 &&& (15 : Int32))), .unset, .unset] [])) (fun _ hr => XS.icmpYes X3.here hx rfl (pc0 := 15) (pc' := 20) rfl (hb hby at_15) rfl (teq hc4).1 (by decide) (by decide) hr) ?_
    obtain ⟨b5, T5, h5, k5, c5, kc5, X5, e5, E5, hS, hk5, hZ, hown, A5, Fcoder_b5, Fvalue_b5, Va5, -, -, hCr5, -, -, st5⟩ := ldcCH X3 hx hZ hown (hw _ (List.mem_of_getElem? (i := 37) rfl)) hwS e3 hS hk1 hEL (List.mem_of_getElem? (i := 1) rfl) hCH (vs := ([(48 : Int32), (49 : Int32), (50 : Int32), (51 : Int32), (52 : Int32), (53 : Int32), (54 : Int32), (55 : Int32), (56 : Int32), (57 : Int32), (65 : Int32), (66 : Int32), (67 : Int32), (68 : Int32), (69 : Int32), (70 : Int32)] : List Int32).map Value.int) (z := (16 : Int32)) ⟨by decide, rfl⟩ (by decide) rfl (g := (mkF m 20 #[.val (.int vi0), .val (.int vi1), .val (.int (vi1 &&& (15 : Int32))), .unset, .unset] [])) rfl (hb hby at_20) (n := 64) (by decide) (by decide) (by decide) (by decide)
    have hCH := hCr5.1
    have SCOMPACT_STRINGS_st_5 : Sta Z h5 "java/lang/String" "COMPACT_STRINGS" "Z" (.int w0) := SCOMPACT_STRINGS_st_1.ext E5
    have SSIOOBE_FORMATTER_st_5 : Sta Z h5 "jdk/internal/util/Preconditions" "SIOOBE_FORMATTER" "Ljava/util/function/BiFunction;" w1 := SSIOOBE_FORMATTER_st_1.ext E5
    have E_b1_5 : Exa Z h5 b1 "java/lang/String" := A1.ext E5
    have Fcoder_b1_5 : Fld Z h5 b1 "java/lang/String" "coder" "B" (.int (0 : Int32)) := Fcoder_b1.ext E5
    have Fvalue_b1_5 : Fld Z h5 b1 "java/lang/String" "value" "[B" (.ref c1) := Fvalue_b1.ext E5
    have V_c1_5 : ArB Z h5 c1 (16 : Int32) [(48 : Int32), (49 : Int32), (50 : Int32), (51 : Int32), (52 : Int32), (53 : Int32), (54 : Int32), (55 : Int32), (56 : Int32), (57 : Int32), (97 : Int32), (98 : Int32), (99 : Int32), (100 : Int32), (101 : Int32), (102 : Int32)] := V_c1.ext E5
    have Z5 : n0 ≤ h5.size := Nat.le_trans Z1 E5.1
    have V_c5 : ArB Z h5 c5 (16 : Int32) [(48 : Int32), (49 : Int32), (50 : Int32), (51 : Int32), (52 : Int32), (53 : Int32), (54 : Int32), (55 : Int32), (56 : Int32), (57 : Int32), (65 : Int32), (66 : Int32), (67 : Int32), (68 : Int32), (69 : Int32), (70 : Int32)] := ⟨rfl, kc5, Va5⟩
    refine RchW.step (st' := T5.setTop (mkF m 22 #[.val (.int vi0), .val (.int vi1), .val (.int (vi1 &&& (15 : Int32))), .unset, .unset] [(.ref b5)])) (fun _ hr => st5 _ hr) ?_
    refine RchW.step (st' := T5.setTop (mkF m 23 #[.val (.int vi0), .val (.int vi1), .val (.int (vi1 &&& (15 : Int32))), .unset, .unset] [(.int (vi1 &&& (15 : Int32))), (.ref b5)])) (fun _ hr => XS.iloadN X5.here hx rfl (hb hby at_22) rfl hr) ?_
    obtain ⟨cq6, kq6, q6a, q6b, q6c⟩ := isOf hZ e5 A5
    obtain ⟨_, _, ⟨T6, L6, k6, n6⟩, -, X6, ⟨Lc6, hQ6, l6, y6, z6⟩, st6⟩ := X5.virtualBack hx (y := (⟨"java/lang/String", "charAt", "(I)C"⟩ : MethodName)) (z := (⟨"java/lang/String", "charAt", "(I)C"⟩ : MethodName)) hown (mvT hZ (hw _ (List.mem_of_getElem? (i := 8) rfl))) (mvT hZ (hw _ (List.mem_of_getElem? (i := 9) rfl))) (notFace_of_selects (args := #[]) (mvT hZ (hw _ (List.mem_of_getElem? (i := 11) rfl)))) (mvT hZ (hw _ (List.mem_of_getElem? (i := 11) rfl))) (mvT hZ (hw _ (List.mem_of_getElem? (i := 10) rfl))) (by decide) (backOf (W := 0) (rm1 l Z a0 hw [] b5 (vi1 &&& (15 : Int32)) (0 : Int32) w0 c5 (16 : Int32) [(48 : Int32), (49 : Int32), (50 : Int32), (51 : Int32), (52 : Int32), (53 : Int32), (54 : Int32), (55 : Int32), (56 : Int32), (57 : Int32), (65 : Int32), (66 : Int32), (67 : Int32), (68 : Int32), (69 : Int32), (70 : Int32)] w1 h5 n0 Z5 A5 Fcoder_b5 Fvalue_b5 V_c5 SCOMPACT_STRINGS_st_5 SSIOOBE_FORMATTER_st_5 hz rfl rf (own_d _).1 (own_d _).2) hZ (hw _ (List.mem_of_getElem? (i := 12) rfl)) (hw _ (List.mem_of_getElem? (i := 1) rfl)) (by decide) (by decide)) q6a q6c (g := (mkF m 23 #[.val (.int vi0), .val (.int vi1), .val (.int (vi1 &&& (15 : Int32))), .unset, .unset] [(.int (vi1 &&& (15 : Int32))), (.ref b5)])) rfl (by rw [hml]; rfl) (Steps.refl _) (argsL := [(.int (vi1 &&& (15 : Int32)))]) (rest := []) (lenOf pd1 rfl) rfl (by show 2 * 0 + _ ≤ _; exact Nat.le_of_eq rfl) (hb hby at_23) (fun _ _ => ⟨rfl, e5, (by decide : 4 + 0 ≤ _), (by decide : 136 + 0 ≤ _)⟩)
    dsimp only [Pt.U, Pt.locs, Pt.cells, Pt.slots] at X6 l6 y6 z6 st6 hQ6
    subst l6 y6 z6
    obtain ⟨rfl, N6q, e6⟩ := hQ6
    have N6 := Fr.app N3 N6q
    refine RchW.step (st' := T6.setTop (mkF m 26 #[.val (.int vi0), .val (.int vi1), .val (.int (vi1 &&& (15 : Int32))), .unset, .unset] [(.int (f1_0 (vi1 &&& (15 : Int32)) w0 (0 : Int32) (16 : Int32) [(48 : Int32), (49 : Int32), (50 : Int32), (51 : Int32), (52 : Int32), (53 : Int32), (54 : Int32), (55 : Int32), (56 : Int32), (57 : Int32), (65 : Int32), (66 : Int32), (67 : Int32), (68 : Int32), (69 : Int32), (70 : Int32)]))])) (fun _ hr => st6.trans hr) ?_
    obtain ⟨_, _, ⟨T7, L7, k7, n7⟩, -, X7, ⟨Lc7, hQ7, l7, y7, z7⟩, st7⟩ := Jvm.LawKit.callS X6 hx (y := (⟨"com/example/kavsak/kavsak/HttpSyntax", "hexValue", "(C)I"⟩ : MethodName)) hown (mvT hZ (hw _ (List.mem_of_getElem? (i := 33) rfl))) (mvT hZ (hw _ (List.mem_of_getElem? (i := 34) rfl))) (mvT hZ (hw _ (List.mem_of_getElem? (i := 35) rfl))) (mvT hZ (hw _ (List.mem_of_getElem? (i := 36) rfl))) (by decide) (backOf (W := 0) (rm6 l Z a0 hw [] (f1_0 (vi1 &&& (15 : Int32)) w0 (0 : Int32) (16 : Int32) [(48 : Int32), (49 : Int32), (50 : Int32), (51 : Int32), (52 : Int32), (53 : Int32), (54 : Int32), (55 : Int32), (56 : Int32), (57 : Int32), (65 : Int32), (66 : Int32), (67 : Int32), (68 : Int32), (69 : Int32), (70 : Int32)]) h5 n0 Z5) hZ (hw _ (List.mem_of_getElem? (i := 36) rfl)) (hw _ (List.mem_of_getElem? (i := 35) rfl)) (by decide) (by decide)) (g := (mkF m 26 #[.val (.int vi0), .val (.int vi1), .val (.int (vi1 &&& (15 : Int32))), .unset, .unset] [(.int (f1_0 (vi1 &&& (15 : Int32)) w0 (0 : Int32) (16 : Int32) [(48 : Int32), (49 : Int32), (50 : Int32), (51 : Int32), (52 : Int32), (53 : Int32), (54 : Int32), (55 : Int32), (56 : Int32), (57 : Int32), (65 : Int32), (66 : Int32), (67 : Int32), (68 : Int32), (69 : Int32), (70 : Int32)]))])) rfl (by rw [hml]; rfl) (argsL := [(.int (f1_0 (vi1 &&& (15 : Int32)) w0 (0 : Int32) (16 : Int32) [(48 : Int32), (49 : Int32), (50 : Int32), (51 : Int32), (52 : Int32), (53 : Int32), (54 : Int32), (55 : Int32), (56 : Int32), (57 : Int32), (65 : Int32), (66 : Int32), (67 : Int32), (68 : Int32), (69 : Int32), (70 : Int32)]))]) (rest := []) (lenOf pd6 rfl) rfl (by show 2 * 0 + _ ≤ _; exact Nat.le_of_eq rfl) (hb hby at_26) (fun _ _ => ⟨rfl, e6, (by decide : 4 + 0 ≤ _), (by decide : 136 + 0 ≤ _)⟩)
    dsimp only [Pt.U, Pt.locs, Pt.cells, Pt.slots] at X7 l7 y7 z7 st7 hQ7
    subst l7 y7 z7
    obtain ⟨rfl, N7q, e7⟩ := hQ7
    have N7 := Fr.app N6 N7q
    refine RchW.step (st' := T7.setTop (mkF m 29 #[.val (.int vi0), .val (.int vi1), .val (.int (vi1 &&& (15 : Int32))), .unset, .unset] [(.int (f6_0 (f1_0 (vi1 &&& (15 : Int32)) w0 (0 : Int32) (16 : Int32) [(48 : Int32), (49 : Int32), (50 : Int32), (51 : Int32), (52 : Int32), (53 : Int32), (54 : Int32), (55 : Int32), (56 : Int32), (57 : Int32), (65 : Int32), (66 : Int32), (67 : Int32), (68 : Int32), (69 : Int32), (70 : Int32)])))])) (fun _ hr => st7 _ hr) ?_
    refine RchW.step (st' := T7.setTop (mkF m 30 #[.val (.int vi0), .val (.int vi1), .val (.int (vi1 &&& (15 : Int32))), .unset, .unset] [(.int (vi1 &&& (15 : Int32))), (.int (f6_0 (f1_0 (vi1 &&& (15 : Int32)) w0 (0 : Int32) (16 : Int32) [(48 : Int32), (49 : Int32), (50 : Int32), (51 : Int32), (52 : Int32), (53 : Int32), (54 : Int32), (55 : Int32), (56 : Int32), (57 : Int32), (65 : Int32), (66 : Int32), (67 : Int32), (68 : Int32), (69 : Int32), (70 : Int32)])))])) (fun _ hr => XS.iloadN X7.here hx rfl (hb hby at_29) rfl hr) ?_
    by_cases hc8 : (f6_0 (f1_0 (vi1 &&& (15 : Int32)) w0 (0 : Int32) (16 : Int32) [(48 : Int32), (49 : Int32), (50 : Int32), (51 : Int32), (52 : Int32), (53 : Int32), (54 : Int32), (55 : Int32), (56 : Int32), (57 : Int32), (65 : Int32), (66 : Int32), (67 : Int32), (68 : Int32), (69 : Int32), (70 : Int32)])) = (vi1 &&& (15 : Int32))
    · rw [if_pos hc8]
      refine RchW.step (st' := T7.setTop (mkF m 35 #[.val (.int vi0), .val (.int vi1), .val (.int (vi1 &&& (15 : Int32))), .unset, .unset] [])) (fun _ hr => XS.icmpYes X7.here hx rfl (pc0 := 30) (pc' := 35) rfl (hb hby at_30) rfl (teq hc8).1 (by decide) (by decide) hr) ?_
      refine RchW.step (st' := T7.setTop (mkF m 36 #[.val (.int vi0), .val (.int vi1), .val (.int (vi1 &&& (15 : Int32))), .unset, .unset] [(.int vi0)])) (fun _ hr => XS.iloadN X7.here hx rfl (hb hby at_35) rfl hr) ?_
      refine RchW.step (st' := T7.setTop (mkF m 37 #[.val (.int vi0), .val (.int vi1), .val (.int (vi1 &&& (15 : Int32))), .unset, .unset] [(.int (vi0.toUInt32.toUInt16.toUInt32.toInt32))])) (fun _ hr => XS.i2c X7.here hx rfl (hb hby at_36) rfl hr) ?_
      refine RchW.step (st' := T7.setTop (mkF m 38 #[.val (.int vi0), .val (.int vi1), .val (.int (vi1 &&& (15 : Int32))), .val (.int (vi0.toUInt32.toUInt16.toUInt32.toInt32)), .unset] [])) (fun _ hr => XS.istoreN X7.here hx rfl (hb hby at_37) rfl (l' := #[.val (.int vi0), .val (.int vi1), .val (.int (vi1 &&& (15 : Int32))), .val (.int (vi0.toUInt32.toUInt16.toUInt32.toInt32)), .unset]) rfl hr) ?_
      refine RchW.step (st' := T7.setTop (mkF m 39 #[.val (.int vi0), .val (.int vi1), .val (.int (vi1 &&& (15 : Int32))), .val (.int (vi0.toUInt32.toUInt16.toUInt32.toInt32)), .unset] [(.int (vi0.toUInt32.toUInt16.toUInt32.toInt32))])) (fun _ hr => XS.iloadN X7.here hx rfl (hb hby at_38) rfl hr) ?_
      obtain ⟨_, _, ⟨T9, L9, k9, n9⟩, -, X9, ⟨Lc9, hQ9, l9, y9, z9⟩, st9⟩ := Jvm.LawKit.callS X7 hx (y := (⟨"com/example/kavsak/kavsak/HttpSyntax", "hexValue", "(C)I"⟩ : MethodName)) hown (mvT hZ (hw _ (List.mem_of_getElem? (i := 33) rfl))) (mvT hZ (hw _ (List.mem_of_getElem? (i := 34) rfl))) (mvT hZ (hw _ (List.mem_of_getElem? (i := 35) rfl))) (mvT hZ (hw _ (List.mem_of_getElem? (i := 36) rfl))) (by decide) (backOf (W := 0) (rm6 l Z a0 hw [] (vi0.toUInt32.toUInt16.toUInt32.toInt32) h5 n0 Z5) hZ (hw _ (List.mem_of_getElem? (i := 36) rfl)) (hw _ (List.mem_of_getElem? (i := 35) rfl)) (by decide) (by decide)) (g := (mkF m 39 #[.val (.int vi0), .val (.int vi1), .val (.int (vi1 &&& (15 : Int32))), .val (.int (vi0.toUInt32.toUInt16.toUInt32.toInt32)), .unset] [(.int (vi0.toUInt32.toUInt16.toUInt32.toInt32))])) rfl (by rw [hml]; rfl) (argsL := [(.int (vi0.toUInt32.toUInt16.toUInt32.toInt32))]) (rest := []) (lenOf pd6 rfl) rfl (by show 2 * 0 + _ ≤ _; exact Nat.le_of_eq rfl) (hb hby at_39) (fun _ _ => ⟨rfl, e7, (by decide : 4 + 0 ≤ _), (by decide : 136 + 0 ≤ _)⟩)
      dsimp only [Pt.U, Pt.locs, Pt.cells, Pt.slots] at X9 l9 y9 z9 st9 hQ9
      subst l9 y9 z9
      obtain ⟨rfl, N9q, e9⟩ := hQ9
      have N9 := Fr.app N7 N9q
      refine RchW.step (st' := T9.setTop (mkF m 42 #[.val (.int vi0), .val (.int vi1), .val (.int (vi1 &&& (15 : Int32))), .val (.int (vi0.toUInt32.toUInt16.toUInt32.toInt32)), .unset] [(.int (f6_0 (vi0.toUInt32.toUInt16.toUInt32.toInt32)))])) (fun _ hr => st9 _ hr) ?_
      refine RchW.step (st' := T9.setTop (mkF m 44 #[.val (.int vi0), .val (.int vi1), .val (.int (vi1 &&& (15 : Int32))), .val (.int (vi0.toUInt32.toUInt16.toUInt32.toInt32)), .val (.int (f6_0 (vi0.toUInt32.toUInt16.toUInt32.toInt32)))] [])) (fun _ hr => XS.istore X9.here hx rfl (hb hby at_42) rfl (l' := #[.val (.int vi0), .val (.int vi1), .val (.int (vi1 &&& (15 : Int32))), .val (.int (vi0.toUInt32.toUInt16.toUInt32.toInt32)), .val (.int (f6_0 (vi0.toUInt32.toUInt16.toUInt32.toInt32)))]) rfl hr) ?_
      refine RchW.step (st' := T9.setTop (mkF m 46 #[.val (.int vi0), .val (.int vi1), .val (.int (vi1 &&& (15 : Int32))), .val (.int (vi0.toUInt32.toUInt16.toUInt32.toInt32)), .val (.int (f6_0 (vi0.toUInt32.toUInt16.toUInt32.toInt32)))] [(.int (f6_0 (vi0.toUInt32.toUInt16.toUInt32.toInt32)))])) (fun _ hr => XS.iload X9.here hx rfl (hb hby at_44) rfl hr) ?_
      refine RchW.step (st' := T9.setTop (mkF m 47 #[.val (.int vi0), .val (.int vi1), .val (.int (vi1 &&& (15 : Int32))), .val (.int (vi0.toUInt32.toUInt16.toUInt32.toInt32)), .val (.int (f6_0 (vi0.toUInt32.toUInt16.toUInt32.toInt32)))] [(.int (-1 : Int32)), (.int (f6_0 (vi0.toUInt32.toUInt16.toUInt32.toInt32)))])) (fun _ hr => XS.iconst X9.here hx rfl (hb hby at_46) hr) ?_
      by_cases hc10 : (f6_0 (vi0.toUInt32.toUInt16.toUInt32.toInt32)) = (-1 : Int32)
      · rw [if_pos hc10]
        refine RchW.step (st' := T9.setTop (mkF m 50 #[.val (.int vi0), .val (.int vi1), .val (.int (vi1 &&& (15 : Int32))), .val (.int (vi0.toUInt32.toUInt16.toUInt32.toInt32)), .val (.int (f6_0 (vi0.toUInt32.toUInt16.toUInt32.toInt32)))] [])) (fun _ hr => XS.icmpNo X9.here hx rfl (hb hby at_47) rfl (teq hc10).2 hr) ?_
        refine RchW.step (st' := T9.setTop (mkF m 51 #[.val (.int vi0), .val (.int vi1), .val (.int (vi1 &&& (15 : Int32))), .val (.int (vi0.toUInt32.toUInt16.toUInt32.toInt32)), .val (.int (f6_0 (vi0.toUInt32.toUInt16.toUInt32.toInt32)))] [(.int (1 : Int32))])) (fun _ hr => XS.iconst X9.here hx rfl (hb hby at_50) hr) ?_
        exact RchW.retN X9 hS e9 hk5 hx (t := .boolean) hret hlk (by simp) (hb hby at_51) (by decide) (by decide) ⟨rfl, N9⟩
      · rw [if_neg hc10]
        refine RchW.step (st' := T9.setTop (mkF m 52 #[.val (.int vi0), .val (.int vi1), .val (.int (vi1 &&& (15 : Int32))), .val (.int (vi0.toUInt32.toUInt16.toUInt32.toInt32)), .val (.int (f6_0 (vi0.toUInt32.toUInt16.toUInt32.toInt32)))] [])) (fun _ hr => XS.icmpYes X9.here hx rfl (pc0 := 47) (pc' := 52) rfl (hb hby at_47) rfl (feq hc10).2 (by decide) (by decide) hr) ?_
        refine RchW.step (st' := T9.setTop (mkF m 54 #[.val (.int vi0), .val (.int vi1), .val (.int (vi1 &&& (15 : Int32))), .val (.int (vi0.toUInt32.toUInt16.toUInt32.toInt32)), .val (.int (f6_0 (vi0.toUInt32.toUInt16.toUInt32.toInt32)))] [(.int (f6_0 (vi0.toUInt32.toUInt16.toUInt32.toInt32)))])) (fun _ hr => XS.iload X9.here hx rfl (hb hby at_52) rfl hr) ?_
        by_cases hc11 : (f6_0 (vi0.toUInt32.toUInt16.toUInt32.toInt32)) < (0 : Int32)
        · rw [if_pos hc11]
          refine RchW.step (st' := T9.setTop (mkF m 64 #[.val (.int vi0), .val (.int vi1), .val (.int (vi1 &&& (15 : Int32))), .val (.int (vi0.toUInt32.toUInt16.toUInt32.toInt32)), .val (.int (f6_0 (vi0.toUInt32.toUInt16.toUInt32.toInt32)))] [])) (fun _ hr => XS.ifYes X9.here hx rfl (pc0 := 54) (pc' := 64) rfl (hb hby at_54) rfl ((if0 _ _).trans (tlt hc11).1) (by decide) (by decide) hr) ?_
          refine RchW.step (st' := T9.setTop (mkF m 65 #[.val (.int vi0), .val (.int vi1), .val (.int (vi1 &&& (15 : Int32))), .val (.int (vi0.toUInt32.toUInt16.toUInt32.toInt32)), .val (.int (f6_0 (vi0.toUInt32.toUInt16.toUInt32.toInt32)))] [(.int (0 : Int32))])) (fun _ hr => XS.iconst X9.here hx rfl (hb hby at_64) hr) ?_
          exact RchW.retN X9 hS e9 hk5 hx (t := .boolean) hret hlk (by simp) (hb hby at_65) (by decide) (by decide) ⟨rfl, N9⟩
        · rw [if_neg hc11]
          refine RchW.step (st' := T9.setTop (mkF m 57 #[.val (.int vi0), .val (.int vi1), .val (.int (vi1 &&& (15 : Int32))), .val (.int (vi0.toUInt32.toUInt16.toUInt32.toInt32)), .val (.int (f6_0 (vi0.toUInt32.toUInt16.toUInt32.toInt32)))] [])) (fun _ hr => XS.ifNo X9.here hx rfl (hb hby at_54) rfl ((if0 _ _).trans (flt hc11).1) hr) ?_
          refine RchW.step (st' := T9.setTop (mkF m 59 #[.val (.int vi0), .val (.int vi1), .val (.int (vi1 &&& (15 : Int32))), .val (.int (vi0.toUInt32.toUInt16.toUInt32.toInt32)), .val (.int (f6_0 (vi0.toUInt32.toUInt16.toUInt32.toInt32)))] [(.int (f6_0 (vi0.toUInt32.toUInt16.toUInt32.toInt32)))])) (fun _ hr => XS.iload X9.here hx rfl (hb hby at_57) rfl hr) ?_
          refine RchW.step (st' := T9.setTop (mkF m 61 #[.val (.int vi0), .val (.int vi1), .val (.int (vi1 &&& (15 : Int32))), .val (.int (vi0.toUInt32.toUInt16.toUInt32.toInt32)), .val (.int (f6_0 (vi0.toUInt32.toUInt16.toUInt32.toInt32)))] [(.int (15 : Int32)), (.int (f6_0 (vi0.toUInt32.toUInt16.toUInt32.toInt32)))])) (fun _ hr => XS.bipush X9.here hx rfl (hb hby at_59) hr) ?_
          by_cases hc12 : (15 : Int32) < (f6_0 (vi0.toUInt32.toUInt16.toUInt32.toInt32))
          · rw [if_pos hc12]
            refine RchW.step (st' := T9.setTop (mkF m 64 #[.val (.int vi0), .val (.int vi1), .val (.int (vi1 &&& (15 : Int32))), .val (.int (vi0.toUInt32.toUInt16.toUInt32.toInt32)), .val (.int (f6_0 (vi0.toUInt32.toUInt16.toUInt32.toInt32)))] [])) (fun _ hr => XS.icmpNo X9.here hx rfl (hb hby at_61) rfl (tlt hc12).2.2.2 hr) ?_
            refine RchW.step (st' := T9.setTop (mkF m 65 #[.val (.int vi0), .val (.int vi1), .val (.int (vi1 &&& (15 : Int32))), .val (.int (vi0.toUInt32.toUInt16.toUInt32.toInt32)), .val (.int (f6_0 (vi0.toUInt32.toUInt16.toUInt32.toInt32)))] [(.int (0 : Int32))])) (fun _ hr => XS.iconst X9.here hx rfl (hb hby at_64) hr) ?_
            exact RchW.retN X9 hS e9 hk5 hx (t := .boolean) hret hlk (by simp) (hb hby at_65) (by decide) (by decide) ⟨rfl, N9⟩
          · rw [if_neg hc12]
            refine RchW.step (st' := T9.setTop (mkF m 66 #[.val (.int vi0), .val (.int vi1), .val (.int (vi1 &&& (15 : Int32))), .val (.int (vi0.toUInt32.toUInt16.toUInt32.toInt32)), .val (.int (f6_0 (vi0.toUInt32.toUInt16.toUInt32.toInt32)))] [])) (fun _ hr => XS.icmpYes X9.here hx rfl (pc0 := 61) (pc' := 66) rfl (hb hby at_61) rfl (flt hc12).2.2.2 (by decide) (by decide) hr) ?_
            refine RchW.step (st' := T9.setTop (mkF m 67 #[.val (.int vi0), .val (.int vi1), .val (.int (vi1 &&& (15 : Int32))), .val (.int (vi0.toUInt32.toUInt16.toUInt32.toInt32)), .val (.int (f6_0 (vi0.toUInt32.toUInt16.toUInt32.toInt32)))] [(.int (vi0.toUInt32.toUInt16.toUInt32.toInt32))])) (fun _ hr => XS.iloadN X9.here hx rfl (hb hby at_66) rfl hr) ?_
            obtain ⟨b13, T13, h13, k13, c13, kc13, X13, e13, E13, hS, hk13, hZ, hown, A13, Fcoder_b13, Fvalue_b13, Va13, -, -, hCr13, -, -, st13⟩ := ldcCH X9 hx hZ hown (hw _ (List.mem_of_getElem? (i := 0) rfl)) hwS e9 hS hk5 hEL (List.mem_of_getElem? (i := 0) rfl) hCH (vs := ([(48 : Int32), (49 : Int32), (50 : Int32), (51 : Int32), (52 : Int32), (53 : Int32), (54 : Int32), (55 : Int32), (56 : Int32), (57 : Int32), (97 : Int32), (98 : Int32), (99 : Int32), (100 : Int32), (101 : Int32), (102 : Int32)] : List Int32).map Value.int) (z := (16 : Int32)) ⟨by decide, rfl⟩ (by decide) rfl (g := (mkF m 67 #[.val (.int vi0), .val (.int vi1), .val (.int (vi1 &&& (15 : Int32))), .val (.int (vi0.toUInt32.toUInt16.toUInt32.toInt32)), .val (.int (f6_0 (vi0.toUInt32.toUInt16.toUInt32.toInt32)))] [(.int (vi0.toUInt32.toUInt16.toUInt32.toInt32))])) rfl (hb hby at_67) (n := 64) (by decide) (by decide) (by decide) (by decide)
            have hCH := hCr13.1
            have SCOMPACT_STRINGS_st_13 : Sta Z h13 "java/lang/String" "COMPACT_STRINGS" "Z" (.int w0) := SCOMPACT_STRINGS_st_5.ext E13
            have SSIOOBE_FORMATTER_st_13 : Sta Z h13 "jdk/internal/util/Preconditions" "SIOOBE_FORMATTER" "Ljava/util/function/BiFunction;" w1 := SSIOOBE_FORMATTER_st_5.ext E13
            have E_b1_13 : Exa Z h13 b1 "java/lang/String" := E_b1_5.ext E13
            have Fcoder_b1_13 : Fld Z h13 b1 "java/lang/String" "coder" "B" (.int (0 : Int32)) := Fcoder_b1_5.ext E13
            have Fvalue_b1_13 : Fld Z h13 b1 "java/lang/String" "value" "[B" (.ref c1) := Fvalue_b1_5.ext E13
            have V_c1_13 : ArB Z h13 c1 (16 : Int32) [(48 : Int32), (49 : Int32), (50 : Int32), (51 : Int32), (52 : Int32), (53 : Int32), (54 : Int32), (55 : Int32), (56 : Int32), (57 : Int32), (97 : Int32), (98 : Int32), (99 : Int32), (100 : Int32), (101 : Int32), (102 : Int32)] := V_c1_5.ext E13
            have E_b5_13 : Exa Z h13 b5 "java/lang/String" := A5.ext E13
            have Fcoder_b5_13 : Fld Z h13 b5 "java/lang/String" "coder" "B" (.int (0 : Int32)) := Fcoder_b5.ext E13
            have Fvalue_b5_13 : Fld Z h13 b5 "java/lang/String" "value" "[B" (.ref c5) := Fvalue_b5.ext E13
            have V_c5_13 : ArB Z h13 c5 (16 : Int32) [(48 : Int32), (49 : Int32), (50 : Int32), (51 : Int32), (52 : Int32), (53 : Int32), (54 : Int32), (55 : Int32), (56 : Int32), (57 : Int32), (65 : Int32), (66 : Int32), (67 : Int32), (68 : Int32), (69 : Int32), (70 : Int32)] := V_c5.ext E13
            have Z13 : n0 ≤ h13.size := Nat.le_trans Z5 E13.1
            have V_c13 : ArB Z h13 c13 (16 : Int32) [(48 : Int32), (49 : Int32), (50 : Int32), (51 : Int32), (52 : Int32), (53 : Int32), (54 : Int32), (55 : Int32), (56 : Int32), (57 : Int32), (97 : Int32), (98 : Int32), (99 : Int32), (100 : Int32), (101 : Int32), (102 : Int32)] := ⟨rfl, kc13, Va13⟩
            refine RchW.step (st' := T13.setTop (mkF m 69 #[.val (.int vi0), .val (.int vi1), .val (.int (vi1 &&& (15 : Int32))), .val (.int (vi0.toUInt32.toUInt16.toUInt32.toInt32)), .val (.int (f6_0 (vi0.toUInt32.toUInt16.toUInt32.toInt32)))] [(.ref b13), (.int (vi0.toUInt32.toUInt16.toUInt32.toInt32))])) (fun _ hr => st13 _ hr) ?_
            refine RchW.step (st' := T13.setTop (mkF m 71 #[.val (.int vi0), .val (.int vi1), .val (.int (vi1 &&& (15 : Int32))), .val (.int (vi0.toUInt32.toUInt16.toUInt32.toInt32)), .val (.int (f6_0 (vi0.toUInt32.toUInt16.toUInt32.toInt32)))] [(.int (f6_0 (vi0.toUInt32.toUInt16.toUInt32.toInt32))), (.ref b13), (.int (vi0.toUInt32.toUInt16.toUInt32.toInt32))])) (fun _ hr => XS.iload X13.here hx rfl (hb hby at_69) rfl hr) ?_
            obtain ⟨cq14, kq14, q14a, q14b, q14c⟩ := isOf hZ e13 A13
            obtain ⟨_, _, ⟨T14, L14, k14, n14⟩, -, X14, ⟨Lc14, hQ14, l14, y14, z14⟩, st14⟩ := X13.virtualBack hx (y := (⟨"java/lang/String", "charAt", "(I)C"⟩ : MethodName)) (z := (⟨"java/lang/String", "charAt", "(I)C"⟩ : MethodName)) hown (mvT hZ (hw _ (List.mem_of_getElem? (i := 8) rfl))) (mvT hZ (hw _ (List.mem_of_getElem? (i := 9) rfl))) (notFace_of_selects (args := #[]) (mvT hZ (hw _ (List.mem_of_getElem? (i := 11) rfl)))) (mvT hZ (hw _ (List.mem_of_getElem? (i := 11) rfl))) (mvT hZ (hw _ (List.mem_of_getElem? (i := 10) rfl))) (by decide) (backOf (W := 1) (rm1 l Z a0 hw [] b13 (f6_0 (vi0.toUInt32.toUInt16.toUInt32.toInt32)) (0 : Int32) w0 c13 (16 : Int32) [(48 : Int32), (49 : Int32), (50 : Int32), (51 : Int32), (52 : Int32), (53 : Int32), (54 : Int32), (55 : Int32), (56 : Int32), (57 : Int32), (97 : Int32), (98 : Int32), (99 : Int32), (100 : Int32), (101 : Int32), (102 : Int32)] w1 h13 n0 Z13 A13 Fcoder_b13 Fvalue_b13 V_c13 SCOMPACT_STRINGS_st_13 SSIOOBE_FORMATTER_st_13 hz rfl rf hc11 (own_r hc12)) hZ (hw _ (List.mem_of_getElem? (i := 12) rfl)) (hw _ (List.mem_of_getElem? (i := 1) rfl)) (by decide) (by decide)) q14a q14c (g := (mkF m 71 #[.val (.int vi0), .val (.int vi1), .val (.int (vi1 &&& (15 : Int32))), .val (.int (vi0.toUInt32.toUInt16.toUInt32.toInt32)), .val (.int (f6_0 (vi0.toUInt32.toUInt16.toUInt32.toInt32)))] [(.int (f6_0 (vi0.toUInt32.toUInt16.toUInt32.toInt32))), (.ref b13), (.int (vi0.toUInt32.toUInt16.toUInt32.toInt32))])) rfl (by rw [hml]; rfl) (Steps.refl _) (argsL := [(.int (f6_0 (vi0.toUInt32.toUInt16.toUInt32.toInt32)))]) (rest := [(.int (vi0.toUInt32.toUInt16.toUInt32.toInt32))]) (lenOf pd1 rfl) rfl (by show 2 * 0 + _ ≤ _; exact Nat.le_of_eq rfl) (hb hby at_71) (fun _ _ => ⟨rfl, e13, (by decide : 6 + 0 ≤ _), (by decide : 204 + 0 ≤ _)⟩)
            dsimp only [Pt.U, Pt.locs, Pt.cells, Pt.slots] at X14 l14 y14 z14 st14 hQ14
            subst l14 y14 z14
            obtain ⟨rfl, N14q, e14⟩ := hQ14
            have N14 := Fr.app N9 N14q
            refine RchW.step (st' := T14.setTop (mkF m 74 #[.val (.int vi0), .val (.int vi1), .val (.int (vi1 &&& (15 : Int32))), .val (.int (vi0.toUInt32.toUInt16.toUInt32.toInt32)), .val (.int (f6_0 (vi0.toUInt32.toUInt16.toUInt32.toInt32)))] [(.int (f1_0 (f6_0 (vi0.toUInt32.toUInt16.toUInt32.toInt32)) w0 (0 : Int32) (16 : Int32) [(48 : Int32), (49 : Int32), (50 : Int32), (51 : Int32), (52 : Int32), (53 : Int32), (54 : Int32), (55 : Int32), (56 : Int32), (57 : Int32), (97 : Int32), (98 : Int32), (99 : Int32), (100 : Int32), (101 : Int32), (102 : Int32)])), (.int (vi0.toUInt32.toUInt16.toUInt32.toInt32))])) (fun _ hr => st14.trans hr) ?_
            by_cases hc15 : (vi0.toUInt32.toUInt16.toUInt32.toInt32) = (f1_0 (f6_0 (vi0.toUInt32.toUInt16.toUInt32.toInt32)) w0 (0 : Int32) (16 : Int32) [(48 : Int32), (49 : Int32), (50 : Int32), (51 : Int32), (52 : Int32), (53 : Int32), (54 : Int32), (55 : Int32), (56 : Int32), (57 : Int32), (97 : Int32), (98 : Int32), (99 : Int32), (100 : Int32), (101 : Int32), (102 : Int32)])
            · rw [if_pos hc15]
              refine RchW.step (st' := T14.setTop (mkF m 88 #[.val (.int vi0), .val (.int vi1), .val (.int (vi1 &&& (15 : Int32))), .val (.int (vi0.toUInt32.toUInt16.toUInt32.toInt32)), .val (.int (f6_0 (vi0.toUInt32.toUInt16.toUInt32.toInt32)))] [])) (fun _ hr => XS.icmpYes X14.here hx rfl (pc0 := 74) (pc' := 88) rfl (hb hby at_74) rfl (teq hc15).1 (by decide) (by decide) hr) ?_
              refine RchW.step (st' := T14.setTop (mkF m 89 #[.val (.int vi0), .val (.int vi1), .val (.int (vi1 &&& (15 : Int32))), .val (.int (vi0.toUInt32.toUInt16.toUInt32.toInt32)), .val (.int (f6_0 (vi0.toUInt32.toUInt16.toUInt32.toInt32)))] [(.int (1 : Int32))])) (fun _ hr => XS.iconst X14.here hx rfl (hb hby at_88) hr) ?_
              refine RchW.step (st' := T14.setTop (mkF m 93 #[.val (.int vi0), .val (.int vi1), .val (.int (vi1 &&& (15 : Int32))), .val (.int (vi0.toUInt32.toUInt16.toUInt32.toInt32)), .val (.int (f6_0 (vi0.toUInt32.toUInt16.toUInt32.toInt32)))] [(.int (1 : Int32))])) (fun _ hr => XS.goto X14.here hx rfl (pc0 := 89) (pc' := 93) rfl (hb hby at_89) (by decide) (by decide) hr) ?_
              exact RchW.retN X14 hS e14 hk13 hx (t := .boolean) hret hlk (by simp) (hb hby at_93) (by decide) (by decide) ⟨rfl, N14⟩
            · rw [if_neg hc15]
              refine RchW.step (st' := T14.setTop (mkF m 77 #[.val (.int vi0), .val (.int vi1), .val (.int (vi1 &&& (15 : Int32))), .val (.int (vi0.toUInt32.toUInt16.toUInt32.toInt32)), .val (.int (f6_0 (vi0.toUInt32.toUInt16.toUInt32.toInt32)))] [])) (fun _ hr => XS.icmpNo X14.here hx rfl (hb hby at_74) rfl (feq hc15).1 hr) ?_
              refine RchW.step (st' := T14.setTop (mkF m 78 #[.val (.int vi0), .val (.int vi1), .val (.int (vi1 &&& (15 : Int32))), .val (.int (vi0.toUInt32.toUInt16.toUInt32.toInt32)), .val (.int (f6_0 (vi0.toUInt32.toUInt16.toUInt32.toInt32)))] [(.int (vi0.toUInt32.toUInt16.toUInt32.toInt32))])) (fun _ hr => XS.iloadN X14.here hx rfl (hb hby at_77) rfl hr) ?_
              obtain ⟨b16, T16, h16, k16, c16, kc16, X16, e16, E16, hS, hk16, hZ, hown, A16, Fcoder_b16, Fvalue_b16, Va16, -, -, hCr16, -, -, st16⟩ := ldcCH X14 hx hZ hown (hw _ (List.mem_of_getElem? (i := 37) rfl)) hwS e14 hS hk13 hEL (List.mem_of_getElem? (i := 1) rfl) hCH (vs := ([(48 : Int32), (49 : Int32), (50 : Int32), (51 : Int32), (52 : Int32), (53 : Int32), (54 : Int32), (55 : Int32), (56 : Int32), (57 : Int32), (65 : Int32), (66 : Int32), (67 : Int32), (68 : Int32), (69 : Int32), (70 : Int32)] : List Int32).map Value.int) (z := (16 : Int32)) ⟨by decide, rfl⟩ (by decide) rfl (g := (mkF m 78 #[.val (.int vi0), .val (.int vi1), .val (.int (vi1 &&& (15 : Int32))), .val (.int (vi0.toUInt32.toUInt16.toUInt32.toInt32)), .val (.int (f6_0 (vi0.toUInt32.toUInt16.toUInt32.toInt32)))] [(.int (vi0.toUInt32.toUInt16.toUInt32.toInt32))])) rfl (hb hby at_78) (n := 64) (by decide) (by decide) (by decide) (by decide)
              have hCH := hCr16.1
              have SCOMPACT_STRINGS_st_16 : Sta Z h16 "java/lang/String" "COMPACT_STRINGS" "Z" (.int w0) := SCOMPACT_STRINGS_st_13.ext E16
              have SSIOOBE_FORMATTER_st_16 : Sta Z h16 "jdk/internal/util/Preconditions" "SIOOBE_FORMATTER" "Ljava/util/function/BiFunction;" w1 := SSIOOBE_FORMATTER_st_13.ext E16
              have E_b1_16 : Exa Z h16 b1 "java/lang/String" := E_b1_13.ext E16
              have Fcoder_b1_16 : Fld Z h16 b1 "java/lang/String" "coder" "B" (.int (0 : Int32)) := Fcoder_b1_13.ext E16
              have Fvalue_b1_16 : Fld Z h16 b1 "java/lang/String" "value" "[B" (.ref c1) := Fvalue_b1_13.ext E16
              have V_c1_16 : ArB Z h16 c1 (16 : Int32) [(48 : Int32), (49 : Int32), (50 : Int32), (51 : Int32), (52 : Int32), (53 : Int32), (54 : Int32), (55 : Int32), (56 : Int32), (57 : Int32), (97 : Int32), (98 : Int32), (99 : Int32), (100 : Int32), (101 : Int32), (102 : Int32)] := V_c1_13.ext E16
              have E_b5_16 : Exa Z h16 b5 "java/lang/String" := E_b5_13.ext E16
              have Fcoder_b5_16 : Fld Z h16 b5 "java/lang/String" "coder" "B" (.int (0 : Int32)) := Fcoder_b5_13.ext E16
              have Fvalue_b5_16 : Fld Z h16 b5 "java/lang/String" "value" "[B" (.ref c5) := Fvalue_b5_13.ext E16
              have V_c5_16 : ArB Z h16 c5 (16 : Int32) [(48 : Int32), (49 : Int32), (50 : Int32), (51 : Int32), (52 : Int32), (53 : Int32), (54 : Int32), (55 : Int32), (56 : Int32), (57 : Int32), (65 : Int32), (66 : Int32), (67 : Int32), (68 : Int32), (69 : Int32), (70 : Int32)] := V_c5_13.ext E16
              have E_b13_16 : Exa Z h16 b13 "java/lang/String" := A13.ext E16
              have Fcoder_b13_16 : Fld Z h16 b13 "java/lang/String" "coder" "B" (.int (0 : Int32)) := Fcoder_b13.ext E16
              have Fvalue_b13_16 : Fld Z h16 b13 "java/lang/String" "value" "[B" (.ref c13) := Fvalue_b13.ext E16
              have V_c13_16 : ArB Z h16 c13 (16 : Int32) [(48 : Int32), (49 : Int32), (50 : Int32), (51 : Int32), (52 : Int32), (53 : Int32), (54 : Int32), (55 : Int32), (56 : Int32), (57 : Int32), (97 : Int32), (98 : Int32), (99 : Int32), (100 : Int32), (101 : Int32), (102 : Int32)] := V_c13.ext E16
              have Z16 : n0 ≤ h16.size := Nat.le_trans Z13 E16.1
              have V_c16 : ArB Z h16 c16 (16 : Int32) [(48 : Int32), (49 : Int32), (50 : Int32), (51 : Int32), (52 : Int32), (53 : Int32), (54 : Int32), (55 : Int32), (56 : Int32), (57 : Int32), (65 : Int32), (66 : Int32), (67 : Int32), (68 : Int32), (69 : Int32), (70 : Int32)] := ⟨rfl, kc16, Va16⟩
              refine RchW.step (st' := T16.setTop (mkF m 80 #[.val (.int vi0), .val (.int vi1), .val (.int (vi1 &&& (15 : Int32))), .val (.int (vi0.toUInt32.toUInt16.toUInt32.toInt32)), .val (.int (f6_0 (vi0.toUInt32.toUInt16.toUInt32.toInt32)))] [(.ref b16), (.int (vi0.toUInt32.toUInt16.toUInt32.toInt32))])) (fun _ hr => st16 _ hr) ?_
              refine RchW.step (st' := T16.setTop (mkF m 82 #[.val (.int vi0), .val (.int vi1), .val (.int (vi1 &&& (15 : Int32))), .val (.int (vi0.toUInt32.toUInt16.toUInt32.toInt32)), .val (.int (f6_0 (vi0.toUInt32.toUInt16.toUInt32.toInt32)))] [(.int (f6_0 (vi0.toUInt32.toUInt16.toUInt32.toInt32))), (.ref b16), (.int (vi0.toUInt32.toUInt16.toUInt32.toInt32))])) (fun _ hr => XS.iload X16.here hx rfl (hb hby at_80) rfl hr) ?_
              obtain ⟨cq17, kq17, q17a, q17b, q17c⟩ := isOf hZ e16 A16
              obtain ⟨_, _, ⟨T17, L17, k17, n17⟩, -, X17, ⟨Lc17, hQ17, l17, y17, z17⟩, st17⟩ := X16.virtualBack hx (y := (⟨"java/lang/String", "charAt", "(I)C"⟩ : MethodName)) (z := (⟨"java/lang/String", "charAt", "(I)C"⟩ : MethodName)) hown (mvT hZ (hw _ (List.mem_of_getElem? (i := 8) rfl))) (mvT hZ (hw _ (List.mem_of_getElem? (i := 9) rfl))) (notFace_of_selects (args := #[]) (mvT hZ (hw _ (List.mem_of_getElem? (i := 11) rfl)))) (mvT hZ (hw _ (List.mem_of_getElem? (i := 11) rfl))) (mvT hZ (hw _ (List.mem_of_getElem? (i := 10) rfl))) (by decide) (backOf (W := 1) (rm1 l Z a0 hw [] b16 (f6_0 (vi0.toUInt32.toUInt16.toUInt32.toInt32)) (0 : Int32) w0 c16 (16 : Int32) [(48 : Int32), (49 : Int32), (50 : Int32), (51 : Int32), (52 : Int32), (53 : Int32), (54 : Int32), (55 : Int32), (56 : Int32), (57 : Int32), (65 : Int32), (66 : Int32), (67 : Int32), (68 : Int32), (69 : Int32), (70 : Int32)] w1 h16 n0 Z16 A16 Fcoder_b16 Fvalue_b16 V_c16 SCOMPACT_STRINGS_st_16 SSIOOBE_FORMATTER_st_16 hz rfl rf hc11 (own_r hc12)) hZ (hw _ (List.mem_of_getElem? (i := 12) rfl)) (hw _ (List.mem_of_getElem? (i := 1) rfl)) (by decide) (by decide)) q17a q17c (g := (mkF m 82 #[.val (.int vi0), .val (.int vi1), .val (.int (vi1 &&& (15 : Int32))), .val (.int (vi0.toUInt32.toUInt16.toUInt32.toInt32)), .val (.int (f6_0 (vi0.toUInt32.toUInt16.toUInt32.toInt32)))] [(.int (f6_0 (vi0.toUInt32.toUInt16.toUInt32.toInt32))), (.ref b16), (.int (vi0.toUInt32.toUInt16.toUInt32.toInt32))])) rfl (by rw [hml]; rfl) (Steps.refl _) (argsL := [(.int (f6_0 (vi0.toUInt32.toUInt16.toUInt32.toInt32)))]) (rest := [(.int (vi0.toUInt32.toUInt16.toUInt32.toInt32))]) (lenOf pd1 rfl) rfl (by show 2 * 0 + _ ≤ _; exact Nat.le_of_eq rfl) (hb hby at_82) (fun _ _ => ⟨rfl, e16, (by decide : 8 + 0 ≤ _), (by decide : 272 + 0 ≤ _)⟩)
              dsimp only [Pt.U, Pt.locs, Pt.cells, Pt.slots] at X17 l17 y17 z17 st17 hQ17
              subst l17 y17 z17
              obtain ⟨rfl, N17q, e17⟩ := hQ17
              have N17 := Fr.app N14 N17q
              refine RchW.step (st' := T17.setTop (mkF m 85 #[.val (.int vi0), .val (.int vi1), .val (.int (vi1 &&& (15 : Int32))), .val (.int (vi0.toUInt32.toUInt16.toUInt32.toInt32)), .val (.int (f6_0 (vi0.toUInt32.toUInt16.toUInt32.toInt32)))] [(.int (f1_0 (f6_0 (vi0.toUInt32.toUInt16.toUInt32.toInt32)) w0 (0 : Int32) (16 : Int32) [(48 : Int32), (49 : Int32), (50 : Int32), (51 : Int32), (52 : Int32), (53 : Int32), (54 : Int32), (55 : Int32), (56 : Int32), (57 : Int32), (65 : Int32), (66 : Int32), (67 : Int32), (68 : Int32), (69 : Int32), (70 : Int32)])), (.int (vi0.toUInt32.toUInt16.toUInt32.toInt32))])) (fun _ hr => st17.trans hr) ?_
              by_cases hc18 : (vi0.toUInt32.toUInt16.toUInt32.toInt32) = (f1_0 (f6_0 (vi0.toUInt32.toUInt16.toUInt32.toInt32)) w0 (0 : Int32) (16 : Int32) [(48 : Int32), (49 : Int32), (50 : Int32), (51 : Int32), (52 : Int32), (53 : Int32), (54 : Int32), (55 : Int32), (56 : Int32), (57 : Int32), (65 : Int32), (66 : Int32), (67 : Int32), (68 : Int32), (69 : Int32), (70 : Int32)])
              · rw [if_pos hc18]
                refine RchW.step (st' := T17.setTop (mkF m 88 #[.val (.int vi0), .val (.int vi1), .val (.int (vi1 &&& (15 : Int32))), .val (.int (vi0.toUInt32.toUInt16.toUInt32.toInt32)), .val (.int (f6_0 (vi0.toUInt32.toUInt16.toUInt32.toInt32)))] [])) (fun _ hr => XS.icmpNo X17.here hx rfl (hb hby at_85) rfl (teq hc18).2 hr) ?_
                refine RchW.step (st' := T17.setTop (mkF m 89 #[.val (.int vi0), .val (.int vi1), .val (.int (vi1 &&& (15 : Int32))), .val (.int (vi0.toUInt32.toUInt16.toUInt32.toInt32)), .val (.int (f6_0 (vi0.toUInt32.toUInt16.toUInt32.toInt32)))] [(.int (1 : Int32))])) (fun _ hr => XS.iconst X17.here hx rfl (hb hby at_88) hr) ?_
                refine RchW.step (st' := T17.setTop (mkF m 93 #[.val (.int vi0), .val (.int vi1), .val (.int (vi1 &&& (15 : Int32))), .val (.int (vi0.toUInt32.toUInt16.toUInt32.toInt32)), .val (.int (f6_0 (vi0.toUInt32.toUInt16.toUInt32.toInt32)))] [(.int (1 : Int32))])) (fun _ hr => XS.goto X17.here hx rfl (pc0 := 89) (pc' := 93) rfl (hb hby at_89) (by decide) (by decide) hr) ?_
                exact RchW.retN X17 hS e17 hk16 hx (t := .boolean) hret hlk (by simp) (hb hby at_93) (by decide) (by decide) ⟨rfl, N17⟩
              · rw [if_neg hc18]
                refine RchW.step (st' := T17.setTop (mkF m 92 #[.val (.int vi0), .val (.int vi1), .val (.int (vi1 &&& (15 : Int32))), .val (.int (vi0.toUInt32.toUInt16.toUInt32.toInt32)), .val (.int (f6_0 (vi0.toUInt32.toUInt16.toUInt32.toInt32)))] [])) (fun _ hr => XS.icmpYes X17.here hx rfl (pc0 := 85) (pc' := 92) rfl (hb hby at_85) rfl (feq hc18).2 (by decide) (by decide) hr) ?_
                refine RchW.step (st' := T17.setTop (mkF m 93 #[.val (.int vi0), .val (.int vi1), .val (.int (vi1 &&& (15 : Int32))), .val (.int (vi0.toUInt32.toUInt16.toUInt32.toInt32)), .val (.int (f6_0 (vi0.toUInt32.toUInt16.toUInt32.toInt32)))] [(.int (0 : Int32))])) (fun _ hr => XS.iconst X17.here hx rfl (hb hby at_92) hr) ?_
                exact RchW.retN X17 hS e17 hk16 hx (t := .boolean) hret hlk (by simp) (hb hby at_93) (by decide) (by decide) ⟨rfl, N17⟩
    · rw [if_neg hc8]
      refine RchW.step (st' := T7.setTop (mkF m 33 #[.val (.int vi0), .val (.int vi1), .val (.int (vi1 &&& (15 : Int32))), .unset, .unset] [])) (fun _ hr => XS.icmpNo X7.here hx rfl (hb hby at_30) rfl (feq hc8).1 hr) ?_
      refine RchW.step (st' := T7.setTop (mkF m 34 #[.val (.int vi0), .val (.int vi1), .val (.int (vi1 &&& (15 : Int32))), .unset, .unset] [(.int (0 : Int32))])) (fun _ hr => XS.iconst X7.here hx rfl (hb hby at_33) hr) ?_
      exact RchW.retN X7 hS e7 hk5 hx (t := .boolean) hret hlk (by simp) (hb hby at_34) (by decide) (by decide) ⟨rfl, N7⟩
  · rw [if_neg hc4]
    refine RchW.step (st' := T3.setTop (mkF m 18 #[.val (.int vi0), .val (.int vi1), .val (.int (vi1 &&& (15 : Int32))), .unset, .unset] [])) (fun _ hr => XS.icmpNo X3.here hx rfl (hb hby at_15) rfl (feq hc4).1 hr) ?_
    refine RchW.step (st' := T3.setTop (mkF m 19 #[.val (.int vi0), .val (.int vi1), .val (.int (vi1 &&& (15 : Int32))), .unset, .unset] [(.int (0 : Int32))])) (fun _ hr => XS.iconst X3.here hx rfl (hb hby at_18) hr) ?_
    exact RchW.retN X3 hS e3 hk1 hx (t := .boolean) hret hlk (by simp) (hb hby at_19) (by decide) (by decide) ⟨rfl, N3⟩
theorem ef0 (m : MethodId) (x0 : Int32) (x1 : Int32) : entryFrame m #[(.int x0), (.int x1)] maxLocals = mkF m 0 #[.val (.int x0), .val (.int x1), .unset, .unset, .unset] [] := by first | (simp [entryFrame, mkF, argsToLocals, Value.category, maxLocals]; done) | rfl
set_option maxRecDepth 65536 in
set_option maxHeartbeats 40000000 in
theorem rm0 (l : Launch) (Z : State) (a0 : Array Value) (hw : ∀ d ∈ tables_1, d.before a0 Z = true) (ws : List Jvm.Cond) (x0 x1 kz : Int32) (fm : Value) (H0 : Sta Z Z.heap "java/lang/String" "COMPACT_STRINGS" "Z" (.int kz)) (H1 : Sta Z Z.heap "jdk/internal/util/Preconditions" "SIOOBE_FORMATTER" "Ljava/util/function/BiFunction;" fm) (hz : kz ≠ 0) (rf : fm.isRef = true) (hEL : EW Z a0 consts_1) (hCH : CHv Z consts_1 Z.vm Z.heap) :
    MetFree l x (head1 (Jvm.Cond.code x code maxLocals ret :: ws) room_1) (fun a U => a = #[(.int x0), (.int x1)] ∧ U = Z) (fun _ _ _ _ _ => True) (fun _ U o U' => ∃ v L, o = .returned v ∧ PL (f0_0 x0 x1 kz) U.heap.size v U'.heap L ∧ ReturnedEndW U o U' L room_1.cells room_1.slots) := by
  refine MetFree.of_bodySF (plainFor_of_name pn0) hisR ?_
  intro p e s m args below meth c s₁ Bd hml0 hP hK
  obtain ⟨rfl, rfl⟩ := hP
  have hown : s.vm.findClass "com/example/kavsak/kavsak/HttpSyntaxHexValuePinLaw" = some m.cls := findClass_of_methodNamed Bd.named
  have e0 : s₁.heap = s.heap := by rw [Bd.state]; rfl
  obtain ⟨s₂, v, L, h1, h2, h3, h4, h5⟩ := b0_0 (T := s₁) (vm0 := s.vm) (k0 := 0) (n0 := s.heap.size) ⟨⟨Stand.of_body Bd, Bd.exec, State.Warmed39.refl s, hw, Bd.bytes, hml0, hown, Bd.returns, BodyLoose.notSynchronized Bd, e0, Nat.le_refl _, Fr.nil _⟩, (State.WarmedH.refl s).since 0, Nat.zero_le _⟩ x0 x1 kz fm H0 H1 hz rf hEL hCH
  exact ⟨s₂, .returned v, castTop (ef0 m x0 x1) h1, h2, h3, v, L, rfl, h4, h5⟩
def own_LO : List Int32 := [48, 49, 50, 51, 52, 53, 54, 55, 56, 57, 97, 98, 99, 100, 101, 102]
def own_UP : List Int32 := [48, 49, 50, 51, 52, 53, 54, 55, 56, 57, 65, 66, 67, 68, 69, 70]
theorem own_f1 (i z : Int32) (hz : z ≠ 0) (ws : List Int32) : f1_0 i z 0 16 ws = nar .char (f3_0 i 16 ws) := by
  unfold f1_0 f2_0
  rw [if_neg hz, if_pos rfl, if_neg (by decide)]
theorem own_fin1 : ∀ k : Fin 16, f6_0 (nar .char (f3_0 (Int32.ofNat k.val) 16 own_LO)) = Int32.ofNat k.val := by decide +kernel
theorem own_fin2 : ∀ k : Fin 16, f6_0 (nar .char (f3_0 (Int32.ofNat k.val) 16 own_UP)) = Int32.ofNat k.val := by decide +kernel
theorem own_fin3 : ∀ k : Fin 128, (if f6_0 (Int32.ofNat k.val) = (-1 : Int32) then (1 : Int32) else (if f6_0 (Int32.ofNat k.val) < (0 : Int32) then (0 : Int32) else (if (15 : Int32) < f6_0 (Int32.ofNat k.val) then (0 : Int32) else (if (Int32.ofNat k.val) = nar .char (f3_0 (f6_0 (Int32.ofNat k.val)) 16 own_LO) then (1 : Int32) else (if (Int32.ofNat k.val) = nar .char (f3_0 (f6_0 (Int32.ofNat k.val)) 16 own_UP) then (1 : Int32) else (0 : Int32)))))) = 1 := by decide +kernel
theorem own_big (c : Int32) (h : 128 ≤ c.toInt) : f6_0 c = -1 := by
  unfold f6_0 f6_17 f6_37
  simp only [Int32.lt_iff_toInt_lt, Int32.reduceToInt]
  rw [if_neg (by omega), if_pos (by omega), if_neg (by omega), if_pos (by omega), if_neg (by omega), if_pos (by omega)]
theorem own_law (a b z : Int32) (hz : z ≠ 0) : f0_0 a b z = 1 := by
  have m := c_mask b 15 4 (by decide) (by decide)
  have cc := c_i2c a
  unfold f0_0
  simp only [own_f1 _ _ hz]
  generalize a.toUInt32.toUInt16.toUInt32.toInt32 = c at *
  have ed : b &&& (15 : Int32) = Int32.ofNat (b &&& (15 : Int32)).toInt.toNat := by
    apply Int32.toInt_inj.mp
    rw [Int32.toInt_ofNat_of_lt (by omega)]
    omega
  have e1 : f6_0 (nar .char (f3_0 (b &&& (15 : Int32)) 16 own_LO)) = b &&& (15 : Int32) := by
    rw [ed]; exact own_fin1 ⟨(b &&& (15 : Int32)).toInt.toNat, by omega⟩
  have e2 : f6_0 (nar .char (f3_0 (b &&& (15 : Int32)) 16 own_UP)) = b &&& (15 : Int32) := by
    rw [ed]; exact own_fin2 ⟨(b &&& (15 : Int32)).toInt.toNat, by omega⟩
  show (if f6_0 (nar .char (f3_0 (b &&& (15 : Int32)) 16 own_LO)) = b &&& (15 : Int32) then (if f6_0 (nar .char (f3_0 (b &&& (15 : Int32)) 16 own_UP)) = b &&& (15 : Int32) then (if f6_0 c = (-1 : Int32) then (1 : Int32) else (if f6_0 c < (0 : Int32) then (0 : Int32) else (if (15 : Int32) < f6_0 c then (0 : Int32) else (if c = nar .char (f3_0 (f6_0 c) 16 own_LO) then (1 : Int32) else (if c = nar .char (f3_0 (f6_0 c) 16 own_UP) then (1 : Int32) else (0 : Int32)))))) else (0 : Int32)) else (0 : Int32)) = 1
  rw [if_pos e1, if_pos e2]
  by_cases h : c.toInt < 128
  · have ec : c = Int32.ofNat c.toInt.toNat := by
      apply Int32.toInt_inj.mp
      rw [Int32.toInt_ofNat_of_lt (by omega)]
      omega
    rw [ec]
    exact own_fin3 ⟨c.toInt.toNat, by omega⟩
  · rw [own_big c (by omega), if_pos rfl]
set_option maxRecDepth 65536 in
set_option maxHeartbeats 40000000 in
theorem comes_1 {Post : Tables → Env → Array Value → State → Outcome → State → Prop} (hpost : ∀ tb e args s v u, (limb_1_1.after args s (.returned v) u = true ∧ limb_1_2.after args s (.returned v) u = true ∧ True) → ReturnedEndW s (.returned v) u (Jvm.fieldLocs frame_1_writes args s ++ Jvm.arrayLocs frame_1_arrays args s ++ Jvm.staticLocs frame_1_statics s) 8 2112 → Post tb e args s (.returned v) u) :
    ArmFor flags0 classFile x code maxLocals ret World_1 tables_1 room_1 Calls_1 rest_1 Pre_1 Post := by
  intro l hfl _ _ p e ha hc hk s m args below hf hA hF happ hP
  obtain ⟨hcalls, hrest, hpre⟩ := hP
  obtain ⟨-, -, -, hnamed, -, -, -, hat⟩ := (Spec.applies_iff hf).mp happ
  obtain ⟨hg, hn⟩ := and_e (Cond.before_iff.mp (show (Jvm.Cond.and given_1 narrow_1).before args s = true from hpre))
  obtain ⟨g1, g2⟩ := and_e hg
  obtain ⟨g3, g4⟩ := and_e g2
  obtain ⟨w0, w1, rfl⟩ : ∃ w0 w1 : Value, args = #[w0, w1] := by
    have hs : args.size = 2 := by simpa [Cond.value, given_1] using g1
    obtain ⟨L⟩ := args
    match L, hs with
    | [w0, w1], _ => exact ⟨w0, w1, rfl⟩
  have hw := fun d (hd : d ∈ tables_1) => atoms_spec (ws := Jvm.Cond.code x code maxLocals ret :: tables_1) hat d (List.mem_cons_of_mem _ hd)
  obtain ⟨i0, ei0⟩ := is_v g3
  obtain rfl : w0 = (.int i0) := Option.some.inj ei0
  obtain ⟨i1, ei1⟩ := is_v g4
  obtain rfl : w1 = (.int i1) := Option.some.inj ei1
  obtain ⟨hsets, hown0⟩ := atoms_of _ (rest_1_c_eq ▸ (show rest_1_c.before _ s = true from hrest))
  have n5 := not_v (Cond.before_iff.mp (hsets _ (List.mem_of_getElem? (i := 2) rfl)))
  obtain ⟨kz, ez⟩ := is_v (Cond.before_iff.mp (hsets _ (List.mem_of_getElem? (i := 1) rfl)))
  have S1 : Sta s s.heap "java/lang/String" "COMPACT_STRINGS" "Z" (.int kz) := Sta.start ez (Or.inl (hsets _ (List.mem_of_getElem? (i := 0) rfl)))
  obtain ⟨fm, ef, rf⟩ := isR_v (Cond.before_iff.mp (hsets _ (List.mem_of_getElem? (i := 8) rfl)))
  have S2 : Sta s s.heap "jdk/internal/util/Preconditions" "SIOOBE_FORMATTER" "Ljava/util/function/BiFunction;" fm := Sta.start ef (Or.inl (hsets _ (List.mem_of_getElem? (i := 7) rfl)))
  have hz : kz ≠ 0 := gotF (Cond.eq_ints ez (Term.int_eval (0))) n5
  have hEL : EW s _ consts_1 := EW.cons (hw _ (List.mem_of_getElem? (i := 0) rfl)) (by decide) (EW.cons (hw _ (List.mem_of_getElem? (i := 37) rfl)) (by decide) EW.nil)
  have hCH : CHv s consts_1 s.vm s.heap := CHv.start hEL (fun q hq => hcalls.1 q hq) (hsets _ (List.mem_of_getElem? (i := 2) rfl)) (hw _ (List.mem_of_getElem? (i := 3) rfl)) (hw _ (List.mem_of_getElem? (i := 2) rfl))
  obtain ⟨n, o, h1, h2, h3, _, L, rfl, ⟨rfl, N⟩, hq⟩ := rm0 l s _ hw tables_1 i0 i1 kz fm S1 S2 hz rf hEL hCH p e ha hc hk s m _ below hf ((Spec.applies_iff_loose hf).mp happ).1 ⟨rfl, rfl⟩ trivial
  have hlaw := own_law i0 i1 kz hz
  refine ⟨n, _, h1, h2, h3, hpost _ _ _ _ _ _ ⟨Cond.after_iff.mpr rfl, Cond.after_iff.mpr (eq_i res_at (Term.int_eval (1)) (by rw [hlaw])), trivial⟩ ⟨hq.1, hq.2.1, hq.2.2.1, (hq.2.2.2.sift fun y hy => Or.inr (N y hy)).mono (by decide) (by decide)⟩⟩
theorem main_1_1 : Claimed_1_1 := comes_1 fun _ _ _ _ _ _ h hF => ⟨h.1, hF⟩
theorem main_1_2 : Claimed_1_2 := comes_1 fun _ _ _ _ _ _ h hF => ⟨h.2.1, hF⟩
end Jvm.Pilot.@@N@@
namespace Jvm.Pilot.@@N@@
open Jvm Jvm.ClassFile Sem Op Lib Jvm.Free Jvm.Stand Jvm.Pilot.@@N@@.Jvm.D
/-! MADE BY PROGRAM (witnessworld.py) out of the Statement's table words and the real class files: 17 classes; the members and pool entries that the words name. The judged class is class 1, her method 1. -/
namespace start1
open Jvm.ClassFile
def u (s : String) : CpInfo := .utf8 (stringToUtf16 s)
/-- a pool by its gaps: so many unusable entries, then the entry; so many at the end -/
def gap : Nat → List CpInfo → List CpInfo
  | 0, r => r
  | n + 1, r => .unusable :: gap n r
def poolList (es : List (Nat × CpInfo)) (last : Nat) : List CpInfo := es.foldr (fun e r => gap e.1 (e.2 :: r)) (gap last [])
def pool (es : List (Nat × CpInfo)) (last : Nat) : Array CpInfo := ⟨poolList es last⟩
def fileOf (pool : Array CpInfo) (this : Nat) (attrs : Array Attribute := #[]) (ms : Array MethodInfo := #[]) (fl : Nat := 33) (sup : Nat := 0) (ifs : Array Nat := #[]) (fds : Array FieldInfo := #[]) : ClassFile where
  minorVersion := 0
  majorVersion := 65
  constantPool := pool
  accessFlags := fl
  thisClass := this
  superClass := sup
  interfaces := ifs
  fields := fds
  methods := ms
  attributes := attrs
def plain (name : String) (sup : Option ClassId) : Class where
  name := name
  kind := .ordinary
  loader := none
  accessFlags := 33
  super := sup
  interfaces := #[]
  cf := none
  fields := #[]
  methods := #[]
  instanceTypes := #[]
  staticTypes := #[]
  resolved := #[]
  callSites := []
  init := .initialized
  statics := none
  mirror := none

def pool0 : Array CpInfo := pool [(5, u "<init>"), (0, u "()V"), (1, .class_ 10), (1, u "java/lang/Object")] 113

def k0m0 : Method := { name := "<init>", desc := "()V", sig := { parameters := [], returnType := none }, accessFlags := 1, code := none }
/-- java/lang/Object -/
def k0 : Class := { plain "java/lang/Object" none with
  accessFlags := 33
  interfaces := #[]
  cf := some (fileOf pool0 8 #[] #[{ accessFlags := 1, nameIndex := 5, descriptorIndex := 6, attributes := #[] }] 33 0 #[] #[])
  fields := #[]
  methods := #[k0m0]
  instanceTypes := #[]
  staticTypes := #[]
  resolved := Array.replicate 124 none
  statics := none }

def pool1 : Array CpInfo := pool [(2, .class_ 4), (1, u "java/lang/Object"), (0, u "<init>"), (0, u "()V"), (0, .string 8), (0, u "0123456789abcdef"), (0, .methodref 10 11), (0, .class_ 12), (0, .nameAndType 13 14), (0, u "java/lang/String"), (0, u "charAt"), (0, u "(I)C"), (0, .methodref 16 17), (0, .class_ 18), (0, .nameAndType 19 20), (0, u "com/example/kavsak/kavsak/HttpSyntax"), (0, u "hexValue"), (0, u "(C)I"), (0, .string 22), (0, u "0123456789ABCDEF"), (0, .class_ 24), (0, u "com/example/kavsak/kavsak/HttpSyntaxHexValuePinLaw"), (2, u "law"), (0, u "(II)Z")] 3

def k1m0 : Method := { name := "<init>", desc := "()V", sig := { parameters := [], returnType := none }, accessFlags := 1, code := none }
def k1c1 : Code := { maxStack := 3, maxLocals := 5, code := code, exceptionTable := #[], attributes := #[] }
def k1m1 : Method := { name := "law", desc := "(II)Z", sig := { parameters := [.int, .int], returnType := some .boolean }, accessFlags := 9, code := some k1c1 }
/-- com/example/kavsak/kavsak/HttpSyntaxHexValuePinLaw -/
def k1 : Class := { plain "com/example/kavsak/kavsak/HttpSyntaxHexValuePinLaw" (some 0) with
  accessFlags := 49
  interfaces := #[]
  cf := some (fileOf pool1 23 #[] #[{ accessFlags := 1, nameIndex := 5, descriptorIndex := 6, attributes := #[] }, { accessFlags := 9, nameIndex := 27, descriptorIndex := 28, attributes := #[] }] 49 2 #[] #[])
  fields := #[]
  methods := #[k1m0, k1m1]
  instanceTypes := #[]
  staticTypes := #[]
  resolved := Array.replicate 32 none
  statics := none }

def pool2 : Array CpInfo := pool [(1, .class_ 2), (0, u "java/io/Serializable"), (0, .class_ 4), (0, u "java/lang/Object")] 2

/-- java/io/Serializable -/
def k2 : Class := { plain "java/io/Serializable" (some 0) with
  accessFlags := 1537
  interfaces := #[]
  cf := some (fileOf pool2 1 #[] #[] 1537 3 #[] #[])
  fields := #[]
  methods := #[]
  instanceTypes := #[]
  staticTypes := #[]
  resolved := Array.replicate 7 none
  statics := none }

def pool3 : Array CpInfo := pool [(1, .class_ 2), (0, u "java/lang/Comparable"), (0, .class_ 4), (0, u "java/lang/Object")] 7

/-- java/lang/Comparable -/
def k3 : Class := { plain "java/lang/Comparable" (some 0) with
  accessFlags := 1537
  interfaces := #[]
  cf := some (fileOf pool3 1 #[] #[] 1537 3 #[] #[])
  fields := #[]
  methods := #[]
  instanceTypes := #[]
  staticTypes := #[]
  resolved := Array.replicate 12 none
  statics := none }

def pool4 : Array CpInfo := pool [(2, .class_ 4), (1, u "java/lang/CharSequence"), (42, .class_ 48), (0, u "java/lang/CharSequence$1CodePointIterator"), (10, .class_ 60), (0, u "java/lang/CharSequence$1CharIterator"), (5, .class_ 67), (0, u "java/lang/Object")] 63

/-- java/lang/CharSequence -/
def k4 : Class := { plain "java/lang/CharSequence" (some 0) with
  accessFlags := 1537
  interfaces := #[]
  cf := some (fileOf pool4 2 #[.nestMembers #[47, 59]] #[] 1537 66 #[] #[])
  fields := #[]
  methods := #[]
  instanceTypes := #[]
  staticTypes := #[]
  resolved := Array.replicate 131 none
  statics := none }

def pool5 : Array CpInfo := pool [(1, .class_ 2), (0, u "java/lang/constant/Constable"), (0, .class_ 4), (0, u "java/lang/Object")] 6

/-- java/lang/constant/Constable -/
def k5 : Class := { plain "java/lang/constant/Constable" (some 0) with
  accessFlags := 1537
  interfaces := #[]
  cf := some (fileOf pool5 1 #[] #[] 1537 3 #[] #[])
  fields := #[]
  methods := #[]
  instanceTypes := #[]
  staticTypes := #[]
  resolved := Array.replicate 11 none
  statics := none }

def pool6 : Array CpInfo := pool [(1, .class_ 2), (0, u "java/lang/constant/ConstantDesc"), (0, .class_ 4), (0, u "java/lang/Object")] 32

/-- java/lang/constant/ConstantDesc -/
def k6 : Class := { plain "java/lang/constant/ConstantDesc" (some 0) with
  accessFlags := 1537
  interfaces := #[]
  cf := some (fileOf pool6 1 #[] #[] 1537 3 #[] #[])
  fields := #[]
  methods := #[]
  instanceTypes := #[]
  staticTypes := #[]
  resolved := Array.replicate 37 none
  statics := none }

def pool7 : Array CpInfo := pool [(2, .class_ 4), (1, u "java/lang/Object"), (0, u "<init>"), (0, u "()V"), (2, .fieldref 10 11), (0, .class_ 12), (0, .nameAndType 13 14), (0, u "java/lang/String"), (0, u "value"), (0, u "[B"), (0, .fieldref 10 16), (0, .nameAndType 17 18), (0, u "coder"), (0, u "B"), (2, u "hash"), (0, u "I"), (2, u "hashIsZero"), (0, u "Z"), (11, .fieldref 10 39), (0, .nameAndType 40 26), (0, u "COMPACT_STRINGS"), (66, .class_ 109), (1, u "java/lang/StringLatin1"), (32, u "()Z"), (220, u "([BI)C"), (27, u "(II)V"), (35, u "(I)C"), (64, .methodref 10 493), (0, .nameAndType 494 142), (0, u "isLatin1"), (0, .methodref 107 496), (0, .nameAndType 497 363), (0, u "charAt"), (3, u "checkIndex"), (73, .class_ 576), (0, u "java/lang/CharSequence"), (22, u "CASE_INSENSITIVE_ORDER"), (0, u "Ljava/util/Comparator;"), (452, .fieldref 1054 1055), (0, .class_ 1056), (0, .nameAndType 1057 1058), (0, u "jdk/internal/util/Preconditions"), (0, u "SIOOBE_FORMATTER"), (0, u "Ljava/util/function/BiFunction;"), (0, .methodref 1054 1060), (0, .nameAndType 501 1061), (0, u "(IILjava/util/function/BiFunction;)I"), (39, u "serialPersistentFields"), (0, u "[Ljava/io/ObjectStreamField;"), (0, .class_ 1104), (0, u "java/lang/String$CaseInsensitiveComparator"), (1, .class_ 1107), (0, u "java/io/Serializable"), (0, .class_ 1109), (0, u "java/lang/Comparable"), (0, .class_ 1111), (0, u "java/lang/constant/Constable"), (0, .class_ 1113), (0, u "java/lang/constant/ConstantDesc"), (2, u "serialVersionUID"), (0, u "J"), (3, u "REPL"), (0, u "C"), (2, u "LATIN1"), (1, u "UTF16")] 323

def k7m0 : Method := { name := "<init>", desc := "()V", sig := { parameters := [], returnType := none }, accessFlags := 1, code := none }
def k7c1 : Code := { maxStack := 2, maxLocals := 2, code := jdk_42_method_56_code, exceptionTable := #[], attributes := #[] }
def k7m1 : Method := { name := "charAt", desc := "(I)C", sig := { parameters := [.int], returnType := some .char }, accessFlags := 1, code := some k7c1 }
def k7c2 : Code := { maxStack := 1, maxLocals := 1, code := jdk_42_method_154_code, exceptionTable := #[], attributes := #[] }
def k7m2 : Method := { name := "isLatin1", desc := "()Z", sig := { parameters := [], returnType := some .boolean }, accessFlags := 0, code := some k7c2 }
def k7c3 : Code := { maxStack := 3, maxLocals := 2, code := jdk_42_method_155_code, exceptionTable := #[], attributes := #[] }
def k7m3 : Method := { name := "checkIndex", desc := "(II)V", sig := { parameters := [.int, .int], returnType := none }, accessFlags := 8, code := some k7c3 }
/-- java/lang/String -/
def k7 : Class := { plain "java/lang/String" (some 0) with
  accessFlags := 49
  interfaces := #[2, 3, 4, 5, 6]
  cf := some (fileOf pool7 10 #[.nestMembers #[1103]] #[{ accessFlags := 1, nameIndex := 5, descriptorIndex := 6, attributes := #[] }, { accessFlags := 1, nameIndex := 497, descriptorIndex := 427, attributes := #[] }, { accessFlags := 0, nameIndex := 494, descriptorIndex := 142, attributes := #[] }, { accessFlags := 8, nameIndex := 501, descriptorIndex := 391, attributes := #[] }] 49 2 #[1106, 1108, 575, 1110, 1112] #[{ accessFlags := 18, nameIndex := 13, descriptorIndex := 14, attributes := #[] }, { accessFlags := 18, nameIndex := 17, descriptorIndex := 18, attributes := #[] }, { accessFlags := 2, nameIndex := 21, descriptorIndex := 22, attributes := #[] }, { accessFlags := 2, nameIndex := 25, descriptorIndex := 26, attributes := #[] }, { accessFlags := 26, nameIndex := 1116, descriptorIndex := 1117, attributes := #[] }, { accessFlags := 24, nameIndex := 40, descriptorIndex := 26, attributes := #[] }, { accessFlags := 26, nameIndex := 1101, descriptorIndex := 1102, attributes := #[] }, { accessFlags := 26, nameIndex := 1121, descriptorIndex := 1122, attributes := #[] }, { accessFlags := 25, nameIndex := 599, descriptorIndex := 600, attributes := #[] }, { accessFlags := 24, nameIndex := 1125, descriptorIndex := 18, attributes := #[] }, { accessFlags := 24, nameIndex := 1127, descriptorIndex := 18, attributes := #[] }])
  fields := #[{ name := "value", type := (.array .byte), accessFlags := 18, slot := 0, constantValue := 0 }, { name := "coder", type := .byte, accessFlags := 18, slot := 1, constantValue := 0 }, { name := "hash", type := .int, accessFlags := 2, slot := 2, constantValue := 0 }, { name := "hashIsZero", type := .boolean, accessFlags := 2, slot := 3, constantValue := 0 }, { name := "serialVersionUID", type := .long, accessFlags := 26, slot := 0, constantValue := 0 }, { name := "COMPACT_STRINGS", type := .boolean, accessFlags := 24, slot := 1, constantValue := 0 }, { name := "serialPersistentFields", type := (.array (.object "java/io/ObjectStreamField")), accessFlags := 26, slot := 2, constantValue := 0 }, { name := "REPL", type := .char, accessFlags := 26, slot := 3, constantValue := 0 }, { name := "CASE_INSENSITIVE_ORDER", type := (.object "java/util/Comparator"), accessFlags := 25, slot := 4, constantValue := 0 }, { name := "LATIN1", type := .byte, accessFlags := 24, slot := 5, constantValue := 0 }, { name := "UTF16", type := .byte, accessFlags := 24, slot := 6, constantValue := 0 }]
  methods := #[k7m0, k7m1, k7m2, k7m3]
  instanceTypes := #[(.array .byte), .byte, .int, .boolean]
  staticTypes := #[.long, .boolean, (.array (.object "java/io/ObjectStreamField")), .char, (.object "java/util/Comparator"), .byte, .byte]
  resolved := Array.replicate 1451 none
  statics := some 0 }

def pool8 : Array CpInfo := pool [(1, .class_ 2), (0, u "java/lang/String"), (1, .class_ 6), (1, u "java/lang/Object"), (0, u "<init>"), (0, u "()V"), (0, .methodref 1 10), (0, .nameAndType 11 12), (0, u "checkIndex"), (0, u "(II)V"), (1, .class_ 16), (1, u "java/lang/StringLatin1"), (36, u "([BI)C"), (67, u "$assertionsDisabled"), (0, u "Z"), (98, .class_ 223), (1, u "java/lang/StringLatin1$LinesSpliterator"), (28, u "charAt"), (137, .class_ 391), (0, u "java/lang/StringLatin1$CharsSpliterator")] 3

def k8m0 : Method := { name := "<init>", desc := "()V", sig := { parameters := [], returnType := none }, accessFlags := 0, code := none }
def k8c1 : Code := { maxStack := 2, maxLocals := 2, code := jdk_43_method_2_code, exceptionTable := #[], attributes := #[] }
def k8m1 : Method := { name := "charAt", desc := "([BI)C", sig := { parameters := [(.array .byte), .int], returnType := some .char }, accessFlags := 9, code := some k8c1 }
/-- java/lang/StringLatin1 -/
def k8 : Class := { plain "java/lang/StringLatin1" (some 0) with
  accessFlags := 48
  interfaces := #[]
  cf := some (fileOf pool8 14 #[.nestMembers #[390, 221]] #[{ accessFlags := 0, nameIndex := 7, descriptorIndex := 8, attributes := #[] }, { accessFlags := 9, nameIndex := 252, descriptorIndex := 53, attributes := #[] }] 48 4 #[] #[{ accessFlags := 4120, nameIndex := 121, descriptorIndex := 122, attributes := #[] }])
  fields := #[{ name := "$assertionsDisabled", type := .boolean, accessFlags := 4120, slot := 0, constantValue := 0 }]
  methods := #[k8m0, k8m1]
  instanceTypes := #[]
  staticTypes := #[.boolean]
  resolved := Array.replicate 395 none
  statics := none }

def pool9 : Array CpInfo := pool [(2, .class_ 4), (1, u "java/lang/Object"), (0, u "<init>"), (0, u "()V"), (17, .class_ 26), (1, u "jdk/internal/util/Preconditions"), (6, u "checkIndex"), (21, .class_ 56), (0, u "jdk/internal/util/Preconditions$4"), (57, .class_ 115), (0, u "jdk/internal/util/Preconditions$1"), (7, u "SIOOBE_FORMATTER"), (0, u "Ljava/util/function/BiFunction;"), (0, .class_ 126), (0, u "jdk/internal/util/Preconditions$2"), (3, u "AIOOBE_FORMATTER"), (0, .class_ 132), (0, u "jdk/internal/util/Preconditions$3"), (3, u "IOOBE_FORMATTER"), (41, u "(IILjava/util/function/BiFunction;)I")] 15

def k9m0 : Method := { name := "<init>", desc := "()V", sig := { parameters := [], returnType := none }, accessFlags := 1, code := none }
def k9c1 : Code := { maxStack := 3, maxLocals := 3, code := jdk_41_method_11_code, exceptionTable := #[], attributes := #[] }
def k9m1 : Method := { name := "checkIndex", desc := "(IILjava/util/function/BiFunction;)I", sig := { parameters := [.int, .int, (.object "java/util/function/BiFunction")], returnType := some .int }, accessFlags := 9, code := some k9c1 }
/-- jdk/internal/util/Preconditions -/
def k9 : Class := { plain "jdk/internal/util/Preconditions" (some 0) with
  accessFlags := 33
  interfaces := #[]
  cf := some (fileOf pool9 24 #[.nestMembers #[55, 131, 125, 114]] #[{ accessFlags := 1, nameIndex := 5, descriptorIndex := 6, attributes := #[] }, { accessFlags := 9, nameIndex := 33, descriptorIndex := 178, attributes := #[] }] 33 2 #[] #[{ accessFlags := 25, nameIndex := 123, descriptorIndex := 124, attributes := #[] }, { accessFlags := 25, nameIndex := 130, descriptorIndex := 124, attributes := #[] }, { accessFlags := 25, nameIndex := 136, descriptorIndex := 124, attributes := #[] }])
  fields := #[{ name := "SIOOBE_FORMATTER", type := (.object "java/util/function/BiFunction"), accessFlags := 25, slot := 0, constantValue := 0 }, { name := "AIOOBE_FORMATTER", type := (.object "java/util/function/BiFunction"), accessFlags := 25, slot := 1, constantValue := 0 }, { name := "IOOBE_FORMATTER", type := (.object "java/util/function/BiFunction"), accessFlags := 25, slot := 2, constantValue := 0 }]
  methods := #[k9m0, k9m1]
  instanceTypes := #[]
  staticTypes := #[(.object "java/util/function/BiFunction"), (.object "java/util/function/BiFunction"), (.object "java/util/function/BiFunction")]
  resolved := Array.replicate 194 none
  statics := some 1 }

def pool10 : Array CpInfo := pool [(2, .class_ 4), (1, u "java/lang/Object"), (0, u "<init>"), (0, u "()V"), (18, .class_ 27), (1, u "com/example/kavsak/kavsak/HttpSyntax"), (17, u "TOKEN_CHARS"), (0, u "[Z"), (2, u "AUTHORITY_CHARS"), (42, u "FULL_WEIGHT"), (0, u "I"), (2, u "MAX_LABEL_LENGTH"), (14, u "hexValue"), (0, u "(C)I")] 5

def k10m0 : Method := { name := "<init>", desc := "()V", sig := { parameters := [], returnType := none }, accessFlags := 2, code := none }
def k10c1 : Code := { maxStack := 2, maxLocals := 1, code := prog_18_method_14_code, exceptionTable := #[], attributes := #[] }
def k10m1 : Method := { name := "hexValue", desc := "(C)I", sig := { parameters := [.char], returnType := some .int }, accessFlags := 8, code := some k10c1 }
/-- com/example/kavsak/kavsak/HttpSyntax -/
def k10 : Class := { plain "com/example/kavsak/kavsak/HttpSyntax" (some 0) with
  accessFlags := 48
  interfaces := #[]
  cf := some (fileOf pool10 25 #[] #[{ accessFlags := 2, nameIndex := 5, descriptorIndex := 6, attributes := #[] }, { accessFlags := 8, nameIndex := 111, descriptorIndex := 112, attributes := #[] }] 48 2 #[] #[{ accessFlags := 24, nameIndex := 92, descriptorIndex := 93, attributes := #[] }, { accessFlags := 26, nameIndex := 96, descriptorIndex := 93, attributes := #[] }, { accessFlags := 26, nameIndex := 45, descriptorIndex := 46, attributes := #[] }, { accessFlags := 26, nameIndex := 49, descriptorIndex := 46, attributes := #[] }])
  fields := #[{ name := "FULL_WEIGHT", type := .int, accessFlags := 24, slot := 0, constantValue := 0 }, { name := "MAX_LABEL_LENGTH", type := .int, accessFlags := 26, slot := 1, constantValue := 0 }, { name := "TOKEN_CHARS", type := (.array .boolean), accessFlags := 26, slot := 2, constantValue := 0 }, { name := "AUTHORITY_CHARS", type := (.array .boolean), accessFlags := 26, slot := 3, constantValue := 0 }]
  methods := #[k10m0, k10m1]
  instanceTypes := #[]
  staticTypes := #[.int, .int, (.array .boolean), (.array .boolean)]
  resolved := Array.replicate 118 none
  statics := none }

def pool11 : Array CpInfo := pool [(9, u "<init>"), (6, .class_ 18), (1, u "java/lang/Object"), (0, u "()V"), (1, .class_ 23), (1, u "jdk/internal/util/ArraysSupport"), (0, u "LOG2_ARRAY_LONG_INDEX_SCALE"), (0, u "I"), (2, u "U"), (0, u "Ljdk/internal/misc/Unsafe;"), (8, u "BIG_ENDIAN"), (0, u "Z"), (8, u "LOG2_BYTE_BIT_SIZE"), (4, u "LOG2_ARRAY_INT_INDEX_SCALE"), (54, u "JLA"), (0, u "Ljdk/internal/access/JavaLangAccess;"), (11, u "LOG2_ARRAY_BOOLEAN_INDEX_SCALE"), (9, u "LOG2_ARRAY_BYTE_INDEX_SCALE"), (5, u "LOG2_ARRAY_CHAR_INDEX_SCALE"), (5, u "LOG2_ARRAY_SHORT_INDEX_SCALE"), (18, u "LOG2_ARRAY_FLOAT_INDEX_SCALE"), (24, u "LOG2_ARRAY_DOUBLE_INDEX_SCALE"), (89, u "T_BOOLEAN"), (2, u "T_CHAR"), (1, u "T_FLOAT"), (1, u "T_DOUBLE"), (1, u "T_BYTE"), (1, u "T_SHORT"), (1, u "T_INT"), (1, u "T_LONG"), (1, u "SOFT_MAX_ARRAY_LENGTH")] 83

def k11m0 : Method := { name := "<init>", desc := "()V", sig := { parameters := [], returnType := none }, accessFlags := 2, code := none }
/-- jdk/internal/util/ArraysSupport -/
def k11 : Class := { plain "jdk/internal/util/ArraysSupport" (some 0) with
  accessFlags := 33
  interfaces := #[]
  cf := some (fileOf pool11 21 #[] #[{ accessFlags := 2, nameIndex := 9, descriptorIndex := 19, attributes := #[] }] 33 16 #[] #[{ accessFlags := 24, nameIndex := 28, descriptorIndex := 29, attributes := #[] }, { accessFlags := 26, nameIndex := 38, descriptorIndex := 39, attributes := #[] }, { accessFlags := 25, nameIndex := 121, descriptorIndex := 25, attributes := #[] }, { accessFlags := 25, nameIndex := 131, descriptorIndex := 25, attributes := #[] }, { accessFlags := 25, nameIndex := 137, descriptorIndex := 25, attributes := #[] }, { accessFlags := 25, nameIndex := 143, descriptorIndex := 25, attributes := #[] }, { accessFlags := 25, nameIndex := 53, descriptorIndex := 25, attributes := #[] }, { accessFlags := 25, nameIndex := 24, descriptorIndex := 25, attributes := #[] }, { accessFlags := 25, nameIndex := 162, descriptorIndex := 25, attributes := #[] }, { accessFlags := 25, nameIndex := 187, descriptorIndex := 25, attributes := #[] }, { accessFlags := 26, nameIndex := 48, descriptorIndex := 25, attributes := #[] }, { accessFlags := 25, nameIndex := 277, descriptorIndex := 25, attributes := #[] }, { accessFlags := 25, nameIndex := 280, descriptorIndex := 25, attributes := #[] }, { accessFlags := 25, nameIndex := 282, descriptorIndex := 25, attributes := #[] }, { accessFlags := 25, nameIndex := 284, descriptorIndex := 25, attributes := #[] }, { accessFlags := 25, nameIndex := 286, descriptorIndex := 25, attributes := #[] }, { accessFlags := 25, nameIndex := 288, descriptorIndex := 25, attributes := #[] }, { accessFlags := 25, nameIndex := 290, descriptorIndex := 25, attributes := #[] }, { accessFlags := 25, nameIndex := 292, descriptorIndex := 25, attributes := #[] }, { accessFlags := 26, nameIndex := 108, descriptorIndex := 109, attributes := #[] }, { accessFlags := 25, nameIndex := 294, descriptorIndex := 25, attributes := #[] }])
  fields := #[{ name := "U", type := (.object "jdk/internal/misc/Unsafe"), accessFlags := 24, slot := 0, constantValue := 0 }, { name := "BIG_ENDIAN", type := .boolean, accessFlags := 26, slot := 1, constantValue := 0 }, { name := "LOG2_ARRAY_BOOLEAN_INDEX_SCALE", type := .int, accessFlags := 25, slot := 2, constantValue := 0 }, { name := "LOG2_ARRAY_BYTE_INDEX_SCALE", type := .int, accessFlags := 25, slot := 3, constantValue := 0 }, { name := "LOG2_ARRAY_CHAR_INDEX_SCALE", type := .int, accessFlags := 25, slot := 4, constantValue := 0 }, { name := "LOG2_ARRAY_SHORT_INDEX_SCALE", type := .int, accessFlags := 25, slot := 5, constantValue := 0 }, { name := "LOG2_ARRAY_INT_INDEX_SCALE", type := .int, accessFlags := 25, slot := 6, constantValue := 0 }, { name := "LOG2_ARRAY_LONG_INDEX_SCALE", type := .int, accessFlags := 25, slot := 7, constantValue := 0 }, { name := "LOG2_ARRAY_FLOAT_INDEX_SCALE", type := .int, accessFlags := 25, slot := 8, constantValue := 0 }, { name := "LOG2_ARRAY_DOUBLE_INDEX_SCALE", type := .int, accessFlags := 25, slot := 9, constantValue := 0 }, { name := "LOG2_BYTE_BIT_SIZE", type := .int, accessFlags := 26, slot := 10, constantValue := 0 }, { name := "T_BOOLEAN", type := .int, accessFlags := 25, slot := 11, constantValue := 0 }, { name := "T_CHAR", type := .int, accessFlags := 25, slot := 12, constantValue := 0 }, { name := "T_FLOAT", type := .int, accessFlags := 25, slot := 13, constantValue := 0 }, { name := "T_DOUBLE", type := .int, accessFlags := 25, slot := 14, constantValue := 0 }, { name := "T_BYTE", type := .int, accessFlags := 25, slot := 15, constantValue := 0 }, { name := "T_SHORT", type := .int, accessFlags := 25, slot := 16, constantValue := 0 }, { name := "T_INT", type := .int, accessFlags := 25, slot := 17, constantValue := 0 }, { name := "T_LONG", type := .int, accessFlags := 25, slot := 18, constantValue := 0 }, { name := "JLA", type := (.object "jdk/internal/access/JavaLangAccess"), accessFlags := 26, slot := 19, constantValue := 0 }, { name := "SOFT_MAX_ARRAY_LENGTH", type := .int, accessFlags := 25, slot := 20, constantValue := 0 }]
  methods := #[k11m0]
  instanceTypes := #[]
  staticTypes := #[(.object "jdk/internal/misc/Unsafe"), .boolean, .int, .int, .int, .int, .int, .int, .int, .int, .int, .int, .int, .int, .int, .int, .int, .int, .int, (.object "jdk/internal/access/JavaLangAccess"), .int]
  resolved := Array.replicate 378 none
  statics := none }

def pool12 : Array CpInfo := pool [(1, u "java/lang/Cloneable"), (0, .class_ 1), (0, u "java/lang/Object"), (0, .class_ 3)] 3

/-- java/lang/Cloneable -/
def k12 : Class := { plain "java/lang/Cloneable" (some 0) with
  accessFlags := 1537
  interfaces := #[]
  cf := some (fileOf pool12 2 #[] #[] 1537 4 #[] #[])
  fields := #[]
  methods := #[]
  instanceTypes := #[]
  staticTypes := #[]
  resolved := Array.replicate 8 none
  statics := none }

/-- the primitive byte -/
def k13 : Class := { plain "byte" none with kind := .primitive 'B', accessFlags := 0x411 }
/-- [B -/
def k14 : Class := { plain "[B" (some 0) with kind := .array 13 .byte, interfaces := #[12, 2], accessFlags := 1041 }

/-- the primitive int -/
def k15 : Class := { plain "int" none with kind := .primitive 'I', accessFlags := 0x411 }
/-- [I -/
def k16 : Class := { plain "[I" (some 0) with kind := .array 15 .int, interfaces := #[12, 2], accessFlags := 1041 }

def heap : Heap := #[{ cls := 7, slots := #[.long 0, .int 1, .null, .int 0, .null, .int 0, .int 0], vm := .statics 7 },
  { cls := 9, slots := #[.null, .null, .null], vm := .statics 9 }]
def classes : Array Class := #[k0, k1, k2, k3, k4, k5, k6, k7, k8, k9, k10, k11, k12, k13, k14, k15, k16]
def interned : List (Array UInt16 × Addr) := []
def slotsUsed : Nat := 10
def theMethod : MethodId := ⟨1, 1⟩
def args0 : Array Value := #[.int 5, .int 7]
def aboutOver (below : List Frame) : State where
  vm := { classes := classes, interned := interned.toArray }
  heap := heap
  slotsUsed := slotsUsed
  threads := #[{ frames := .invoking theMethod args0 :: below }]
def below0 : List Frame := [.native { method := ⟨0, 0⟩, args := #[] }]
def about1 : State := aboutOver below0
def p0 : Program := .bare "" "" ""
def e0 : Env := launch0.env 0 0 0
theorem w_frames : about1.frames = Frame.invoking theMethod args0 :: below0 := rfl
set_option maxRecDepth 65536 in
theorem w_args : argsFit about1.vm theMethod args0 = true := by decide +kernel
set_option maxRecDepth 65536 in
theorem w_heap : heapFits about1 = true := by decide +kernel
set_option maxRecDepth 65536 in
theorem w_runnable : about1.curStatus? = some .runnable := by decide +kernel
set_option maxRecDepth 65536 in
theorem w_alone : about1.alone = true := by decide +kernel
set_option maxRecDepth 65536 in
theorem w_named : about1.methodNamed? x = some theMethod := by decide +kernel
set_option maxRecDepth 65536 in
theorem w_hears : about1.hears theMethod below0 = true := by decide +kernel
set_option maxRecDepth 65536 in
theorem w_ripe : about1.ripe theMethod args0 below0 = true := by decide +kernel
theorem w_running : about1.status = .running := rfl
set_option maxRecDepth 65536 in
theorem w_room : about1.hasRoom e0.platform room_1 = true :=
  launch0.hasRoom_least _ room_1 (by decide +kernel) (by decide +kernel) (by decide +kernel) (by decide +kernel) (by decide +kernel) (by decide +kernel)
theorem allAtoms_all (ts : List Jvm.Cond) (a : Array Jvm.Value) (st : Jvm.State) : (allAtoms ts).before a st = ts.all (fun c => c.before a st) := by
  induction ts with
  | nil => rfl
  | cons c t ih =>
    show (Jvm.Cond.and c (allAtoms t)).before a st = _
    rw [Jvm.Cond.before_and, ih, List.all_cons]
def words1 : List Jvm.Cond := Jvm.Cond.code x code maxLocals ret :: tables_1
/-- a 'code' word, met by the world's own term for the bytes: nothing is compared byte by byte -/
theorem code_word {y : MethodName} {bytes : ByteArray} {mx : Nat} {rt : Option FieldType} {a : Array Value} {s : State} {m : MethodId} {meth : Method} {c : Code} (h1 : s.methodNamed? y = some m) (h2 : s.vm.method? m = some meth) (h3 : meth.code = some c) (h4 : c.code = bytes)
    (h5 : (c.maxLocals == mx && c.exceptionTable.isEmpty && decide (c.maxStack ≤ mostOperands) && decide (meth.sig.returnType = rt) && !meth.locks && decide (parseMethodDescriptor y.desc = some meth.sig)) = true) : (Jvm.Cond.code y bytes mx rt).before a s = true := by
  simp only [Bool.and_eq_true, beq_iff_eq, Bool.not_eq_true', decide_eq_true_eq] at h5
  obtain ⟨⟨⟨⟨⟨g1, g2⟩, g3⟩, g4⟩, g5⟩, g6⟩ := h5
  simp [Cond.before, Cond.holds, Cond.value, h1, h2, h3, h4, g1, g2, g3, g4, g5, g6]
def isCode : Jvm.Cond → Bool
  | .code _ _ _ _ => true
  | _ => false
theorem all_split {L : List Jvm.Cond} {P : Jvm.Cond → Bool} (h1 : L.all (fun c => isCode c || P c) = true) (h2 : ∀ c ∈ L.filter isCode, P c = true) : L.all P = true := by
  refine List.all_eq_true.mpr fun c hc => ?_
  have h := List.all_eq_true.mp h1 c hc
  rcases Bool.eq_false_or_eq_true (isCode c) with hi | hi
  · exact h2 c (List.mem_filter.mpr ⟨hc, hi⟩)
  · simpa [hi] using h
set_option maxRecDepth 65536 in
theorem w_c0 : (Jvm.Cond.code x code maxLocals ret).before args0 about1 = true := code_word (m := ⟨1, 1⟩) (meth := k1m1) (c := k1c1) (by decide +kernel) rfl rfl rfl (by decide +kernel)
set_option maxRecDepth 65536 in
theorem w_c1 : (Jvm.Cond.code ({ cls := "java/lang/String", name := "charAt", desc := "(I)C" } : Jvm.MethodName) jdk_42_method_56_code (2 : Nat) (Option.some Jvm.ClassFile.FieldType.char)).before args0 about1 = true := code_word (m := ⟨7, 1⟩) (meth := k7m1) (c := k7c1) (by decide +kernel) rfl rfl rfl (by decide +kernel)
set_option maxRecDepth 65536 in
theorem w_c2 : (Jvm.Cond.code ({ cls := "java/lang/String", name := "isLatin1", desc := "()Z" } : Jvm.MethodName) jdk_42_method_154_code (1 : Nat) (Option.some Jvm.ClassFile.FieldType.boolean)).before args0 about1 = true := code_word (m := ⟨7, 2⟩) (meth := k7m2) (c := k7c2) (by decide +kernel) rfl rfl rfl (by decide +kernel)
set_option maxRecDepth 65536 in
theorem w_c3 : (Jvm.Cond.code ({ cls := "java/lang/StringLatin1", name := "charAt", desc := "([BI)C" } : Jvm.MethodName) jdk_43_method_2_code (2 : Nat) (Option.some Jvm.ClassFile.FieldType.char)).before args0 about1 = true := code_word (m := ⟨8, 1⟩) (meth := k8m1) (c := k8c1) (by decide +kernel) rfl rfl rfl (by decide +kernel)
set_option maxRecDepth 65536 in
theorem w_c4 : (Jvm.Cond.code ({ cls := "java/lang/String", name := "checkIndex", desc := "(II)V" } : Jvm.MethodName) jdk_42_method_155_code (2 : Nat) (Option.none : Option Jvm.ClassFile.FieldType)).before args0 about1 = true := code_word (m := ⟨7, 3⟩) (meth := k7m3) (c := k7c3) (by decide +kernel) rfl rfl rfl (by decide +kernel)
set_option maxRecDepth 65536 in
theorem w_c5 : (Jvm.Cond.code ({ cls := "jdk/internal/util/Preconditions", name := "checkIndex", desc := "(IILjava/util/function/BiFunction;)I" } : Jvm.MethodName) jdk_41_method_11_code (3 : Nat) (Option.some Jvm.ClassFile.FieldType.int)).before args0 about1 = true := code_word (m := ⟨9, 1⟩) (meth := k9m1) (c := k9c1) (by decide +kernel) rfl rfl rfl (by decide +kernel)
set_option maxRecDepth 65536 in
theorem w_c6 : (Jvm.Cond.code ({ cls := "com/example/kavsak/kavsak/HttpSyntax", name := "hexValue", desc := "(C)I" } : Jvm.MethodName) prog_18_method_14_code (1 : Nat) (Option.some Jvm.ClassFile.FieldType.int)).before args0 about1 = true := code_word (m := ⟨10, 1⟩) (meth := k10m1) (c := k10c1) (by decide +kernel) rfl rfl rfl (by decide +kernel)
def codes1 : List Jvm.Cond := [Jvm.Cond.code x code maxLocals ret, Jvm.Cond.code ({ cls := "java/lang/String", name := "charAt", desc := "(I)C" } : Jvm.MethodName) jdk_42_method_56_code (2 : Nat) (Option.some Jvm.ClassFile.FieldType.char), Jvm.Cond.code ({ cls := "java/lang/String", name := "isLatin1", desc := "()Z" } : Jvm.MethodName) jdk_42_method_154_code (1 : Nat) (Option.some Jvm.ClassFile.FieldType.boolean), Jvm.Cond.code ({ cls := "java/lang/StringLatin1", name := "charAt", desc := "([BI)C" } : Jvm.MethodName) jdk_43_method_2_code (2 : Nat) (Option.some Jvm.ClassFile.FieldType.char), Jvm.Cond.code ({ cls := "java/lang/String", name := "checkIndex", desc := "(II)V" } : Jvm.MethodName) jdk_42_method_155_code (2 : Nat) (Option.none : Option Jvm.ClassFile.FieldType), Jvm.Cond.code ({ cls := "jdk/internal/util/Preconditions", name := "checkIndex", desc := "(IILjava/util/function/BiFunction;)I" } : Jvm.MethodName) jdk_41_method_11_code (3 : Nat) (Option.some Jvm.ClassFile.FieldType.int), Jvm.Cond.code ({ cls := "com/example/kavsak/kavsak/HttpSyntax", name := "hexValue", desc := "(C)I" } : Jvm.MethodName) prog_18_method_14_code (1 : Nat) (Option.some Jvm.ClassFile.FieldType.int)]
set_option maxRecDepth 65536 in
theorem codes_eq : words1.filter isCode = codes1 := rfl
theorem w_codes : ∀ c ∈ words1.filter isCode, c.before args0 about1 = true := by
  rw [codes_eq]
  intro c hc
  simp only [codes1, List.mem_cons, List.not_mem_nil, or_false] at hc
  rcases hc with rfl | rfl | rfl | rfl | rfl | rfl | rfl
  · exact w_c0
  · exact w_c1
  · exact w_c2
  · exact w_c3
  · exact w_c4
  · exact w_c5
  · exact w_c6
set_option maxRecDepth 65536 in
theorem w_t1 : (words1.take 24).all (fun c => isCode c || c.before args0 about1) = true := by decide +kernel
set_option maxRecDepth 65536 in
theorem w_t2 : (words1.drop 24).all (fun c => isCode c || c.before args0 about1) = true := by decide +kernel
theorem w_tables : (allAtoms (Jvm.Cond.code x code maxLocals ret :: tables_1)).before args0 about1 = true := by
  rw [allAtoms_all]
  show words1.all (fun c => c.before args0 about1) = true
  refine all_split ?_ w_codes
  rw [← List.take_append_drop 24 words1, List.all_append, w_t1, w_t2]
  rfl
set_option maxRecDepth 65536 in
theorem w_rest : rest_1_c.before args0 about1 = true := by decide +kernel
set_option maxRecDepth 65536 in
theorem w_case : (Jvm.Cond.and given_1 narrow_1).before args0 about1 = true := by decide +kernel
set_option maxRecDepth 65536 in
theorem w_consts : constsHeld consts_1 about1 := Jvm.Lit.constsHeldB_iff.mp (by decide +kernel)
theorem w_applies : (headSpec (Jvm.Cond.code x code maxLocals ret :: tables_1) room_1).applies x e0.platform about1 = true :=
  (Spec.applies_iff w_frames).mpr ⟨w_running, w_runnable, w_alone, w_named, w_hears, w_ripe, w_room, w_tables⟩
theorem atStart : AtStart classFile x code maxLocals ret World_1 tables_1 room_1 Calls_1 rest_1 Pre_1 launch0 p0 e0 about1 theMethod args0 below0 :=
  ⟨lists_1, trivial, launch0.admits_env _ _ _, launch0.least_env, fairChoices_fair.cas, fairChoices_fair.clock, w_frames, w_args, w_heap, w_applies, ⟨w_consts, trivial⟩, w_rest, w_case⟩
end start1
theorem witness_1 : WitnessClaimed_1 := ⟨start1.p0, start1.e0, start1.about1, start1.theMethod, start1.args0, start1.below0, start1.atStart⟩
end Jvm.Pilot.@@N@@
