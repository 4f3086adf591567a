import JvmDerived
import JvmDerived.Pilot.@@N@@Statement
import JvmDerived.Pilot.@@N@@Code
set_option linter.unusedVariables false
set_option linter.unusedSimpArgs false
namespace Jvm.RoadKit
open Sem ClassFile Op Lib Jvm.Stand Jvm.Free Jvm.LawKit
section New
variable {p : Program} {l : Launch} {e : Env} {R : Room} {s : State} {m : MethodId} {args : Array Value} {below : List Frame} {meth : Method} {c : Code} {T : State} {locs : List Loc} {cells slots : Nat}
theorem retI (X : Stand p l e R s m args below meth c T locs cells slots) (hx : p.tables.exec = Jvm.exec) {pc : Nat} {Ls : Array Slot} {z : Int32} {rest : List Value} (hret : meth.sig.returnType = some .int) (hd : decode c.code pc = .ok (.ireturn, 1)) {fs : List Frame}
    (hl : ∀ (f : JFrame) (acts : List Action), f.method = m → f.locked = none → f.entered = [] → (doReturn e (T.setTop f) acts (some (.int z))).1 = T.setFrames fs) : Steps p.tables e below (T.setTop (mkF m pc Ls (.int z :: rest))) (T.setFrames fs) := by
  have hm' : T.vm.method? m = some meth := X.method'
  have hn : narrow .int (.int z) = .int z := rfl
  show Steps p.tables e below (T.setTop { method := m, pc := pc, locals := Ls, stack := _ :: rest, locked := none }) _
  jvm_step X.here [X.here.top, hx, hd, hm', hret, hn]
  first | (intro acts; rw [hl _ acts rfl rfl rfl]) | rw [hl _ _ rfl rfl rfl]
  exact Steps.refl _
end New
end Jvm.RoadKit
namespace Jvm.Pilot.@@N@@
open Jvm Jvm.ClassFile Sem Op Lib Jvm.Free Jvm.Stand Jvm.LawKit Jvm.RoadKit Bundle Jvm.Pilot.@@N@@.Jvm.D

def Rch (p : Program) (e : Env) (below : List Frame) (s : State) (C S : Nat) (st : State) (K : Option Value → Heap → List Loc → Prop) : Prop :=
  ∃ s₂ v L, Steps p.tables e below st s₂ ∧ s₂.status = .running ∧ Ended s₂ below (.returned v) ∧ K v s₂.heap L ∧ FrameEnd s (.returned v) s₂ L C S
section Own
variable {p : Program} {l : Launch} {e : Env} {R : Room} {s : State} {m : MethodId} {args : Array Value} {below : List Frame} {meth : Method} {c : Code} {T : State} {locs : List Loc} {cells slots C S : Nat} {K : Option Value → Heap → List Loc → Prop}
theorem Rch.step {st st' : State} (h : ∀ t, Steps p.tables e below st' t → Steps p.tables e below st t) (k : Rch p e below s C S st' K) : Rch p e below s C S st K := by
  obtain ⟨s₂, v, L, h1, h2⟩ := k
  exact ⟨s₂, v, L, h _ h1, h2⟩
theorem Rch.imp {st : State} {K' : Option Value → Heap → List Loc → Prop} (h : ∀ v hh L, K v hh L → K' v hh L) (k : Rch p e below s C S st K) : Rch p e below s C S st K' := by
  obtain ⟨s₂, v, L, h1, h2, h3, h4, h5⟩ := k
  exact ⟨s₂, v, L, h1, h2, h3, h _ _ _ h4, h5⟩
theorem Rch.retI (X : Stand p l e R s m args below meth c T locs cells slots) (hx : p.tables.exec = Jvm.exec) (hret : meth.sig.returnType = some .int) (hlk : meth.locks = false) {pc : Nat} {Ls : Array Slot} {z : Int32} {rest : List Value} (hd : decode c.code pc = .ok (.ireturn, 1)) (hC : cells ≤ C) (hS : slots ≤ S) (hK : K (some (.int z)) T.heap locs) :
    Rch p e below s C S (T.setTop (mkF m pc Ls (.int z :: rest))) K := by
  obtain ⟨fs, hr, hrun, hended, hW, hsame⟩ := X.leave (v := some (.int z)) (fun h => by rw [hret] at h; cases h) hlk
  exact ⟨_, _, _, Jvm.RoadKit.retI X hx hret hd hr, hrun, hended, hK, ⟨_, rfl⟩, hW, hsame.mono hC hS⟩
theorem Rch.retN (X : Stand p l e R s m args below meth c T locs cells slots) (hx : p.tables.exec = Jvm.exec) {t : FieldType} (hret : meth.sig.returnType = some t) (hlk : meth.locks = false) (ht : t = .boolean ∨ t = .byte ∨ t = .char ∨ t = .short) {pc : Nat} {Ls : Array Slot} {z : Int32} {rest : List Value} (hd : decode c.code pc = .ok (.ireturn, 1)) (hC : cells ≤ C) (hS : slots ≤ S) (hK : K (some (.int (nar t z))) T.heap locs) :
    Rch p e below s C S (T.setTop (mkF m pc Ls (.int z :: rest))) K := by
  obtain ⟨fs, hr, hrun, hended, hW, hsame⟩ := X.leave (v := some (.int (nar t z))) (fun h => by rw [hret] at h; cases h) hlk
  exact ⟨_, _, _, Jvm.RoadKit.retN X hx hret ht hd hr, hrun, hended, hK, ⟨_, rfl⟩, hW, hsame.mono hC hS⟩
theorem Rch.retJ (X : Stand p l e R s m args below meth c T locs cells slots) (hx : p.tables.exec = Jvm.exec) (hret : meth.sig.returnType = some .long) (hlk : meth.locks = false) {pc : Nat} {Ls : Array Slot} {z : Int64} (hd : decode c.code pc = .ok (.lreturn, 1)) (hC : cells ≤ C) (hS : slots ≤ S) (hK : K (some (.long z)) T.heap locs) :
    Rch p e below s C S (T.setTop (mkF m pc Ls [.long z])) K := by
  obtain ⟨fs, hr, hrun, hended, hW, hsame⟩ := X.leave (v := some (.long z)) (fun h => by rw [hret] at h; cases h) hlk
  exact ⟨_, _, _, X.lreturnOut hx hret hd hr, hrun, hended, hK, ⟨_, rfl⟩, hW, hsame.mono hC hS⟩
theorem Rch.retV (X : Stand p l e R s m args below meth c T locs cells slots) (hx : p.tables.exec = Jvm.exec) (hret : meth.sig.returnType = none) (hlk : meth.locks = false) {pc : Nat} {Ls : Array Slot} (hd : decode c.code pc = .ok (.return_, 1)) (hC : cells ≤ C) (hS : slots ≤ S) (hK : K none T.heap locs) :
    Rch p e below s C S (T.setTop (mkF m pc Ls [])) K := by
  obtain ⟨fs, hr, hrun, hended, hW, hsame⟩ := X.leave (v := none) (fun _ => rfl) hlk
  exact ⟨_, _, _, X.returnOut hx hret hd hr, hrun, hended, hK, ⟨_, rfl⟩, hW, hsame.mono hC hS⟩
end Own
def PI (z : Int32) (h0 : Heap) (n0 : Nat) : Option Value → Heap → List Loc → Prop := fun v h L => v = some (.int z) ∧ Fr n0 L ∧ h = h0
def PJ (z : Int64) (h0 : Heap) (n0 : Nat) : Option Value → Heap → List Loc → Prop := fun v h L => v = some (.long z) ∧ Fr n0 L ∧ h = h0
def Cx (R : Room) (bytes : ByteArray) (ml : Nat) (own : String) (rt : Option FieldType) (p : Program) (l : Launch) (e : Env) (s : State) (m : MethodId) (args : Array Value) (below : List Frame) (meth : Method) (c : Code) (T : State) (locs : List Loc) (cells slots : Nat) (Z : State) (a0 : Array Value) (h0 : Heap) (n0 : Nat) : Prop :=
  Stand p l e R s m args below meth c T locs cells slots ∧ p.tables.exec = Jvm.exec ∧ Z.Warmed39 s.vm ∧ (∀ d ∈ tables_1, d.before a0 Z = true) ∧ c.code = bytes ∧ c.maxLocals = ml ∧ s.vm.findClass own = some m.cls ∧ meth.sig.returnType = rt ∧ meth.locks = false ∧ T.heap = h0 ∧ n0 ≤ h0.size ∧ Fr n0 locs
/-! arrays by lists: the whole content, as plain values -/
def Ars {α : Type} (emb : α → Value) (dv : α) (ty : FieldType) (Z : State) (h : Heap) (a : Addr) (n : Int32) (ws : List α) : Prop := ws.length = n.toNatClampNeg ∧ ∃ k, Arv Z h a k ty n (ws.map emb) (emb dv)
abbrev ArJ (Z : State) (h : Heap) (a : Addr) (n : Int32) (ws : List Int64) : Prop := Ars Value.long (0 : Int64) .long Z h a n ws
abbrev ArI (Z : State) (h : Heap) (a : Addr) (n : Int32) (ws : List Int32) : Prop := Ars Value.int (0 : Int32) .int Z h a n ws
abbrev ArB (Z : State) (h : Heap) (a : Addr) (n : Int32) (ws : List Int32) : Prop := Ars Value.int (0 : Int32) .byte Z h a n ws
theorem own_getD {α : Type} (emb : α → Value) (dv : α) : ∀ (ws : List α) (i : Nat), (ws.map emb).getD i (emb dv) = emb (ws.getD i dv)
  | [], i => by simp
  | w :: ws, 0 => by simp
  | w :: ws, i + 1 => by simpa using own_getD emb dv ws i
theorem Ars.ext {α : Type} {emb : α → Value} {dv : α} {ty : FieldType} {Z : State} {h h' : Heap} {a : Addr} {n : Int32} {ws : List α} (V : Ars emb dv ty Z h a n ws) (E : Ext h h') : Ars emb dv ty Z h' a n ws := by
  obtain ⟨hl, k, A⟩ := V
  exact ⟨hl, k, A.ext E⟩
theorem Ars.other {α : Type} {emb : α → Value} {dv : α} {ty : FieldType} {Z : State} {h h' : Heap} {a b : Addr} {n : Int32} {ws : List α} {sl : Nat} {v : Value} (V : Ars emb dv ty Z h a n ws) (W : Wr h h' b sl v) (q : a ≠ b) : Ars emb dv ty Z h' a n ws := by
  obtain ⟨hl, k, A⟩ := V
  exact ⟨hl, k, A.other W q⟩
theorem Ars.keep {α : Type} {emb : α → Value} {dv : α} {ty : FieldType} {Z : State} {h h' : Heap} {a : Addr} {n : Int32} {ws : List α} {us : List Addr} (V : Ars emb dv ty Z h a n ws) (K : Keep h h' us) (q : a ∉ us) : Ars emb dv ty Z h' a n ws := by
  obtain ⟨hl, k, A⟩ := V
  exact ⟨hl, k, A.keep K q⟩
theorem Ars.lt {α : Type} {emb : α → Value} {dv : α} {ty : FieldType} {Z : State} {h : Heap} {a : Addr} {n : Int32} {ws : List α} (V : Ars emb dv ty Z h a n ws) : a < h.size := by
  obtain ⟨hl, k, A⟩ := V
  exact A.lt
theorem Ars.fresh {α : Type} {emb : α → Value} {dv : α} {ty : FieldType} {Z : State} {h : Heap} {a : Addr} {n : Int32} {k : ClassId} (hd : defaultValue ty = emb dv) (A : Arr Z h a (newA k ty n) ty) (q : ¬ n < 0) : Ars emb dv ty Z h a n (List.replicate n.toNatClampNeg dv) := by
  refine ⟨by simp, k, ?_⟩
  have F := Arv.new A q
  rw [hd] at F
  have G := F.pad (pad_rep [] (emb dv) n.toNatClampNeg)
  simpa using G
section OwnArr
variable {p : Program} {l : Launch} {e : Env} {R : Room} {s : State} {m : MethodId} {args : Array Value} {below : List Frame} {meth : Method} {c : Code} {T : State} {locs : List Loc} {cells slots : Nat} {Z : State} {h : Heap}
theorem own_lt {n j : Int32} {k : Nat} (hl : k = n.toNatClampNeg) (h0 : ¬ j < 0) (h1 : j < n) : j.toNatClampNeg < k := by
  rw [Int32.lt_iff_toInt_lt] at h0 h1
  simp only [Int32.reduceToInt] at h0
  rw [hl]
  show j.toInt.toNat < n.toInt.toNat
  omega
theorem lenA {α : Type} {emb : α → Value} {dv : α} {ty : FieldType} {a : Addr} {n : Int32} {ws : List α} (X : Stand p l e R s m args below meth c T locs cells slots) (hx : p.tables.exec = Jvm.exec) (hZ : Z.Warmed39 s.vm) (eT : T.heap = h) (V : Ars emb dv ty Z h a n ws)
    {g : JFrame} (hg : g.method = m) {rest : List Value} (hs : g.stack = .ref a :: rest) (hd : decode c.code g.pc = .ok (.arraylength, 1)) :
    ∀ target, Steps p.tables e below (T.setTop { g with pc := g.pc + 1, stack := .int n :: rest }) target → Steps p.tables e below (T.setTop g) target := by
  obtain ⟨hl, k, cl, Ar, -, S, q3, H, -⟩ := V
  intro target hr
  refine X.arraylength hx (by rw [eT]; exact Ar.1) (State.isArrayOf_alike hZ.alike Ar.2.1) hg hs hd target ?_
  rw [len_of S q3]
  exact hr
theorem ldJ {a : Addr} {n : Int32} {ws : List Int64} (X : Stand p l e R s m args below meth c T locs cells slots) (hx : p.tables.exec = Jvm.exec) (hZ : Z.Warmed39 s.vm) (eT : T.heap = h) (V : ArJ Z h a n ws) {j : Int32} (h0 : ¬ j < 0) (h1 : j < n)
    {g : JFrame} (hg : g.method = m) {rest : List Value} (hs : g.stack = .int j :: .ref a :: rest) (hd : decode c.code g.pc = .ok (.laload, 1)) :
    ∀ target, Steps p.tables e below (T.setTop { g with pc := g.pc + 1, stack := .long (ws.getD j.toNatClampNeg 0) :: rest }) target → Steps p.tables e below (T.setTop g) target := by
  obtain ⟨hl, k, cl, Ar, -, S, q3, H, -⟩ := V
  have hin := inb_of S ⟨h0, h1⟩
  exact X.laload hx (by rw [eT]; exact Ar.1) (State.isArrayOf_alike hZ.alike Ar.2.1) Ar.2.2 hin (H.at hin (own_getD Value.long 0 ws _)) hg hs hd
theorem ldI {a : Addr} {n : Int32} {ws : List Int32} (X : Stand p l e R s m args below meth c T locs cells slots) (hx : p.tables.exec = Jvm.exec) (hZ : Z.Warmed39 s.vm) (eT : T.heap = h) (V : ArI Z h a n ws) {j : Int32} (h0 : ¬ j < 0) (h1 : j < n)
    {g : JFrame} (hg : g.method = m) {rest : List Value} (hs : g.stack = .int j :: .ref a :: rest) (hd : decode c.code g.pc = .ok (.iaload, 1)) :
    ∀ target, Steps p.tables e below (T.setTop { g with pc := g.pc + 1, stack := .int (ws.getD j.toNatClampNeg 0) :: rest }) target → Steps p.tables e below (T.setTop g) target := by
  obtain ⟨hl, k, cl, Ar, -, S, q3, H, -⟩ := V
  have hin := inb_of S ⟨h0, h1⟩
  exact X.iaload hx (by rw [eT]; exact Ar.1) (State.isArrayOf_alike hZ.alike Ar.2.1) Ar.2.2 hin (H.at hin (own_getD Value.int 0 ws _)) hg hs hd
theorem ldB {a : Addr} {n : Int32} {ws : List Int32} (X : Stand p l e R s m args below meth c T locs cells slots) (hx : p.tables.exec = Jvm.exec) (hZ : Z.Warmed39 s.vm) (eT : T.heap = h) (V : ArB Z h a n ws) {j : Int32} (h0 : ¬ j < 0) (h1 : j < n)
    {g : JFrame} (hg : g.method = m) {rest : List Value} (hs : g.stack = .int j :: .ref a :: rest) (hd : decode c.code g.pc = .ok (.baload, 1)) :
    ∀ target, Steps p.tables e below (T.setTop { g with pc := g.pc + 1, stack := .int (ws.getD j.toNatClampNeg 0) :: rest }) target → Steps p.tables e below (T.setTop g) target := by
  obtain ⟨hl, k, cl, Ar, -, S, q3, H, -⟩ := V
  have hin := inb_of S ⟨h0, h1⟩
  exact X.baloadBytes hx (by rw [eT]; exact Ar.1) (State.isArrayOf_alike hZ.alike Ar.2.1) Ar.2.2 hin (H.at hin (own_getD Value.int 0 ws _)) hg hs hd
theorem putJ {a : Addr} {n : Int32} {ws : List Int64} (X : Stand p l e R s m args below meth c T locs cells slots) (hx : p.tables.exec = Jvm.exec) (hZ : Z.Warmed39 s.vm) (eT : T.heap = h) (V : ArJ Z h a n ws) {j : Int32} {x : Int64} (h0 : ¬ j < 0) (h1 : j < n)
    {g : JFrame} (hg : g.method = m) {rest : List Value} (hs : g.stack = .long x :: .int j :: .ref a :: rest) (hd : decode c.code g.pc = .ok (.lastore, 1)) :
    ∃ T' h', Stand p l e R s m args below meth c T' (locs ++ [⟨a, j.toNatClampNeg⟩]) cells slots ∧ T'.heap = h' ∧ Wr h h' a j.toNatClampNeg (.long x) ∧ ArJ Z h' a n (ws.set j.toNatClampNeg x) ∧ ∀ target, Steps p.tables e below (T'.setTop { g with pc := g.pc + 1, stack := rest }) target → Steps p.tables e below (T.setTop g) target := by
  obtain ⟨hl, k, cl, Ar, q1, S, q3, H, G⟩ := V
  have hin := inb_of S ⟨h0, h1⟩
  obtain ⟨T', h', X', e', W, st⟩ := stJ X hx hZ eT Ar hin hg hs hd
  have F := Arv.set Ar q1 S q3 H G rfl W _ rfl (by rw [List.length_map]; exact own_lt hl h0 h1)
  rw [← List.map_set] at F
  exact ⟨T', h', X', e', W, ⟨by rw [List.length_set]; exact hl, k, F⟩, st⟩
theorem putI {a : Addr} {n : Int32} {ws : List Int32} (X : Stand p l e R s m args below meth c T locs cells slots) (hx : p.tables.exec = Jvm.exec) (hZ : Z.Warmed39 s.vm) (eT : T.heap = h) (V : ArI Z h a n ws) {j : Int32} {x : Int32} (h0 : ¬ j < 0) (h1 : j < n)
    {g : JFrame} (hg : g.method = m) {rest : List Value} (hs : g.stack = .int x :: .int j :: .ref a :: rest) (hd : decode c.code g.pc = .ok (.iastore, 1)) :
    ∃ T' h', Stand p l e R s m args below meth c T' (locs ++ [⟨a, j.toNatClampNeg⟩]) cells slots ∧ T'.heap = h' ∧ Wr h h' a j.toNatClampNeg (.int x) ∧ ArI Z h' a n (ws.set j.toNatClampNeg x) ∧ ∀ target, Steps p.tables e below (T'.setTop { g with pc := g.pc + 1, stack := rest }) target → Steps p.tables e below (T.setTop g) target := by
  obtain ⟨hl, k, cl, Ar, q1, S, q3, H, G⟩ := V
  have hin := inb_of S ⟨h0, h1⟩
  obtain ⟨T', h', X', e', W, st⟩ := stI X hx hZ eT Ar hin hg hs hd
  have F := Arv.set Ar q1 S q3 H G rfl W _ rfl (by rw [List.length_map]; exact own_lt hl h0 h1)
  rw [← List.map_set] at F
  exact ⟨T', h', X', e', W, ⟨by rw [List.length_set]; exact hl, k, F⟩, st⟩
theorem putB {a : Addr} {n : Int32} {ws : List Int32} (X : Stand p l e R s m args below meth c T locs cells slots) (hx : p.tables.exec = Jvm.exec) (hZ : Z.Warmed39 s.vm) (eT : T.heap = h) (V : ArB Z h a n ws) {j : Int32} {x : Int32} (h0 : ¬ j < 0) (h1 : j < n)
    {g : JFrame} (hg : g.method = m) {rest : List Value} (hs : g.stack = .int x :: .int j :: .ref a :: rest) (hd : decode c.code g.pc = .ok (.bastore, 1)) :
    ∃ T' h', Stand p l e R s m args below meth c T' (locs ++ [⟨a, j.toNatClampNeg⟩]) cells slots ∧ T'.heap = h' ∧ Wr h h' a j.toNatClampNeg (.int (nar .byte x)) ∧ ArB Z h' a n (ws.set j.toNatClampNeg (nar .byte x)) ∧ ∀ target, Steps p.tables e below (T'.setTop { g with pc := g.pc + 1, stack := rest }) target → Steps p.tables e below (T.setTop g) target := by
  obtain ⟨hl, k, cl, Ar, q1, S, q3, H, G⟩ := V
  have hin := inb_of S ⟨h0, h1⟩
  obtain ⟨T', h', X', e', W, st⟩ := stB X hx hZ eT Ar hin hg hs hd
  have F := Arv.set Ar q1 S q3 H G (fits_nar_byte _) W _ rfl (by rw [List.length_map]; exact own_lt hl h0 h1)
  rw [← List.map_set] at F
  exact ⟨T', h', X', e', W, ⟨by rw [List.length_set]; exact hl, k, F⟩, st⟩
theorem own_up {cells' slots' : Nat} (X : Stand p l e R s m args below meth c T locs cells slots) (h1 : cells ≤ cells') (h2 : slots ≤ slots') : Stand p l e R s m args below meth c T locs cells' slots' :=
  { X with same := X.same.mono h1 h2 }
end OwnArr
def PL (z : Int32) (n0 : Nat) : Option Value → Heap → List Loc → Prop := fun v h L => v = some (.int z) ∧ Fr n0 L
theorem own_e (k : Int32) : ¬ ((k &&& (2147483647 : Int32)) - ((k &&& (2147483647 : Int32)) / (19 : Int32)) * (19 : Int32)) < 0 ∧ ((k &&& (2147483647 : Int32)) - ((k &&& (2147483647 : Int32)) / (19 : Int32)) * (19 : Int32)) < (19 : Int32) := by
  rw [irem_eq_mod]
  have m := c_mask k 2147483647 31 (by decide) (by decide)
  have r := (c_irem (k &&& 2147483647) 19 19 rfl).1 (by omega)
  rw [Int32.lt_iff_toInt_lt, Int32.lt_iff_toInt_lt]
  simp only [Int32.reduceToInt]
  omega
-- body 1
theorem d1_0 : decode prog_48_method_34_code 0 = .ok (.lload_n 0, 1) := by decide +kernel
theorem d1_1 : decode prog_48_method_34_code 1 = .ok (.lconst 0, 1) := by decide +kernel
theorem d1_2 : decode prog_48_method_34_code 2 = .ok (.lcmp, 1) := by decide +kernel
theorem d1_3 : decode prog_48_method_34_code 3 = .ok (.ifCond .ge 7, 3) := by decide +kernel
theorem d1_6 : decode prog_48_method_34_code 6 = .ok (.lload_n 0, 1) := by decide +kernel
theorem d1_7 : decode prog_48_method_34_code 7 = .ok (.goto 5, 3) := by decide +kernel
theorem d1_10 : decode prog_48_method_34_code 10 = .ok (.lload_n 0, 1) := by decide +kernel
theorem d1_11 : decode prog_48_method_34_code 11 = .ok (.lneg, 1) := by decide +kernel
theorem d1_12 : decode prog_48_method_34_code 12 = .ok (.lstore_n 2, 1) := by decide +kernel
theorem d1_13 : decode prog_48_method_34_code 13 = .ok (.iconst 1, 1) := by decide +kernel
theorem d1_14 : decode prog_48_method_34_code 14 = .ok (.istore 4, 2) := by decide +kernel
theorem d1_16 : decode prog_48_method_34_code 16 = .ok (.ldc2_w 342, 3) := by decide +kernel
theorem d1_19 : decode prog_48_method_34_code 19 = .ok (.lstore 5, 2) := by decide +kernel
theorem d1_21 : decode prog_48_method_34_code 21 = .ok (.iload 4, 2) := by decide +kernel
theorem d1_23 : decode prog_48_method_34_code 23 = .ok (.bipush 19, 2) := by decide +kernel
theorem d1_25 : decode prog_48_method_34_code 25 = .ok (.if_icmp .ge 24, 3) := by decide +kernel
theorem d1_28 : decode prog_48_method_34_code 28 = .ok (.lload_n 2, 1) := by decide +kernel
theorem d1_29 : decode prog_48_method_34_code 29 = .ok (.lload 5, 2) := by decide +kernel
theorem d1_31 : decode prog_48_method_34_code 31 = .ok (.lcmp, 1) := by decide +kernel
theorem d1_32 : decode prog_48_method_34_code 32 = .ok (.ifCond .gt 17, 3) := by decide +kernel
theorem d1_35 : decode prog_48_method_34_code 35 = .ok (.iinc 4 1, 3) := by decide +kernel
theorem d1_38 : decode prog_48_method_34_code 38 = .ok (.lload 5, 2) := by decide +kernel
theorem d1_40 : decode prog_48_method_34_code 40 = .ok (.ldc2_w 344, 3) := by decide +kernel
theorem d1_43 : decode prog_48_method_34_code 43 = .ok (.lmul, 1) := by decide +kernel
theorem d1_44 : decode prog_48_method_34_code 44 = .ok (.lstore 5, 2) := by decide +kernel
theorem d1_46 : decode prog_48_method_34_code 46 = .ok (.goto (-25), 3) := by decide +kernel
theorem d1_49 : decode prog_48_method_34_code 49 = .ok (.lload_n 0, 1) := by decide +kernel
theorem d1_50 : decode prog_48_method_34_code 50 = .ok (.lconst 0, 1) := by decide +kernel
theorem d1_51 : decode prog_48_method_34_code 51 = .ok (.lcmp, 1) := by decide +kernel
theorem d1_52 : decode prog_48_method_34_code 52 = .ok (.ifCond .ge 10, 3) := by decide +kernel
theorem d1_55 : decode prog_48_method_34_code 55 = .ok (.iload 4, 2) := by decide +kernel
theorem d1_57 : decode prog_48_method_34_code 57 = .ok (.iconst 1, 1) := by decide +kernel
theorem d1_58 : decode prog_48_method_34_code 58 = .ok (.iadd, 1) := by decide +kernel
theorem d1_59 : decode prog_48_method_34_code 59 = .ok (.goto 5, 3) := by decide +kernel
theorem d1_62 : decode prog_48_method_34_code 62 = .ok (.iload 4, 2) := by decide +kernel
theorem d1_64 : decode prog_48_method_34_code 64 = .ok (.ireturn, 1) := by decide +kernel
theorem pn1 : plainName "org/lodestream/io/LineWriter" = true := by first | (simp [plainName, overriddenIn]; done) | decide +kernel
theorem pd1 : parseMethodDescriptor "(J)I" = some ⟨[.long], some .int⟩ := by decide +kernel
def f1_49 (vj0 : Int64) (vi4 : Int32) : Int32 := (if vj0 < (0 : Int64) then (vi4 + (1 : Int32)) else vi4)
def f1_12 (vj0 : Int64) (sj0 : Int64) : Int32 := (if (-10 : Int64) < sj0 then (f1_49 vj0 (1 : Int32)) else (if (-100 : Int64) < sj0 then (f1_49 vj0 (2 : Int32)) else (if (-1000 : Int64) < sj0 then (f1_49 vj0 (3 : Int32)) else (if (-10000 : Int64) < sj0 then (f1_49 vj0 (4 : Int32)) else (if (-100000 : Int64) < sj0 then (f1_49 vj0 (5 : Int32)) else (if (-1000000 : Int64) < sj0 then (f1_49 vj0 (6 : Int32)) else (if (-10000000 : Int64) < sj0 then (f1_49 vj0 (7 : Int32)) else (if (-100000000 : Int64) < sj0 then (f1_49 vj0 (8 : Int32)) else (if (-1000000000 : Int64) < sj0 then (f1_49 vj0 (9 : Int32)) else (if (-10000000000 : Int64) < sj0 then (f1_49 vj0 (10 : Int32)) else (if (-100000000000 : Int64) < sj0 then (f1_49 vj0 (11 : Int32)) else (if (-1000000000000 : Int64) < sj0 then (f1_49 vj0 (12 : Int32)) else (if (-10000000000000 : Int64) < sj0 then (f1_49 vj0 (13 : Int32)) else (if (-100000000000000 : Int64) < sj0 then (f1_49 vj0 (14 : Int32)) else (if (-1000000000000000 : Int64) < sj0 then (f1_49 vj0 (15 : Int32)) else (if (-10000000000000000 : Int64) < sj0 then (f1_49 vj0 (16 : Int32)) else (if (-100000000000000000 : Int64) < sj0 then (f1_49 vj0 (17 : Int32)) else (if (-1000000000000000000 : Int64) < sj0 then (f1_49 vj0 (18 : Int32)) else (f1_49 vj0 (19 : Int32))))))))))))))))))))
def f1_0 (vj0 : Int64) : Int32 := (if vj0 < (0 : Int64) then (f1_12 vj0 vj0) else (f1_12 vj0 (-vj0)))
set_option maxRecDepth 65536 in
set_option maxHeartbeats 40000000 in
theorem b1_49 {p : Program} {l : Launch} {e : Env} {s : State} {m : MethodId} {args : Array Value} {below : List Frame} {meth : Method} {c : Code} {T : State} {locs : List Loc} {Z : State} {a0 : Array Value} {h0 : Heap} {n0 : Nat} (cx : Cx ({ frames := 0, cells := 0, slots := 0, locals := 0 } : Room) prog_48_method_34_code 7 "org/lodestream/io/LineWriter" (some .int) p l e s m args below meth c T locs 0 0 Z a0 h0 n0) (vj0 : Int64) (vj2 : Int64) (vi4 : Int32) (vj5 : Int64) :
    Rch p e below s 0 0 (T.setTop (mkF m 49 #[.val (.long vj0), .second, .val (.long vj2), .second, .val (.int vi4), .val (.long vj5), .second] [])) (PI (f1_49 vj0 vi4) h0 n0) := by
  obtain ⟨X0, hx, hZ, hw, hby, hml, hown, hret, hlk, e0, Z0, N0⟩ := cx
  unfold f1_49
  refine Rch.step (st' := T.setTop (mkF m 50 #[.val (.long vj0), .second, .val (.long vj2), .second, .val (.int vi4), .val (.long vj5), .second] [(.long vj0)])) (fun _ hr => XS.lloadN X0.here hx rfl (hb hby d1_49) rfl hr) ?_
  refine Rch.step (st' := T.setTop (mkF m 51 #[.val (.long vj0), .second, .val (.long vj2), .second, .val (.int vi4), .val (.long vj5), .second] [(.long (0 : Int64)), (.long vj0)])) (fun _ hr => XS.lconst X0.here hx rfl (hb hby d1_50) hr) ?_
  refine Rch.step (st' := T.setTop (mkF m 52 #[.val (.long vj0), .second, .val (.long vj2), .second, .val (.int vi4), .val (.long vj5), .second] [(.int (lcmpW vj0 (0 : Int64)))])) (fun _ hr => XS.lcmp X0.here hx rfl (hb hby d1_51) rfl hr) ?_
  by_cases hc1 : vj0 < (0 : Int64)
  · rw [if_pos hc1]
    refine Rch.step (st' := T.setTop (mkF m 55 #[.val (.long vj0), .second, .val (.long vj2), .second, .val (.int vi4), .val (.long vj5), .second] [])) (fun _ hr => XS.ifNo X0.here hx rfl (hb hby d1_52) rfl ((if0 _ _).trans (tlt ((lw_lt vj0 (0 : Int64)).mpr hc1)).2.1) hr) ?_
    refine Rch.step (st' := T.setTop (mkF m 57 #[.val (.long vj0), .second, .val (.long vj2), .second, .val (.int vi4), .val (.long vj5), .second] [(.int vi4)])) (fun _ hr => XS.iload X0.here hx rfl (hb hby d1_55) rfl hr) ?_
    refine Rch.step (st' := T.setTop (mkF m 58 #[.val (.long vj0), .second, .val (.long vj2), .second, .val (.int vi4), .val (.long vj5), .second] [(.int (1 : Int32)), (.int vi4)])) (fun _ hr => XS.iconst X0.here hx rfl (hb hby d1_57) hr) ?_
    refine Rch.step (st' := T.setTop (mkF m 59 #[.val (.long vj0), .second, .val (.long vj2), .second, .val (.int vi4), .val (.long vj5), .second] [(.int (vi4 + (1 : Int32)))])) (fun _ hr => XS.iadd X0.here hx rfl (hb hby d1_58) rfl hr) ?_
    refine Rch.step (st' := T.setTop (mkF m 64 #[.val (.long vj0), .second, .val (.long vj2), .second, .val (.int vi4), .val (.long vj5), .second] [(.int (vi4 + (1 : Int32)))])) (fun _ hr => XS.goto X0.here hx rfl (pc0 := 59) (pc' := 64) rfl (hb hby d1_59) (by decide) (by decide) hr) ?_
    exact Rch.retI X0 hx hret hlk (hb hby d1_64) (by decide) (by decide) ⟨rfl, N0, e0⟩
  · rw [if_neg hc1]
    refine Rch.step (st' := T.setTop (mkF m 62 #[.val (.long vj0), .second, .val (.long vj2), .second, .val (.int vi4), .val (.long vj5), .second] [])) (fun _ hr => XS.ifYes X0.here hx rfl (pc0 := 52) (pc' := 62) rfl (hb hby d1_52) rfl ((if0 _ _).trans (flt (fun q => hc1 ((lw_lt vj0 (0 : Int64)).mp q))).2.1) (by decide) (by decide) hr) ?_
    refine Rch.step (st' := T.setTop (mkF m 64 #[.val (.long vj0), .second, .val (.long vj2), .second, .val (.int vi4), .val (.long vj5), .second] [(.int vi4)])) (fun _ hr => XS.iload X0.here hx rfl (hb hby d1_62) rfl hr) ?_
    exact Rch.retI X0 hx hret hlk (hb hby d1_64) (by decide) (by decide) ⟨rfl, N0, e0⟩
set_option maxRecDepth 65536 in
set_option maxHeartbeats 40000000 in
theorem b1_12 {p : Program} {l : Launch} {e : Env} {s : State} {m : MethodId} {args : Array Value} {below : List Frame} {meth : Method} {c : Code} {T : State} {locs : List Loc} {Z : State} {a0 : Array Value} {h0 : Heap} {n0 : Nat} (cx : Cx ({ frames := 0, cells := 0, slots := 0, locals := 0 } : Room) prog_48_method_34_code 7 "org/lodestream/io/LineWriter" (some .int) p l e s m args below meth c T locs 0 0 Z a0 h0 n0) (vj0 : Int64) (sj0 : Int64) :
    Rch p e below s 0 0 (T.setTop (mkF m 12 #[.val (.long vj0), .second, .unset, .unset, .unset, .unset, .unset] [(.long sj0)])) (PI (f1_12 vj0 sj0) h0 n0) := by
  obtain ⟨X0, hx, hZ, hw, hby, hml, hown, hret, hlk, e0, Z0, N0⟩ := cx
  unfold f1_12
  refine Rch.step (st' := T.setTop (mkF m 13 #[.val (.long vj0), .second, .val (.long sj0), .second, .unset, .unset, .unset] [])) (fun _ hr => XS.lstoreN X0.here hx rfl (hb hby d1_12) rfl (l' := #[.val (.long vj0), .second, .val (.long sj0), .second, .unset, .unset, .unset]) rfl hr) ?_
  refine Rch.step (st' := T.setTop (mkF m 14 #[.val (.long vj0), .second, .val (.long sj0), .second, .unset, .unset, .unset] [(.int (1 : Int32))])) (fun _ hr => XS.iconst X0.here hx rfl (hb hby d1_13) hr) ?_
  refine Rch.step (st' := T.setTop (mkF m 16 #[.val (.long vj0), .second, .val (.long sj0), .second, .val (.int (1 : Int32)), .unset, .unset] [])) (fun _ hr => XS.istore X0.here hx rfl (hb hby d1_14) rfl (l' := #[.val (.long vj0), .second, .val (.long sj0), .second, .val (.int (1 : Int32)), .unset, .unset]) rfl hr) ?_
  refine Rch.step (st' := T.setTop (mkF m 19 #[.val (.long vj0), .second, .val (.long sj0), .second, .val (.int (1 : Int32)), .unset, .unset] [(.long (-10 : Int64))])) (fun _ hr => X0.ldc2Long hx hown (mvT hZ (hw _ (List.mem_of_getElem? (i := 25) rfl))) (g := (mkF m 16 #[.val (.long vj0), .second, .val (.long sj0), .second, .val (.int (1 : Int32)), .unset, .unset] [])) rfl (hb hby d1_16) _ hr) ?_
  refine Rch.step (st' := T.setTop (mkF m 21 #[.val (.long vj0), .second, .val (.long sj0), .second, .val (.int (1 : Int32)), .val (.long (-10 : Int64)), .second] [])) (fun _ hr => XS.lstore X0.here hx rfl (hb hby d1_19) rfl (l' := #[.val (.long vj0), .second, .val (.long sj0), .second, .val (.int (1 : Int32)), .val (.long (-10 : Int64)), .second]) rfl hr) ?_
  refine Rch.step (st' := T.setTop (mkF m 23 #[.val (.long vj0), .second, .val (.long sj0), .second, .val (.int (1 : Int32)), .val (.long (-10 : Int64)), .second] [(.int (1 : Int32))])) (fun _ hr => XS.iload X0.here hx rfl (hb hby d1_21) rfl hr) ?_
  refine Rch.step (st' := T.setTop (mkF m 25 #[.val (.long vj0), .second, .val (.long sj0), .second, .val (.int (1 : Int32)), .val (.long (-10 : Int64)), .second] [(.int (19 : Int32)), (.int (1 : Int32))])) (fun _ hr => XS.bipush X0.here hx rfl (hb hby d1_23) hr) ?_
  have hc1 : (1 : Int32) < (19 : Int32) := by decide
  refine Rch.step (st' := T.setTop (mkF m 28 #[.val (.long vj0), .second, .val (.long sj0), .second, .val (.int (1 : Int32)), .val (.long (-10 : Int64)), .second] [])) (fun _ hr => XS.icmpNo X0.here hx rfl (hb hby d1_25) rfl (tlt hc1).2.1 hr) ?_
  refine Rch.step (st' := T.setTop (mkF m 29 #[.val (.long vj0), .second, .val (.long sj0), .second, .val (.int (1 : Int32)), .val (.long (-10 : Int64)), .second] [(.long sj0)])) (fun _ hr => XS.lloadN X0.here hx rfl (hb hby d1_28) rfl hr) ?_
  refine Rch.step (st' := T.setTop (mkF m 31 #[.val (.long vj0), .second, .val (.long sj0), .second, .val (.int (1 : Int32)), .val (.long (-10 : Int64)), .second] [(.long (-10 : Int64)), (.long sj0)])) (fun _ hr => XS.lload X0.here hx rfl (hb hby d1_29) rfl hr) ?_
  refine Rch.step (st' := T.setTop (mkF m 32 #[.val (.long vj0), .second, .val (.long sj0), .second, .val (.int (1 : Int32)), .val (.long (-10 : Int64)), .second] [(.int (lcmpW sj0 (-10 : Int64)))])) (fun _ hr => XS.lcmp X0.here hx rfl (hb hby d1_31) rfl hr) ?_
  by_cases hc2 : (-10 : Int64) < sj0
  · rw [if_pos hc2]
    refine Rch.step (st' := T.setTop (mkF m 49 #[.val (.long vj0), .second, .val (.long sj0), .second, .val (.int (1 : Int32)), .val (.long (-10 : Int64)), .second] [])) (fun _ hr => XS.ifYes X0.here hx rfl (pc0 := 32) (pc' := 49) rfl (hb hby d1_32) rfl ((if0 _ _).trans (tlt ((lw_gt sj0 (-10 : Int64)).mpr hc2)).2.2.1) (by decide) (by decide) hr) ?_
    exact b1_49 ⟨X0, hx, hZ, hw, hby, hml, hown, hret, hlk, e0, Z0, N0⟩ vj0 sj0 (1 : Int32) (-10 : Int64)
  · rw [if_neg hc2]
    refine Rch.step (st' := T.setTop (mkF m 35 #[.val (.long vj0), .second, .val (.long sj0), .second, .val (.int (1 : Int32)), .val (.long (-10 : Int64)), .second] [])) (fun _ hr => XS.ifNo X0.here hx rfl (hb hby d1_32) rfl ((if0 _ _).trans (flt (fun q => hc2 ((lw_gt sj0 (-10 : Int64)).mp q))).2.2.1) hr) ?_
    refine Rch.step (st' := T.setTop (mkF m 38 #[.val (.long vj0), .second, .val (.long sj0), .second, .val (.int (2 : Int32)), .val (.long (-10 : Int64)), .second] [])) (fun _ hr => XS.iinc X0.here hx rfl (hb hby d1_35) rfl (l' := #[.val (.long vj0), .second, .val (.long sj0), .second, .val (.int (2 : Int32)), .val (.long (-10 : Int64)), .second]) rfl hr) ?_
    refine Rch.step (st' := T.setTop (mkF m 40 #[.val (.long vj0), .second, .val (.long sj0), .second, .val (.int (2 : Int32)), .val (.long (-10 : Int64)), .second] [(.long (-10 : Int64))])) (fun _ hr => XS.lload X0.here hx rfl (hb hby d1_38) rfl hr) ?_
    refine Rch.step (st' := T.setTop (mkF m 43 #[.val (.long vj0), .second, .val (.long sj0), .second, .val (.int (2 : Int32)), .val (.long (-10 : Int64)), .second] [(.long (10 : Int64)), (.long (-10 : Int64))])) (fun _ hr => X0.ldc2Long hx hown (mvT hZ (hw _ (List.mem_of_getElem? (i := 26) rfl))) (g := (mkF m 40 #[.val (.long vj0), .second, .val (.long sj0), .second, .val (.int (2 : Int32)), .val (.long (-10 : Int64)), .second] [(.long (-10 : Int64))])) rfl (hb hby d1_40) _ hr) ?_
    refine Rch.step (st' := T.setTop (mkF m 44 #[.val (.long vj0), .second, .val (.long sj0), .second, .val (.int (2 : Int32)), .val (.long (-10 : Int64)), .second] [(.long ((-10 : Int64) * (10 : Int64)))])) (fun _ hr => XS.lmul X0.here hx rfl (hb hby d1_43) rfl hr) ?_
    rw [show ((-10 : Int64) * (10 : Int64)) = (-100 : Int64) from by decide]
    refine Rch.step (st' := T.setTop (mkF m 46 #[.val (.long vj0), .second, .val (.long sj0), .second, .val (.int (2 : Int32)), .val (.long (-100 : Int64)), .second] [])) (fun _ hr => XS.lstore X0.here hx rfl (hb hby d1_44) rfl (l' := #[.val (.long vj0), .second, .val (.long sj0), .second, .val (.int (2 : Int32)), .val (.long (-100 : Int64)), .second]) rfl hr) ?_
    refine Rch.step (st' := T.setTop (mkF m 21 #[.val (.long vj0), .second, .val (.long sj0), .second, .val (.int (2 : Int32)), .val (.long (-100 : Int64)), .second] [])) (fun _ hr => XS.goto X0.here hx rfl (pc0 := 46) (pc' := 21) rfl (hb hby d1_46) (by decide) (by decide) hr) ?_
    refine Rch.step (st' := T.setTop (mkF m 23 #[.val (.long vj0), .second, .val (.long sj0), .second, .val (.int (2 : Int32)), .val (.long (-100 : Int64)), .second] [(.int (2 : Int32))])) (fun _ hr => XS.iload X0.here hx rfl (hb hby d1_21) rfl hr) ?_
    refine Rch.step (st' := T.setTop (mkF m 25 #[.val (.long vj0), .second, .val (.long sj0), .second, .val (.int (2 : Int32)), .val (.long (-100 : Int64)), .second] [(.int (19 : Int32)), (.int (2 : Int32))])) (fun _ hr => XS.bipush X0.here hx rfl (hb hby d1_23) hr) ?_
    have hc3 : (2 : Int32) < (19 : Int32) := by decide
    refine Rch.step (st' := T.setTop (mkF m 28 #[.val (.long vj0), .second, .val (.long sj0), .second, .val (.int (2 : Int32)), .val (.long (-100 : Int64)), .second] [])) (fun _ hr => XS.icmpNo X0.here hx rfl (hb hby d1_25) rfl (tlt hc3).2.1 hr) ?_
    refine Rch.step (st' := T.setTop (mkF m 29 #[.val (.long vj0), .second, .val (.long sj0), .second, .val (.int (2 : Int32)), .val (.long (-100 : Int64)), .second] [(.long sj0)])) (fun _ hr => XS.lloadN X0.here hx rfl (hb hby d1_28) rfl hr) ?_
    refine Rch.step (st' := T.setTop (mkF m 31 #[.val (.long vj0), .second, .val (.long sj0), .second, .val (.int (2 : Int32)), .val (.long (-100 : Int64)), .second] [(.long (-100 : Int64)), (.long sj0)])) (fun _ hr => XS.lload X0.here hx rfl (hb hby d1_29) rfl hr) ?_
    refine Rch.step (st' := T.setTop (mkF m 32 #[.val (.long vj0), .second, .val (.long sj0), .second, .val (.int (2 : Int32)), .val (.long (-100 : Int64)), .second] [(.int (lcmpW sj0 (-100 : Int64)))])) (fun _ hr => XS.lcmp X0.here hx rfl (hb hby d1_31) rfl hr) ?_
    by_cases hc4 : (-100 : Int64) < sj0
    · rw [if_pos hc4]
      refine Rch.step (st' := T.setTop (mkF m 49 #[.val (.long vj0), .second, .val (.long sj0), .second, .val (.int (2 : Int32)), .val (.long (-100 : Int64)), .second] [])) (fun _ hr => XS.ifYes X0.here hx rfl (pc0 := 32) (pc' := 49) rfl (hb hby d1_32) rfl ((if0 _ _).trans (tlt ((lw_gt sj0 (-100 : Int64)).mpr hc4)).2.2.1) (by decide) (by decide) hr) ?_
      exact b1_49 ⟨X0, hx, hZ, hw, hby, hml, hown, hret, hlk, e0, Z0, N0⟩ vj0 sj0 (2 : Int32) (-100 : Int64)
    · rw [if_neg hc4]
      refine Rch.step (st' := T.setTop (mkF m 35 #[.val (.long vj0), .second, .val (.long sj0), .second, .val (.int (2 : Int32)), .val (.long (-100 : Int64)), .second] [])) (fun _ hr => XS.ifNo X0.here hx rfl (hb hby d1_32) rfl ((if0 _ _).trans (flt (fun q => hc4 ((lw_gt sj0 (-100 : Int64)).mp q))).2.2.1) hr) ?_
      refine Rch.step (st' := T.setTop (mkF m 38 #[.val (.long vj0), .second, .val (.long sj0), .second, .val (.int (3 : Int32)), .val (.long (-100 : Int64)), .second] [])) (fun _ hr => XS.iinc X0.here hx rfl (hb hby d1_35) rfl (l' := #[.val (.long vj0), .second, .val (.long sj0), .second, .val (.int (3 : Int32)), .val (.long (-100 : Int64)), .second]) rfl hr) ?_
      refine Rch.step (st' := T.setTop (mkF m 40 #[.val (.long vj0), .second, .val (.long sj0), .second, .val (.int (3 : Int32)), .val (.long (-100 : Int64)), .second] [(.long (-100 : Int64))])) (fun _ hr => XS.lload X0.here hx rfl (hb hby d1_38) rfl hr) ?_
      refine Rch.step (st' := T.setTop (mkF m 43 #[.val (.long vj0), .second, .val (.long sj0), .second, .val (.int (3 : Int32)), .val (.long (-100 : Int64)), .second] [(.long (10 : Int64)), (.long (-100 : Int64))])) (fun _ hr => X0.ldc2Long hx hown (mvT hZ (hw _ (List.mem_of_getElem? (i := 26) rfl))) (g := (mkF m 40 #[.val (.long vj0), .second, .val (.long sj0), .second, .val (.int (3 : Int32)), .val (.long (-100 : Int64)), .second] [(.long (-100 : Int64))])) rfl (hb hby d1_40) _ hr) ?_
      refine Rch.step (st' := T.setTop (mkF m 44 #[.val (.long vj0), .second, .val (.long sj0), .second, .val (.int (3 : Int32)), .val (.long (-100 : Int64)), .second] [(.long ((-100 : Int64) * (10 : Int64)))])) (fun _ hr => XS.lmul X0.here hx rfl (hb hby d1_43) rfl hr) ?_
      rw [show ((-100 : Int64) * (10 : Int64)) = (-1000 : Int64) from by decide]
      refine Rch.step (st' := T.setTop (mkF m 46 #[.val (.long vj0), .second, .val (.long sj0), .second, .val (.int (3 : Int32)), .val (.long (-1000 : Int64)), .second] [])) (fun _ hr => XS.lstore X0.here hx rfl (hb hby d1_44) rfl (l' := #[.val (.long vj0), .second, .val (.long sj0), .second, .val (.int (3 : Int32)), .val (.long (-1000 : Int64)), .second]) rfl hr) ?_
      refine Rch.step (st' := T.setTop (mkF m 21 #[.val (.long vj0), .second, .val (.long sj0), .second, .val (.int (3 : Int32)), .val (.long (-1000 : Int64)), .second] [])) (fun _ hr => XS.goto X0.here hx rfl (pc0 := 46) (pc' := 21) rfl (hb hby d1_46) (by decide) (by decide) hr) ?_
      refine Rch.step (st' := T.setTop (mkF m 23 #[.val (.long vj0), .second, .val (.long sj0), .second, .val (.int (3 : Int32)), .val (.long (-1000 : Int64)), .second] [(.int (3 : Int32))])) (fun _ hr => XS.iload X0.here hx rfl (hb hby d1_21) rfl hr) ?_
      refine Rch.step (st' := T.setTop (mkF m 25 #[.val (.long vj0), .second, .val (.long sj0), .second, .val (.int (3 : Int32)), .val (.long (-1000 : Int64)), .second] [(.int (19 : Int32)), (.int (3 : Int32))])) (fun _ hr => XS.bipush X0.here hx rfl (hb hby d1_23) hr) ?_
      have hc5 : (3 : Int32) < (19 : Int32) := by decide
      refine Rch.step (st' := T.setTop (mkF m 28 #[.val (.long vj0), .second, .val (.long sj0), .second, .val (.int (3 : Int32)), .val (.long (-1000 : Int64)), .second] [])) (fun _ hr => XS.icmpNo X0.here hx rfl (hb hby d1_25) rfl (tlt hc5).2.1 hr) ?_
      refine Rch.step (st' := T.setTop (mkF m 29 #[.val (.long vj0), .second, .val (.long sj0), .second, .val (.int (3 : Int32)), .val (.long (-1000 : Int64)), .second] [(.long sj0)])) (fun _ hr => XS.lloadN X0.here hx rfl (hb hby d1_28) rfl hr) ?_
      refine Rch.step (st' := T.setTop (mkF m 31 #[.val (.long vj0), .second, .val (.long sj0), .second, .val (.int (3 : Int32)), .val (.long (-1000 : Int64)), .second] [(.long (-1000 : Int64)), (.long sj0)])) (fun _ hr => XS.lload X0.here hx rfl (hb hby d1_29) rfl hr) ?_
      refine Rch.step (st' := T.setTop (mkF m 32 #[.val (.long vj0), .second, .val (.long sj0), .second, .val (.int (3 : Int32)), .val (.long (-1000 : Int64)), .second] [(.int (lcmpW sj0 (-1000 : Int64)))])) (fun _ hr => XS.lcmp X0.here hx rfl (hb hby d1_31) rfl hr) ?_
      by_cases hc6 : (-1000 : Int64) < sj0
      · rw [if_pos hc6]
        refine Rch.step (st' := T.setTop (mkF m 49 #[.val (.long vj0), .second, .val (.long sj0), .second, .val (.int (3 : Int32)), .val (.long (-1000 : Int64)), .second] [])) (fun _ hr => XS.ifYes X0.here hx rfl (pc0 := 32) (pc' := 49) rfl (hb hby d1_32) rfl ((if0 _ _).trans (tlt ((lw_gt sj0 (-1000 : Int64)).mpr hc6)).2.2.1) (by decide) (by decide) hr) ?_
        exact b1_49 ⟨X0, hx, hZ, hw, hby, hml, hown, hret, hlk, e0, Z0, N0⟩ vj0 sj0 (3 : Int32) (-1000 : Int64)
      · rw [if_neg hc6]
        refine Rch.step (st' := T.setTop (mkF m 35 #[.val (.long vj0), .second, .val (.long sj0), .second, .val (.int (3 : Int32)), .val (.long (-1000 : Int64)), .second] [])) (fun _ hr => XS.ifNo X0.here hx rfl (hb hby d1_32) rfl ((if0 _ _).trans (flt (fun q => hc6 ((lw_gt sj0 (-1000 : Int64)).mp q))).2.2.1) hr) ?_
        refine Rch.step (st' := T.setTop (mkF m 38 #[.val (.long vj0), .second, .val (.long sj0), .second, .val (.int (4 : Int32)), .val (.long (-1000 : Int64)), .second] [])) (fun _ hr => XS.iinc X0.here hx rfl (hb hby d1_35) rfl (l' := #[.val (.long vj0), .second, .val (.long sj0), .second, .val (.int (4 : Int32)), .val (.long (-1000 : Int64)), .second]) rfl hr) ?_
        refine Rch.step (st' := T.setTop (mkF m 40 #[.val (.long vj0), .second, .val (.long sj0), .second, .val (.int (4 : Int32)), .val (.long (-1000 : Int64)), .second] [(.long (-1000 : Int64))])) (fun _ hr => XS.lload X0.here hx rfl (hb hby d1_38) rfl hr) ?_
        refine Rch.step (st' := T.setTop (mkF m 43 #[.val (.long vj0), .second, .val (.long sj0), .second, .val (.int (4 : Int32)), .val (.long (-1000 : Int64)), .second] [(.long (10 : Int64)), (.long (-1000 : Int64))])) (fun _ hr => X0.ldc2Long hx hown (mvT hZ (hw _ (List.mem_of_getElem? (i := 26) rfl))) (g := (mkF m 40 #[.val (.long vj0), .second, .val (.long sj0), .second, .val (.int (4 : Int32)), .val (.long (-1000 : Int64)), .second] [(.long (-1000 : Int64))])) rfl (hb hby d1_40) _ hr) ?_
        refine Rch.step (st' := T.setTop (mkF m 44 #[.val (.long vj0), .second, .val (.long sj0), .second, .val (.int (4 : Int32)), .val (.long (-1000 : Int64)), .second] [(.long ((-1000 : Int64) * (10 : Int64)))])) (fun _ hr => XS.lmul X0.here hx rfl (hb hby d1_43) rfl hr) ?_
        rw [show ((-1000 : Int64) * (10 : Int64)) = (-10000 : Int64) from by decide]
        refine Rch.step (st' := T.setTop (mkF m 46 #[.val (.long vj0), .second, .val (.long sj0), .second, .val (.int (4 : Int32)), .val (.long (-10000 : Int64)), .second] [])) (fun _ hr => XS.lstore X0.here hx rfl (hb hby d1_44) rfl (l' := #[.val (.long vj0), .second, .val (.long sj0), .second, .val (.int (4 : Int32)), .val (.long (-10000 : Int64)), .second]) rfl hr) ?_
        refine Rch.step (st' := T.setTop (mkF m 21 #[.val (.long vj0), .second, .val (.long sj0), .second, .val (.int (4 : Int32)), .val (.long (-10000 : Int64)), .second] [])) (fun _ hr => XS.goto X0.here hx rfl (pc0 := 46) (pc' := 21) rfl (hb hby d1_46) (by decide) (by decide) hr) ?_
        refine Rch.step (st' := T.setTop (mkF m 23 #[.val (.long vj0), .second, .val (.long sj0), .second, .val (.int (4 : Int32)), .val (.long (-10000 : Int64)), .second] [(.int (4 : Int32))])) (fun _ hr => XS.iload X0.here hx rfl (hb hby d1_21) rfl hr) ?_
        refine Rch.step (st' := T.setTop (mkF m 25 #[.val (.long vj0), .second, .val (.long sj0), .second, .val (.int (4 : Int32)), .val (.long (-10000 : Int64)), .second] [(.int (19 : Int32)), (.int (4 : Int32))])) (fun _ hr => XS.bipush X0.here hx rfl (hb hby d1_23) hr) ?_
        have hc7 : (4 : Int32) < (19 : Int32) := by decide
        refine Rch.step (st' := T.setTop (mkF m 28 #[.val (.long vj0), .second, .val (.long sj0), .second, .val (.int (4 : Int32)), .val (.long (-10000 : Int64)), .second] [])) (fun _ hr => XS.icmpNo X0.here hx rfl (hb hby d1_25) rfl (tlt hc7).2.1 hr) ?_
        refine Rch.step (st' := T.setTop (mkF m 29 #[.val (.long vj0), .second, .val (.long sj0), .second, .val (.int (4 : Int32)), .val (.long (-10000 : Int64)), .second] [(.long sj0)])) (fun _ hr => XS.lloadN X0.here hx rfl (hb hby d1_28) rfl hr) ?_
        refine Rch.step (st' := T.setTop (mkF m 31 #[.val (.long vj0), .second, .val (.long sj0), .second, .val (.int (4 : Int32)), .val (.long (-10000 : Int64)), .second] [(.long (-10000 : Int64)), (.long sj0)])) (fun _ hr => XS.lload X0.here hx rfl (hb hby d1_29) rfl hr) ?_
        refine Rch.step (st' := T.setTop (mkF m 32 #[.val (.long vj0), .second, .val (.long sj0), .second, .val (.int (4 : Int32)), .val (.long (-10000 : Int64)), .second] [(.int (lcmpW sj0 (-10000 : Int64)))])) (fun _ hr => XS.lcmp X0.here hx rfl (hb hby d1_31) rfl hr) ?_
        by_cases hc8 : (-10000 : Int64) < sj0
        · rw [if_pos hc8]
          refine Rch.step (st' := T.setTop (mkF m 49 #[.val (.long vj0), .second, .val (.long sj0), .second, .val (.int (4 : Int32)), .val (.long (-10000 : Int64)), .second] [])) (fun _ hr => XS.ifYes X0.here hx rfl (pc0 := 32) (pc' := 49) rfl (hb hby d1_32) rfl ((if0 _ _).trans (tlt ((lw_gt sj0 (-10000 : Int64)).mpr hc8)).2.2.1) (by decide) (by decide) hr) ?_
          exact b1_49 ⟨X0, hx, hZ, hw, hby, hml, hown, hret, hlk, e0, Z0, N0⟩ vj0 sj0 (4 : Int32) (-10000 : Int64)
        · rw [if_neg hc8]
          refine Rch.step (st' := T.setTop (mkF m 35 #[.val (.long vj0), .second, .val (.long sj0), .second, .val (.int (4 : Int32)), .val (.long (-10000 : Int64)), .second] [])) (fun _ hr => XS.ifNo X0.here hx rfl (hb hby d1_32) rfl ((if0 _ _).trans (flt (fun q => hc8 ((lw_gt sj0 (-10000 : Int64)).mp q))).2.2.1) hr) ?_
          refine Rch.step (st' := T.setTop (mkF m 38 #[.val (.long vj0), .second, .val (.long sj0), .second, .val (.int (5 : Int32)), .val (.long (-10000 : Int64)), .second] [])) (fun _ hr => XS.iinc X0.here hx rfl (hb hby d1_35) rfl (l' := #[.val (.long vj0), .second, .val (.long sj0), .second, .val (.int (5 : Int32)), .val (.long (-10000 : Int64)), .second]) rfl hr) ?_
          refine Rch.step (st' := T.setTop (mkF m 40 #[.val (.long vj0), .second, .val (.long sj0), .second, .val (.int (5 : Int32)), .val (.long (-10000 : Int64)), .second] [(.long (-10000 : Int64))])) (fun _ hr => XS.lload X0.here hx rfl (hb hby d1_38) rfl hr) ?_
          refine Rch.step (st' := T.setTop (mkF m 43 #[.val (.long vj0), .second, .val (.long sj0), .second, .val (.int (5 : Int32)), .val (.long (-10000 : Int64)), .second] [(.long (10 : Int64)), (.long (-10000 : Int64))])) (fun _ hr => X0.ldc2Long hx hown (mvT hZ (hw _ (List.mem_of_getElem? (i := 26) rfl))) (g := (mkF m 40 #[.val (.long vj0), .second, .val (.long sj0), .second, .val (.int (5 : Int32)), .val (.long (-10000 : Int64)), .second] [(.long (-10000 : Int64))])) rfl (hb hby d1_40) _ hr) ?_
          refine Rch.step (st' := T.setTop (mkF m 44 #[.val (.long vj0), .second, .val (.long sj0), .second, .val (.int (5 : Int32)), .val (.long (-10000 : Int64)), .second] [(.long ((-10000 : Int64) * (10 : Int64)))])) (fun _ hr => XS.lmul X0.here hx rfl (hb hby d1_43) rfl hr) ?_
          rw [show ((-10000 : Int64) * (10 : Int64)) = (-100000 : Int64) from by decide]
          refine Rch.step (st' := T.setTop (mkF m 46 #[.val (.long vj0), .second, .val (.long sj0), .second, .val (.int (5 : Int32)), .val (.long (-100000 : Int64)), .second] [])) (fun _ hr => XS.lstore X0.here hx rfl (hb hby d1_44) rfl (l' := #[.val (.long vj0), .second, .val (.long sj0), .second, .val (.int (5 : Int32)), .val (.long (-100000 : Int64)), .second]) rfl hr) ?_
          refine Rch.step (st' := T.setTop (mkF m 21 #[.val (.long vj0), .second, .val (.long sj0), .second, .val (.int (5 : Int32)), .val (.long (-100000 : Int64)), .second] [])) (fun _ hr => XS.goto X0.here hx rfl (pc0 := 46) (pc' := 21) rfl (hb hby d1_46) (by decide) (by decide) hr) ?_
          refine Rch.step (st' := T.setTop (mkF m 23 #[.val (.long vj0), .second, .val (.long sj0), .second, .val (.int (5 : Int32)), .val (.long (-100000 : Int64)), .second] [(.int (5 : Int32))])) (fun _ hr => XS.iload X0.here hx rfl (hb hby d1_21) rfl hr) ?_
          refine Rch.step (st' := T.setTop (mkF m 25 #[.val (.long vj0), .second, .val (.long sj0), .second, .val (.int (5 : Int32)), .val (.long (-100000 : Int64)), .second] [(.int (19 : Int32)), (.int (5 : Int32))])) (fun _ hr => XS.bipush X0.here hx rfl (hb hby d1_23) hr) ?_
          have hc9 : (5 : Int32) < (19 : Int32) := by decide
          refine Rch.step (st' := T.setTop (mkF m 28 #[.val (.long vj0), .second, .val (.long sj0), .second, .val (.int (5 : Int32)), .val (.long (-100000 : Int64)), .second] [])) (fun _ hr => XS.icmpNo X0.here hx rfl (hb hby d1_25) rfl (tlt hc9).2.1 hr) ?_
          refine Rch.step (st' := T.setTop (mkF m 29 #[.val (.long vj0), .second, .val (.long sj0), .second, .val (.int (5 : Int32)), .val (.long (-100000 : Int64)), .second] [(.long sj0)])) (fun _ hr => XS.lloadN X0.here hx rfl (hb hby d1_28) rfl hr) ?_
          refine Rch.step (st' := T.setTop (mkF m 31 #[.val (.long vj0), .second, .val (.long sj0), .second, .val (.int (5 : Int32)), .val (.long (-100000 : Int64)), .second] [(.long (-100000 : Int64)), (.long sj0)])) (fun _ hr => XS.lload X0.here hx rfl (hb hby d1_29) rfl hr) ?_
          refine Rch.step (st' := T.setTop (mkF m 32 #[.val (.long vj0), .second, .val (.long sj0), .second, .val (.int (5 : Int32)), .val (.long (-100000 : Int64)), .second] [(.int (lcmpW sj0 (-100000 : Int64)))])) (fun _ hr => XS.lcmp X0.here hx rfl (hb hby d1_31) rfl hr) ?_
          by_cases hc10 : (-100000 : Int64) < sj0
          · rw [if_pos hc10]
            refine Rch.step (st' := T.setTop (mkF m 49 #[.val (.long vj0), .second, .val (.long sj0), .second, .val (.int (5 : Int32)), .val (.long (-100000 : Int64)), .second] [])) (fun _ hr => XS.ifYes X0.here hx rfl (pc0 := 32) (pc' := 49) rfl (hb hby d1_32) rfl ((if0 _ _).trans (tlt ((lw_gt sj0 (-100000 : Int64)).mpr hc10)).2.2.1) (by decide) (by decide) hr) ?_
            exact b1_49 ⟨X0, hx, hZ, hw, hby, hml, hown, hret, hlk, e0, Z0, N0⟩ vj0 sj0 (5 : Int32) (-100000 : Int64)
          · rw [if_neg hc10]
            refine Rch.step (st' := T.setTop (mkF m 35 #[.val (.long vj0), .second, .val (.long sj0), .second, .val (.int (5 : Int32)), .val (.long (-100000 : Int64)), .second] [])) (fun _ hr => XS.ifNo X0.here hx rfl (hb hby d1_32) rfl ((if0 _ _).trans (flt (fun q => hc10 ((lw_gt sj0 (-100000 : Int64)).mp q))).2.2.1) hr) ?_
            refine Rch.step (st' := T.setTop (mkF m 38 #[.val (.long vj0), .second, .val (.long sj0), .second, .val (.int (6 : Int32)), .val (.long (-100000 : Int64)), .second] [])) (fun _ hr => XS.iinc X0.here hx rfl (hb hby d1_35) rfl (l' := #[.val (.long vj0), .second, .val (.long sj0), .second, .val (.int (6 : Int32)), .val (.long (-100000 : Int64)), .second]) rfl hr) ?_
            refine Rch.step (st' := T.setTop (mkF m 40 #[.val (.long vj0), .second, .val (.long sj0), .second, .val (.int (6 : Int32)), .val (.long (-100000 : Int64)), .second] [(.long (-100000 : Int64))])) (fun _ hr => XS.lload X0.here hx rfl (hb hby d1_38) rfl hr) ?_
            refine Rch.step (st' := T.setTop (mkF m 43 #[.val (.long vj0), .second, .val (.long sj0), .second, .val (.int (6 : Int32)), .val (.long (-100000 : Int64)), .second] [(.long (10 : Int64)), (.long (-100000 : Int64))])) (fun _ hr => X0.ldc2Long hx hown (mvT hZ (hw _ (List.mem_of_getElem? (i := 26) rfl))) (g := (mkF m 40 #[.val (.long vj0), .second, .val (.long sj0), .second, .val (.int (6 : Int32)), .val (.long (-100000 : Int64)), .second] [(.long (-100000 : Int64))])) rfl (hb hby d1_40) _ hr) ?_
            refine Rch.step (st' := T.setTop (mkF m 44 #[.val (.long vj0), .second, .val (.long sj0), .second, .val (.int (6 : Int32)), .val (.long (-100000 : Int64)), .second] [(.long ((-100000 : Int64) * (10 : Int64)))])) (fun _ hr => XS.lmul X0.here hx rfl (hb hby d1_43) rfl hr) ?_
            rw [show ((-100000 : Int64) * (10 : Int64)) = (-1000000 : Int64) from by decide]
            refine Rch.step (st' := T.setTop (mkF m 46 #[.val (.long vj0), .second, .val (.long sj0), .second, .val (.int (6 : Int32)), .val (.long (-1000000 : Int64)), .second] [])) (fun _ hr => XS.lstore X0.here hx rfl (hb hby d1_44) rfl (l' := #[.val (.long vj0), .second, .val (.long sj0), .second, .val (.int (6 : Int32)), .val (.long (-1000000 : Int64)), .second]) rfl hr) ?_
            refine Rch.step (st' := T.setTop (mkF m 21 #[.val (.long vj0), .second, .val (.long sj0), .second, .val (.int (6 : Int32)), .val (.long (-1000000 : Int64)), .second] [])) (fun _ hr => XS.goto X0.here hx rfl (pc0 := 46) (pc' := 21) rfl (hb hby d1_46) (by decide) (by decide) hr) ?_
            refine Rch.step (st' := T.setTop (mkF m 23 #[.val (.long vj0), .second, .val (.long sj0), .second, .val (.int (6 : Int32)), .val (.long (-1000000 : Int64)), .second] [(.int (6 : Int32))])) (fun _ hr => XS.iload X0.here hx rfl (hb hby d1_21) rfl hr) ?_
            refine Rch.step (st' := T.setTop (mkF m 25 #[.val (.long vj0), .second, .val (.long sj0), .second, .val (.int (6 : Int32)), .val (.long (-1000000 : Int64)), .second] [(.int (19 : Int32)), (.int (6 : Int32))])) (fun _ hr => XS.bipush X0.here hx rfl (hb hby d1_23) hr) ?_
            have hc11 : (6 : Int32) < (19 : Int32) := by decide
            refine Rch.step (st' := T.setTop (mkF m 28 #[.val (.long vj0), .second, .val (.long sj0), .second, .val (.int (6 : Int32)), .val (.long (-1000000 : Int64)), .second] [])) (fun _ hr => XS.icmpNo X0.here hx rfl (hb hby d1_25) rfl (tlt hc11).2.1 hr) ?_
            refine Rch.step (st' := T.setTop (mkF m 29 #[.val (.long vj0), .second, .val (.long sj0), .second, .val (.int (6 : Int32)), .val (.long (-1000000 : Int64)), .second] [(.long sj0)])) (fun _ hr => XS.lloadN X0.here hx rfl (hb hby d1_28) rfl hr) ?_
            refine Rch.step (st' := T.setTop (mkF m 31 #[.val (.long vj0), .second, .val (.long sj0), .second, .val (.int (6 : Int32)), .val (.long (-1000000 : Int64)), .second] [(.long (-1000000 : Int64)), (.long sj0)])) (fun _ hr => XS.lload X0.here hx rfl (hb hby d1_29) rfl hr) ?_
            refine Rch.step (st' := T.setTop (mkF m 32 #[.val (.long vj0), .second, .val (.long sj0), .second, .val (.int (6 : Int32)), .val (.long (-1000000 : Int64)), .second] [(.int (lcmpW sj0 (-1000000 : Int64)))])) (fun _ hr => XS.lcmp X0.here hx rfl (hb hby d1_31) rfl hr) ?_
            by_cases hc12 : (-1000000 : Int64) < sj0
            · rw [if_pos hc12]
              refine Rch.step (st' := T.setTop (mkF m 49 #[.val (.long vj0), .second, .val (.long sj0), .second, .val (.int (6 : Int32)), .val (.long (-1000000 : Int64)), .second] [])) (fun _ hr => XS.ifYes X0.here hx rfl (pc0 := 32) (pc' := 49) rfl (hb hby d1_32) rfl ((if0 _ _).trans (tlt ((lw_gt sj0 (-1000000 : Int64)).mpr hc12)).2.2.1) (by decide) (by decide) hr) ?_
              exact b1_49 ⟨X0, hx, hZ, hw, hby, hml, hown, hret, hlk, e0, Z0, N0⟩ vj0 sj0 (6 : Int32) (-1000000 : Int64)
            · rw [if_neg hc12]
              refine Rch.step (st' := T.setTop (mkF m 35 #[.val (.long vj0), .second, .val (.long sj0), .second, .val (.int (6 : Int32)), .val (.long (-1000000 : Int64)), .second] [])) (fun _ hr => XS.ifNo X0.here hx rfl (hb hby d1_32) rfl ((if0 _ _).trans (flt (fun q => hc12 ((lw_gt sj0 (-1000000 : Int64)).mp q))).2.2.1) hr) ?_
              refine Rch.step (st' := T.setTop (mkF m 38 #[.val (.long vj0), .second, .val (.long sj0), .second, .val (.int (7 : Int32)), .val (.long (-1000000 : Int64)), .second] [])) (fun _ hr => XS.iinc X0.here hx rfl (hb hby d1_35) rfl (l' := #[.val (.long vj0), .second, .val (.long sj0), .second, .val (.int (7 : Int32)), .val (.long (-1000000 : Int64)), .second]) rfl hr) ?_
              refine Rch.step (st' := T.setTop (mkF m 40 #[.val (.long vj0), .second, .val (.long sj0), .second, .val (.int (7 : Int32)), .val (.long (-1000000 : Int64)), .second] [(.long (-1000000 : Int64))])) (fun _ hr => XS.lload X0.here hx rfl (hb hby d1_38) rfl hr) ?_
              refine Rch.step (st' := T.setTop (mkF m 43 #[.val (.long vj0), .second, .val (.long sj0), .second, .val (.int (7 : Int32)), .val (.long (-1000000 : Int64)), .second] [(.long (10 : Int64)), (.long (-1000000 : Int64))])) (fun _ hr => X0.ldc2Long hx hown (mvT hZ (hw _ (List.mem_of_getElem? (i := 26) rfl))) (g := (mkF m 40 #[.val (.long vj0), .second, .val (.long sj0), .second, .val (.int (7 : Int32)), .val (.long (-1000000 : Int64)), .second] [(.long (-1000000 : Int64))])) rfl (hb hby d1_40) _ hr) ?_
              refine Rch.step (st' := T.setTop (mkF m 44 #[.val (.long vj0), .second, .val (.long sj0), .second, .val (.int (7 : Int32)), .val (.long (-1000000 : Int64)), .second] [(.long ((-1000000 : Int64) * (10 : Int64)))])) (fun _ hr => XS.lmul X0.here hx rfl (hb hby d1_43) rfl hr) ?_
              rw [show ((-1000000 : Int64) * (10 : Int64)) = (-10000000 : Int64) from by decide]
              refine Rch.step (st' := T.setTop (mkF m 46 #[.val (.long vj0), .second, .val (.long sj0), .second, .val (.int (7 : Int32)), .val (.long (-10000000 : Int64)), .second] [])) (fun _ hr => XS.lstore X0.here hx rfl (hb hby d1_44) rfl (l' := #[.val (.long vj0), .second, .val (.long sj0), .second, .val (.int (7 : Int32)), .val (.long (-10000000 : Int64)), .second]) rfl hr) ?_
              refine Rch.step (st' := T.setTop (mkF m 21 #[.val (.long vj0), .second, .val (.long sj0), .second, .val (.int (7 : Int32)), .val (.long (-10000000 : Int64)), .second] [])) (fun _ hr => XS.goto X0.here hx rfl (pc0 := 46) (pc' := 21) rfl (hb hby d1_46) (by decide) (by decide) hr) ?_
              refine Rch.step (st' := T.setTop (mkF m 23 #[.val (.long vj0), .second, .val (.long sj0), .second, .val (.int (7 : Int32)), .val (.long (-10000000 : Int64)), .second] [(.int (7 : Int32))])) (fun _ hr => XS.iload X0.here hx rfl (hb hby d1_21) rfl hr) ?_
              refine Rch.step (st' := T.setTop (mkF m 25 #[.val (.long vj0), .second, .val (.long sj0), .second, .val (.int (7 : Int32)), .val (.long (-10000000 : Int64)), .second] [(.int (19 : Int32)), (.int (7 : Int32))])) (fun _ hr => XS.bipush X0.here hx rfl (hb hby d1_23) hr) ?_
              have hc13 : (7 : Int32) < (19 : Int32) := by decide
              refine Rch.step (st' := T.setTop (mkF m 28 #[.val (.long vj0), .second, .val (.long sj0), .second, .val (.int (7 : Int32)), .val (.long (-10000000 : Int64)), .second] [])) (fun _ hr => XS.icmpNo X0.here hx rfl (hb hby d1_25) rfl (tlt hc13).2.1 hr) ?_
              refine Rch.step (st' := T.setTop (mkF m 29 #[.val (.long vj0), .second, .val (.long sj0), .second, .val (.int (7 : Int32)), .val (.long (-10000000 : Int64)), .second] [(.long sj0)])) (fun _ hr => XS.lloadN X0.here hx rfl (hb hby d1_28) rfl hr) ?_
              refine Rch.step (st' := T.setTop (mkF m 31 #[.val (.long vj0), .second, .val (.long sj0), .second, .val (.int (7 : Int32)), .val (.long (-10000000 : Int64)), .second] [(.long (-10000000 : Int64)), (.long sj0)])) (fun _ hr => XS.lload X0.here hx rfl (hb hby d1_29) rfl hr) ?_
              refine Rch.step (st' := T.setTop (mkF m 32 #[.val (.long vj0), .second, .val (.long sj0), .second, .val (.int (7 : Int32)), .val (.long (-10000000 : Int64)), .second] [(.int (lcmpW sj0 (-10000000 : Int64)))])) (fun _ hr => XS.lcmp X0.here hx rfl (hb hby d1_31) rfl hr) ?_
              by_cases hc14 : (-10000000 : Int64) < sj0
              · rw [if_pos hc14]
                refine Rch.step (st' := T.setTop (mkF m 49 #[.val (.long vj0), .second, .val (.long sj0), .second, .val (.int (7 : Int32)), .val (.long (-10000000 : Int64)), .second] [])) (fun _ hr => XS.ifYes X0.here hx rfl (pc0 := 32) (pc' := 49) rfl (hb hby d1_32) rfl ((if0 _ _).trans (tlt ((lw_gt sj0 (-10000000 : Int64)).mpr hc14)).2.2.1) (by decide) (by decide) hr) ?_
                exact b1_49 ⟨X0, hx, hZ, hw, hby, hml, hown, hret, hlk, e0, Z0, N0⟩ vj0 sj0 (7 : Int32) (-10000000 : Int64)
              · rw [if_neg hc14]
                refine Rch.step (st' := T.setTop (mkF m 35 #[.val (.long vj0), .second, .val (.long sj0), .second, .val (.int (7 : Int32)), .val (.long (-10000000 : Int64)), .second] [])) (fun _ hr => XS.ifNo X0.here hx rfl (hb hby d1_32) rfl ((if0 _ _).trans (flt (fun q => hc14 ((lw_gt sj0 (-10000000 : Int64)).mp q))).2.2.1) hr) ?_
                refine Rch.step (st' := T.setTop (mkF m 38 #[.val (.long vj0), .second, .val (.long sj0), .second, .val (.int (8 : Int32)), .val (.long (-10000000 : Int64)), .second] [])) (fun _ hr => XS.iinc X0.here hx rfl (hb hby d1_35) rfl (l' := #[.val (.long vj0), .second, .val (.long sj0), .second, .val (.int (8 : Int32)), .val (.long (-10000000 : Int64)), .second]) rfl hr) ?_
                refine Rch.step (st' := T.setTop (mkF m 40 #[.val (.long vj0), .second, .val (.long sj0), .second, .val (.int (8 : Int32)), .val (.long (-10000000 : Int64)), .second] [(.long (-10000000 : Int64))])) (fun _ hr => XS.lload X0.here hx rfl (hb hby d1_38) rfl hr) ?_
                refine Rch.step (st' := T.setTop (mkF m 43 #[.val (.long vj0), .second, .val (.long sj0), .second, .val (.int (8 : Int32)), .val (.long (-10000000 : Int64)), .second] [(.long (10 : Int64)), (.long (-10000000 : Int64))])) (fun _ hr => X0.ldc2Long hx hown (mvT hZ (hw _ (List.mem_of_getElem? (i := 26) rfl))) (g := (mkF m 40 #[.val (.long vj0), .second, .val (.long sj0), .second, .val (.int (8 : Int32)), .val (.long (-10000000 : Int64)), .second] [(.long (-10000000 : Int64))])) rfl (hb hby d1_40) _ hr) ?_
                refine Rch.step (st' := T.setTop (mkF m 44 #[.val (.long vj0), .second, .val (.long sj0), .second, .val (.int (8 : Int32)), .val (.long (-10000000 : Int64)), .second] [(.long ((-10000000 : Int64) * (10 : Int64)))])) (fun _ hr => XS.lmul X0.here hx rfl (hb hby d1_43) rfl hr) ?_
                rw [show ((-10000000 : Int64) * (10 : Int64)) = (-100000000 : Int64) from by decide]
                refine Rch.step (st' := T.setTop (mkF m 46 #[.val (.long vj0), .second, .val (.long sj0), .second, .val (.int (8 : Int32)), .val (.long (-100000000 : Int64)), .second] [])) (fun _ hr => XS.lstore X0.here hx rfl (hb hby d1_44) rfl (l' := #[.val (.long vj0), .second, .val (.long sj0), .second, .val (.int (8 : Int32)), .val (.long (-100000000 : Int64)), .second]) rfl hr) ?_
                refine Rch.step (st' := T.setTop (mkF m 21 #[.val (.long vj0), .second, .val (.long sj0), .second, .val (.int (8 : Int32)), .val (.long (-100000000 : Int64)), .second] [])) (fun _ hr => XS.goto X0.here hx rfl (pc0 := 46) (pc' := 21) rfl (hb hby d1_46) (by decide) (by decide) hr) ?_
                refine Rch.step (st' := T.setTop (mkF m 23 #[.val (.long vj0), .second, .val (.long sj0), .second, .val (.int (8 : Int32)), .val (.long (-100000000 : Int64)), .second] [(.int (8 : Int32))])) (fun _ hr => XS.iload X0.here hx rfl (hb hby d1_21) rfl hr) ?_
                refine Rch.step (st' := T.setTop (mkF m 25 #[.val (.long vj0), .second, .val (.long sj0), .second, .val (.int (8 : Int32)), .val (.long (-100000000 : Int64)), .second] [(.int (19 : Int32)), (.int (8 : Int32))])) (fun _ hr => XS.bipush X0.here hx rfl (hb hby d1_23) hr) ?_
                have hc15 : (8 : Int32) < (19 : Int32) := by decide
                refine Rch.step (st' := T.setTop (mkF m 28 #[.val (.long vj0), .second, .val (.long sj0), .second, .val (.int (8 : Int32)), .val (.long (-100000000 : Int64)), .second] [])) (fun _ hr => XS.icmpNo X0.here hx rfl (hb hby d1_25) rfl (tlt hc15).2.1 hr) ?_
                refine Rch.step (st' := T.setTop (mkF m 29 #[.val (.long vj0), .second, .val (.long sj0), .second, .val (.int (8 : Int32)), .val (.long (-100000000 : Int64)), .second] [(.long sj0)])) (fun _ hr => XS.lloadN X0.here hx rfl (hb hby d1_28) rfl hr) ?_
                refine Rch.step (st' := T.setTop (mkF m 31 #[.val (.long vj0), .second, .val (.long sj0), .second, .val (.int (8 : Int32)), .val (.long (-100000000 : Int64)), .second] [(.long (-100000000 : Int64)), (.long sj0)])) (fun _ hr => XS.lload X0.here hx rfl (hb hby d1_29) rfl hr) ?_
                refine Rch.step (st' := T.setTop (mkF m 32 #[.val (.long vj0), .second, .val (.long sj0), .second, .val (.int (8 : Int32)), .val (.long (-100000000 : Int64)), .second] [(.int (lcmpW sj0 (-100000000 : Int64)))])) (fun _ hr => XS.lcmp X0.here hx rfl (hb hby d1_31) rfl hr) ?_
                by_cases hc16 : (-100000000 : Int64) < sj0
                · rw [if_pos hc16]
                  refine Rch.step (st' := T.setTop (mkF m 49 #[.val (.long vj0), .second, .val (.long sj0), .second, .val (.int (8 : Int32)), .val (.long (-100000000 : Int64)), .second] [])) (fun _ hr => XS.ifYes X0.here hx rfl (pc0 := 32) (pc' := 49) rfl (hb hby d1_32) rfl ((if0 _ _).trans (tlt ((lw_gt sj0 (-100000000 : Int64)).mpr hc16)).2.2.1) (by decide) (by decide) hr) ?_
                  exact b1_49 ⟨X0, hx, hZ, hw, hby, hml, hown, hret, hlk, e0, Z0, N0⟩ vj0 sj0 (8 : Int32) (-100000000 : Int64)
                · rw [if_neg hc16]
                  refine Rch.step (st' := T.setTop (mkF m 35 #[.val (.long vj0), .second, .val (.long sj0), .second, .val (.int (8 : Int32)), .val (.long (-100000000 : Int64)), .second] [])) (fun _ hr => XS.ifNo X0.here hx rfl (hb hby d1_32) rfl ((if0 _ _).trans (flt (fun q => hc16 ((lw_gt sj0 (-100000000 : Int64)).mp q))).2.2.1) hr) ?_
                  refine Rch.step (st' := T.setTop (mkF m 38 #[.val (.long vj0), .second, .val (.long sj0), .second, .val (.int (9 : Int32)), .val (.long (-100000000 : Int64)), .second] [])) (fun _ hr => XS.iinc X0.here hx rfl (hb hby d1_35) rfl (l' := #[.val (.long vj0), .second, .val (.long sj0), .second, .val (.int (9 : Int32)), .val (.long (-100000000 : Int64)), .second]) rfl hr) ?_
                  refine Rch.step (st' := T.setTop (mkF m 40 #[.val (.long vj0), .second, .val (.long sj0), .second, .val (.int (9 : Int32)), .val (.long (-100000000 : Int64)), .second] [(.long (-100000000 : Int64))])) (fun _ hr => XS.lload X0.here hx rfl (hb hby d1_38) rfl hr) ?_
                  refine Rch.step (st' := T.setTop (mkF m 43 #[.val (.long vj0), .second, .val (.long sj0), .second, .val (.int (9 : Int32)), .val (.long (-100000000 : Int64)), .second] [(.long (10 : Int64)), (.long (-100000000 : Int64))])) (fun _ hr => X0.ldc2Long hx hown (mvT hZ (hw _ (List.mem_of_getElem? (i := 26) rfl))) (g := (mkF m 40 #[.val (.long vj0), .second, .val (.long sj0), .second, .val (.int (9 : Int32)), .val (.long (-100000000 : Int64)), .second] [(.long (-100000000 : Int64))])) rfl (hb hby d1_40) _ hr) ?_
                  refine Rch.step (st' := T.setTop (mkF m 44 #[.val (.long vj0), .second, .val (.long sj0), .second, .val (.int (9 : Int32)), .val (.long (-100000000 : Int64)), .second] [(.long ((-100000000 : Int64) * (10 : Int64)))])) (fun _ hr => XS.lmul X0.here hx rfl (hb hby d1_43) rfl hr) ?_
                  rw [show ((-100000000 : Int64) * (10 : Int64)) = (-1000000000 : Int64) from by decide]
                  refine Rch.step (st' := T.setTop (mkF m 46 #[.val (.long vj0), .second, .val (.long sj0), .second, .val (.int (9 : Int32)), .val (.long (-1000000000 : Int64)), .second] [])) (fun _ hr => XS.lstore X0.here hx rfl (hb hby d1_44) rfl (l' := #[.val (.long vj0), .second, .val (.long sj0), .second, .val (.int (9 : Int32)), .val (.long (-1000000000 : Int64)), .second]) rfl hr) ?_
                  refine Rch.step (st' := T.setTop (mkF m 21 #[.val (.long vj0), .second, .val (.long sj0), .second, .val (.int (9 : Int32)), .val (.long (-1000000000 : Int64)), .second] [])) (fun _ hr => XS.goto X0.here hx rfl (pc0 := 46) (pc' := 21) rfl (hb hby d1_46) (by decide) (by decide) hr) ?_
                  refine Rch.step (st' := T.setTop (mkF m 23 #[.val (.long vj0), .second, .val (.long sj0), .second, .val (.int (9 : Int32)), .val (.long (-1000000000 : Int64)), .second] [(.int (9 : Int32))])) (fun _ hr => XS.iload X0.here hx rfl (hb hby d1_21) rfl hr) ?_
                  refine Rch.step (st' := T.setTop (mkF m 25 #[.val (.long vj0), .second, .val (.long sj0), .second, .val (.int (9 : Int32)), .val (.long (-1000000000 : Int64)), .second] [(.int (19 : Int32)), (.int (9 : Int32))])) (fun _ hr => XS.bipush X0.here hx rfl (hb hby d1_23) hr) ?_
                  have hc17 : (9 : Int32) < (19 : Int32) := by decide
                  refine Rch.step (st' := T.setTop (mkF m 28 #[.val (.long vj0), .second, .val (.long sj0), .second, .val (.int (9 : Int32)), .val (.long (-1000000000 : Int64)), .second] [])) (fun _ hr => XS.icmpNo X0.here hx rfl (hb hby d1_25) rfl (tlt hc17).2.1 hr) ?_
                  refine Rch.step (st' := T.setTop (mkF m 29 #[.val (.long vj0), .second, .val (.long sj0), .second, .val (.int (9 : Int32)), .val (.long (-1000000000 : Int64)), .second] [(.long sj0)])) (fun _ hr => XS.lloadN X0.here hx rfl (hb hby d1_28) rfl hr) ?_
                  refine Rch.step (st' := T.setTop (mkF m 31 #[.val (.long vj0), .second, .val (.long sj0), .second, .val (.int (9 : Int32)), .val (.long (-1000000000 : Int64)), .second] [(.long (-1000000000 : Int64)), (.long sj0)])) (fun _ hr => XS.lload X0.here hx rfl (hb hby d1_29) rfl hr) ?_
                  refine Rch.step (st' := T.setTop (mkF m 32 #[.val (.long vj0), .second, .val (.long sj0), .second, .val (.int (9 : Int32)), .val (.long (-1000000000 : Int64)), .second] [(.int (lcmpW sj0 (-1000000000 : Int64)))])) (fun _ hr => XS.lcmp X0.here hx rfl (hb hby d1_31) rfl hr) ?_
                  by_cases hc18 : (-1000000000 : Int64) < sj0
                  · rw [if_pos hc18]
                    refine Rch.step (st' := T.setTop (mkF m 49 #[.val (.long vj0), .second, .val (.long sj0), .second, .val (.int (9 : Int32)), .val (.long (-1000000000 : Int64)), .second] [])) (fun _ hr => XS.ifYes X0.here hx rfl (pc0 := 32) (pc' := 49) rfl (hb hby d1_32) rfl ((if0 _ _).trans (tlt ((lw_gt sj0 (-1000000000 : Int64)).mpr hc18)).2.2.1) (by decide) (by decide) hr) ?_
                    exact b1_49 ⟨X0, hx, hZ, hw, hby, hml, hown, hret, hlk, e0, Z0, N0⟩ vj0 sj0 (9 : Int32) (-1000000000 : Int64)
                  · rw [if_neg hc18]
                    refine Rch.step (st' := T.setTop (mkF m 35 #[.val (.long vj0), .second, .val (.long sj0), .second, .val (.int (9 : Int32)), .val (.long (-1000000000 : Int64)), .second] [])) (fun _ hr => XS.ifNo X0.here hx rfl (hb hby d1_32) rfl ((if0 _ _).trans (flt (fun q => hc18 ((lw_gt sj0 (-1000000000 : Int64)).mp q))).2.2.1) hr) ?_
                    refine Rch.step (st' := T.setTop (mkF m 38 #[.val (.long vj0), .second, .val (.long sj0), .second, .val (.int (10 : Int32)), .val (.long (-1000000000 : Int64)), .second] [])) (fun _ hr => XS.iinc X0.here hx rfl (hb hby d1_35) rfl (l' := #[.val (.long vj0), .second, .val (.long sj0), .second, .val (.int (10 : Int32)), .val (.long (-1000000000 : Int64)), .second]) rfl hr) ?_
                    refine Rch.step (st' := T.setTop (mkF m 40 #[.val (.long vj0), .second, .val (.long sj0), .second, .val (.int (10 : Int32)), .val (.long (-1000000000 : Int64)), .second] [(.long (-1000000000 : Int64))])) (fun _ hr => XS.lload X0.here hx rfl (hb hby d1_38) rfl hr) ?_
                    refine Rch.step (st' := T.setTop (mkF m 43 #[.val (.long vj0), .second, .val (.long sj0), .second, .val (.int (10 : Int32)), .val (.long (-1000000000 : Int64)), .second] [(.long (10 : Int64)), (.long (-1000000000 : Int64))])) (fun _ hr => X0.ldc2Long hx hown (mvT hZ (hw _ (List.mem_of_getElem? (i := 26) rfl))) (g := (mkF m 40 #[.val (.long vj0), .second, .val (.long sj0), .second, .val (.int (10 : Int32)), .val (.long (-1000000000 : Int64)), .second] [(.long (-1000000000 : Int64))])) rfl (hb hby d1_40) _ hr) ?_
                    refine Rch.step (st' := T.setTop (mkF m 44 #[.val (.long vj0), .second, .val (.long sj0), .second, .val (.int (10 : Int32)), .val (.long (-1000000000 : Int64)), .second] [(.long ((-1000000000 : Int64) * (10 : Int64)))])) (fun _ hr => XS.lmul X0.here hx rfl (hb hby d1_43) rfl hr) ?_
                    rw [show ((-1000000000 : Int64) * (10 : Int64)) = (-10000000000 : Int64) from by decide]
                    refine Rch.step (st' := T.setTop (mkF m 46 #[.val (.long vj0), .second, .val (.long sj0), .second, .val (.int (10 : Int32)), .val (.long (-10000000000 : Int64)), .second] [])) (fun _ hr => XS.lstore X0.here hx rfl (hb hby d1_44) rfl (l' := #[.val (.long vj0), .second, .val (.long sj0), .second, .val (.int (10 : Int32)), .val (.long (-10000000000 : Int64)), .second]) rfl hr) ?_
                    refine Rch.step (st' := T.setTop (mkF m 21 #[.val (.long vj0), .second, .val (.long sj0), .second, .val (.int (10 : Int32)), .val (.long (-10000000000 : Int64)), .second] [])) (fun _ hr => XS.goto X0.here hx rfl (pc0 := 46) (pc' := 21) rfl (hb hby d1_46) (by decide) (by decide) hr) ?_
                    refine Rch.step (st' := T.setTop (mkF m 23 #[.val (.long vj0), .second, .val (.long sj0), .second, .val (.int (10 : Int32)), .val (.long (-10000000000 : Int64)), .second] [(.int (10 : Int32))])) (fun _ hr => XS.iload X0.here hx rfl (hb hby d1_21) rfl hr) ?_
                    refine Rch.step (st' := T.setTop (mkF m 25 #[.val (.long vj0), .second, .val (.long sj0), .second, .val (.int (10 : Int32)), .val (.long (-10000000000 : Int64)), .second] [(.int (19 : Int32)), (.int (10 : Int32))])) (fun _ hr => XS.bipush X0.here hx rfl (hb hby d1_23) hr) ?_
                    have hc19 : (10 : Int32) < (19 : Int32) := by decide
                    refine Rch.step (st' := T.setTop (mkF m 28 #[.val (.long vj0), .second, .val (.long sj0), .second, .val (.int (10 : Int32)), .val (.long (-10000000000 : Int64)), .second] [])) (fun _ hr => XS.icmpNo X0.here hx rfl (hb hby d1_25) rfl (tlt hc19).2.1 hr) ?_
                    refine Rch.step (st' := T.setTop (mkF m 29 #[.val (.long vj0), .second, .val (.long sj0), .second, .val (.int (10 : Int32)), .val (.long (-10000000000 : Int64)), .second] [(.long sj0)])) (fun _ hr => XS.lloadN X0.here hx rfl (hb hby d1_28) rfl hr) ?_
                    refine Rch.step (st' := T.setTop (mkF m 31 #[.val (.long vj0), .second, .val (.long sj0), .second, .val (.int (10 : Int32)), .val (.long (-10000000000 : Int64)), .second] [(.long (-10000000000 : Int64)), (.long sj0)])) (fun _ hr => XS.lload X0.here hx rfl (hb hby d1_29) rfl hr) ?_
                    refine Rch.step (st' := T.setTop (mkF m 32 #[.val (.long vj0), .second, .val (.long sj0), .second, .val (.int (10 : Int32)), .val (.long (-10000000000 : Int64)), .second] [(.int (lcmpW sj0 (-10000000000 : Int64)))])) (fun _ hr => XS.lcmp X0.here hx rfl (hb hby d1_31) rfl hr) ?_
                    by_cases hc20 : (-10000000000 : Int64) < sj0
                    · rw [if_pos hc20]
                      refine Rch.step (st' := T.setTop (mkF m 49 #[.val (.long vj0), .second, .val (.long sj0), .second, .val (.int (10 : Int32)), .val (.long (-10000000000 : Int64)), .second] [])) (fun _ hr => XS.ifYes X0.here hx rfl (pc0 := 32) (pc' := 49) rfl (hb hby d1_32) rfl ((if0 _ _).trans (tlt ((lw_gt sj0 (-10000000000 : Int64)).mpr hc20)).2.2.1) (by decide) (by decide) hr) ?_
                      exact b1_49 ⟨X0, hx, hZ, hw, hby, hml, hown, hret, hlk, e0, Z0, N0⟩ vj0 sj0 (10 : Int32) (-10000000000 : Int64)
                    · rw [if_neg hc20]
                      refine Rch.step (st' := T.setTop (mkF m 35 #[.val (.long vj0), .second, .val (.long sj0), .second, .val (.int (10 : Int32)), .val (.long (-10000000000 : Int64)), .second] [])) (fun _ hr => XS.ifNo X0.here hx rfl (hb hby d1_32) rfl ((if0 _ _).trans (flt (fun q => hc20 ((lw_gt sj0 (-10000000000 : Int64)).mp q))).2.2.1) hr) ?_
                      refine Rch.step (st' := T.setTop (mkF m 38 #[.val (.long vj0), .second, .val (.long sj0), .second, .val (.int (11 : Int32)), .val (.long (-10000000000 : Int64)), .second] [])) (fun _ hr => XS.iinc X0.here hx rfl (hb hby d1_35) rfl (l' := #[.val (.long vj0), .second, .val (.long sj0), .second, .val (.int (11 : Int32)), .val (.long (-10000000000 : Int64)), .second]) rfl hr) ?_
                      refine Rch.step (st' := T.setTop (mkF m 40 #[.val (.long vj0), .second, .val (.long sj0), .second, .val (.int (11 : Int32)), .val (.long (-10000000000 : Int64)), .second] [(.long (-10000000000 : Int64))])) (fun _ hr => XS.lload X0.here hx rfl (hb hby d1_38) rfl hr) ?_
                      refine Rch.step (st' := T.setTop (mkF m 43 #[.val (.long vj0), .second, .val (.long sj0), .second, .val (.int (11 : Int32)), .val (.long (-10000000000 : Int64)), .second] [(.long (10 : Int64)), (.long (-10000000000 : Int64))])) (fun _ hr => X0.ldc2Long hx hown (mvT hZ (hw _ (List.mem_of_getElem? (i := 26) rfl))) (g := (mkF m 40 #[.val (.long vj0), .second, .val (.long sj0), .second, .val (.int (11 : Int32)), .val (.long (-10000000000 : Int64)), .second] [(.long (-10000000000 : Int64))])) rfl (hb hby d1_40) _ hr) ?_
                      refine Rch.step (st' := T.setTop (mkF m 44 #[.val (.long vj0), .second, .val (.long sj0), .second, .val (.int (11 : Int32)), .val (.long (-10000000000 : Int64)), .second] [(.long ((-10000000000 : Int64) * (10 : Int64)))])) (fun _ hr => XS.lmul X0.here hx rfl (hb hby d1_43) rfl hr) ?_
                      rw [show ((-10000000000 : Int64) * (10 : Int64)) = (-100000000000 : Int64) from by decide]
                      refine Rch.step (st' := T.setTop (mkF m 46 #[.val (.long vj0), .second, .val (.long sj0), .second, .val (.int (11 : Int32)), .val (.long (-100000000000 : Int64)), .second] [])) (fun _ hr => XS.lstore X0.here hx rfl (hb hby d1_44) rfl (l' := #[.val (.long vj0), .second, .val (.long sj0), .second, .val (.int (11 : Int32)), .val (.long (-100000000000 : Int64)), .second]) rfl hr) ?_
                      refine Rch.step (st' := T.setTop (mkF m 21 #[.val (.long vj0), .second, .val (.long sj0), .second, .val (.int (11 : Int32)), .val (.long (-100000000000 : Int64)), .second] [])) (fun _ hr => XS.goto X0.here hx rfl (pc0 := 46) (pc' := 21) rfl (hb hby d1_46) (by decide) (by decide) hr) ?_
                      refine Rch.step (st' := T.setTop (mkF m 23 #[.val (.long vj0), .second, .val (.long sj0), .second, .val (.int (11 : Int32)), .val (.long (-100000000000 : Int64)), .second] [(.int (11 : Int32))])) (fun _ hr => XS.iload X0.here hx rfl (hb hby d1_21) rfl hr) ?_
                      refine Rch.step (st' := T.setTop (mkF m 25 #[.val (.long vj0), .second, .val (.long sj0), .second, .val (.int (11 : Int32)), .val (.long (-100000000000 : Int64)), .second] [(.int (19 : Int32)), (.int (11 : Int32))])) (fun _ hr => XS.bipush X0.here hx rfl (hb hby d1_23) hr) ?_
                      have hc21 : (11 : Int32) < (19 : Int32) := by decide
                      refine Rch.step (st' := T.setTop (mkF m 28 #[.val (.long vj0), .second, .val (.long sj0), .second, .val (.int (11 : Int32)), .val (.long (-100000000000 : Int64)), .second] [])) (fun _ hr => XS.icmpNo X0.here hx rfl (hb hby d1_25) rfl (tlt hc21).2.1 hr) ?_
                      refine Rch.step (st' := T.setTop (mkF m 29 #[.val (.long vj0), .second, .val (.long sj0), .second, .val (.int (11 : Int32)), .val (.long (-100000000000 : Int64)), .second] [(.long sj0)])) (fun _ hr => XS.lloadN X0.here hx rfl (hb hby d1_28) rfl hr) ?_
                      refine Rch.step (st' := T.setTop (mkF m 31 #[.val (.long vj0), .second, .val (.long sj0), .second, .val (.int (11 : Int32)), .val (.long (-100000000000 : Int64)), .second] [(.long (-100000000000 : Int64)), (.long sj0)])) (fun _ hr => XS.lload X0.here hx rfl (hb hby d1_29) rfl hr) ?_
                      refine Rch.step (st' := T.setTop (mkF m 32 #[.val (.long vj0), .second, .val (.long sj0), .second, .val (.int (11 : Int32)), .val (.long (-100000000000 : Int64)), .second] [(.int (lcmpW sj0 (-100000000000 : Int64)))])) (fun _ hr => XS.lcmp X0.here hx rfl (hb hby d1_31) rfl hr) ?_
                      by_cases hc22 : (-100000000000 : Int64) < sj0
                      · rw [if_pos hc22]
                        refine Rch.step (st' := T.setTop (mkF m 49 #[.val (.long vj0), .second, .val (.long sj0), .second, .val (.int (11 : Int32)), .val (.long (-100000000000 : Int64)), .second] [])) (fun _ hr => XS.ifYes X0.here hx rfl (pc0 := 32) (pc' := 49) rfl (hb hby d1_32) rfl ((if0 _ _).trans (tlt ((lw_gt sj0 (-100000000000 : Int64)).mpr hc22)).2.2.1) (by decide) (by decide) hr) ?_
                        exact b1_49 ⟨X0, hx, hZ, hw, hby, hml, hown, hret, hlk, e0, Z0, N0⟩ vj0 sj0 (11 : Int32) (-100000000000 : Int64)
                      · rw [if_neg hc22]
                        refine Rch.step (st' := T.setTop (mkF m 35 #[.val (.long vj0), .second, .val (.long sj0), .second, .val (.int (11 : Int32)), .val (.long (-100000000000 : Int64)), .second] [])) (fun _ hr => XS.ifNo X0.here hx rfl (hb hby d1_32) rfl ((if0 _ _).trans (flt (fun q => hc22 ((lw_gt sj0 (-100000000000 : Int64)).mp q))).2.2.1) hr) ?_
                        refine Rch.step (st' := T.setTop (mkF m 38 #[.val (.long vj0), .second, .val (.long sj0), .second, .val (.int (12 : Int32)), .val (.long (-100000000000 : Int64)), .second] [])) (fun _ hr => XS.iinc X0.here hx rfl (hb hby d1_35) rfl (l' := #[.val (.long vj0), .second, .val (.long sj0), .second, .val (.int (12 : Int32)), .val (.long (-100000000000 : Int64)), .second]) rfl hr) ?_
                        refine Rch.step (st' := T.setTop (mkF m 40 #[.val (.long vj0), .second, .val (.long sj0), .second, .val (.int (12 : Int32)), .val (.long (-100000000000 : Int64)), .second] [(.long (-100000000000 : Int64))])) (fun _ hr => XS.lload X0.here hx rfl (hb hby d1_38) rfl hr) ?_
                        refine Rch.step (st' := T.setTop (mkF m 43 #[.val (.long vj0), .second, .val (.long sj0), .second, .val (.int (12 : Int32)), .val (.long (-100000000000 : Int64)), .second] [(.long (10 : Int64)), (.long (-100000000000 : Int64))])) (fun _ hr => X0.ldc2Long hx hown (mvT hZ (hw _ (List.mem_of_getElem? (i := 26) rfl))) (g := (mkF m 40 #[.val (.long vj0), .second, .val (.long sj0), .second, .val (.int (12 : Int32)), .val (.long (-100000000000 : Int64)), .second] [(.long (-100000000000 : Int64))])) rfl (hb hby d1_40) _ hr) ?_
                        refine Rch.step (st' := T.setTop (mkF m 44 #[.val (.long vj0), .second, .val (.long sj0), .second, .val (.int (12 : Int32)), .val (.long (-100000000000 : Int64)), .second] [(.long ((-100000000000 : Int64) * (10 : Int64)))])) (fun _ hr => XS.lmul X0.here hx rfl (hb hby d1_43) rfl hr) ?_
                        rw [show ((-100000000000 : Int64) * (10 : Int64)) = (-1000000000000 : Int64) from by decide]
                        refine Rch.step (st' := T.setTop (mkF m 46 #[.val (.long vj0), .second, .val (.long sj0), .second, .val (.int (12 : Int32)), .val (.long (-1000000000000 : Int64)), .second] [])) (fun _ hr => XS.lstore X0.here hx rfl (hb hby d1_44) rfl (l' := #[.val (.long vj0), .second, .val (.long sj0), .second, .val (.int (12 : Int32)), .val (.long (-1000000000000 : Int64)), .second]) rfl hr) ?_
                        refine Rch.step (st' := T.setTop (mkF m 21 #[.val (.long vj0), .second, .val (.long sj0), .second, .val (.int (12 : Int32)), .val (.long (-1000000000000 : Int64)), .second] [])) (fun _ hr => XS.goto X0.here hx rfl (pc0 := 46) (pc' := 21) rfl (hb hby d1_46) (by decide) (by decide) hr) ?_
                        refine Rch.step (st' := T.setTop (mkF m 23 #[.val (.long vj0), .second, .val (.long sj0), .second, .val (.int (12 : Int32)), .val (.long (-1000000000000 : Int64)), .second] [(.int (12 : Int32))])) (fun _ hr => XS.iload X0.here hx rfl (hb hby d1_21) rfl hr) ?_
                        refine Rch.step (st' := T.setTop (mkF m 25 #[.val (.long vj0), .second, .val (.long sj0), .second, .val (.int (12 : Int32)), .val (.long (-1000000000000 : Int64)), .second] [(.int (19 : Int32)), (.int (12 : Int32))])) (fun _ hr => XS.bipush X0.here hx rfl (hb hby d1_23) hr) ?_
                        have hc23 : (12 : Int32) < (19 : Int32) := by decide
                        refine Rch.step (st' := T.setTop (mkF m 28 #[.val (.long vj0), .second, .val (.long sj0), .second, .val (.int (12 : Int32)), .val (.long (-1000000000000 : Int64)), .second] [])) (fun _ hr => XS.icmpNo X0.here hx rfl (hb hby d1_25) rfl (tlt hc23).2.1 hr) ?_
                        refine Rch.step (st' := T.setTop (mkF m 29 #[.val (.long vj0), .second, .val (.long sj0), .second, .val (.int (12 : Int32)), .val (.long (-1000000000000 : Int64)), .second] [(.long sj0)])) (fun _ hr => XS.lloadN X0.here hx rfl (hb hby d1_28) rfl hr) ?_
                        refine Rch.step (st' := T.setTop (mkF m 31 #[.val (.long vj0), .second, .val (.long sj0), .second, .val (.int (12 : Int32)), .val (.long (-1000000000000 : Int64)), .second] [(.long (-1000000000000 : Int64)), (.long sj0)])) (fun _ hr => XS.lload X0.here hx rfl (hb hby d1_29) rfl hr) ?_
                        refine Rch.step (st' := T.setTop (mkF m 32 #[.val (.long vj0), .second, .val (.long sj0), .second, .val (.int (12 : Int32)), .val (.long (-1000000000000 : Int64)), .second] [(.int (lcmpW sj0 (-1000000000000 : Int64)))])) (fun _ hr => XS.lcmp X0.here hx rfl (hb hby d1_31) rfl hr) ?_
                        by_cases hc24 : (-1000000000000 : Int64) < sj0
                        · rw [if_pos hc24]
                          refine Rch.step (st' := T.setTop (mkF m 49 #[.val (.long vj0), .second, .val (.long sj0), .second, .val (.int (12 : Int32)), .val (.long (-1000000000000 : Int64)), .second] [])) (fun _ hr => XS.ifYes X0.here hx rfl (pc0 := 32) (pc' := 49) rfl (hb hby d1_32) rfl ((if0 _ _).trans (tlt ((lw_gt sj0 (-1000000000000 : Int64)).mpr hc24)).2.2.1) (by decide) (by decide) hr) ?_
                          exact b1_49 ⟨X0, hx, hZ, hw, hby, hml, hown, hret, hlk, e0, Z0, N0⟩ vj0 sj0 (12 : Int32) (-1000000000000 : Int64)
                        · rw [if_neg hc24]
                          refine Rch.step (st' := T.setTop (mkF m 35 #[.val (.long vj0), .second, .val (.long sj0), .second, .val (.int (12 : Int32)), .val (.long (-1000000000000 : Int64)), .second] [])) (fun _ hr => XS.ifNo X0.here hx rfl (hb hby d1_32) rfl ((if0 _ _).trans (flt (fun q => hc24 ((lw_gt sj0 (-1000000000000 : Int64)).mp q))).2.2.1) hr) ?_
                          refine Rch.step (st' := T.setTop (mkF m 38 #[.val (.long vj0), .second, .val (.long sj0), .second, .val (.int (13 : Int32)), .val (.long (-1000000000000 : Int64)), .second] [])) (fun _ hr => XS.iinc X0.here hx rfl (hb hby d1_35) rfl (l' := #[.val (.long vj0), .second, .val (.long sj0), .second, .val (.int (13 : Int32)), .val (.long (-1000000000000 : Int64)), .second]) rfl hr) ?_
                          refine Rch.step (st' := T.setTop (mkF m 40 #[.val (.long vj0), .second, .val (.long sj0), .second, .val (.int (13 : Int32)), .val (.long (-1000000000000 : Int64)), .second] [(.long (-1000000000000 : Int64))])) (fun _ hr => XS.lload X0.here hx rfl (hb hby d1_38) rfl hr) ?_
                          refine Rch.step (st' := T.setTop (mkF m 43 #[.val (.long vj0), .second, .val (.long sj0), .second, .val (.int (13 : Int32)), .val (.long (-1000000000000 : Int64)), .second] [(.long (10 : Int64)), (.long (-1000000000000 : Int64))])) (fun _ hr => X0.ldc2Long hx hown (mvT hZ (hw _ (List.mem_of_getElem? (i := 26) rfl))) (g := (mkF m 40 #[.val (.long vj0), .second, .val (.long sj0), .second, .val (.int (13 : Int32)), .val (.long (-1000000000000 : Int64)), .second] [(.long (-1000000000000 : Int64))])) rfl (hb hby d1_40) _ hr) ?_
                          refine Rch.step (st' := T.setTop (mkF m 44 #[.val (.long vj0), .second, .val (.long sj0), .second, .val (.int (13 : Int32)), .val (.long (-1000000000000 : Int64)), .second] [(.long ((-1000000000000 : Int64) * (10 : Int64)))])) (fun _ hr => XS.lmul X0.here hx rfl (hb hby d1_43) rfl hr) ?_
                          rw [show ((-1000000000000 : Int64) * (10 : Int64)) = (-10000000000000 : Int64) from by decide]
                          refine Rch.step (st' := T.setTop (mkF m 46 #[.val (.long vj0), .second, .val (.long sj0), .second, .val (.int (13 : Int32)), .val (.long (-10000000000000 : Int64)), .second] [])) (fun _ hr => XS.lstore X0.here hx rfl (hb hby d1_44) rfl (l' := #[.val (.long vj0), .second, .val (.long sj0), .second, .val (.int (13 : Int32)), .val (.long (-10000000000000 : Int64)), .second]) rfl hr) ?_
                          refine Rch.step (st' := T.setTop (mkF m 21 #[.val (.long vj0), .second, .val (.long sj0), .second, .val (.int (13 : Int32)), .val (.long (-10000000000000 : Int64)), .second] [])) (fun _ hr => XS.goto X0.here hx rfl (pc0 := 46) (pc' := 21) rfl (hb hby d1_46) (by decide) (by decide) hr) ?_
                          refine Rch.step (st' := T.setTop (mkF m 23 #[.val (.long vj0), .second, .val (.long sj0), .second, .val (.int (13 : Int32)), .val (.long (-10000000000000 : Int64)), .second] [(.int (13 : Int32))])) (fun _ hr => XS.iload X0.here hx rfl (hb hby d1_21) rfl hr) ?_
                          refine Rch.step (st' := T.setTop (mkF m 25 #[.val (.long vj0), .second, .val (.long sj0), .second, .val (.int (13 : Int32)), .val (.long (-10000000000000 : Int64)), .second] [(.int (19 : Int32)), (.int (13 : Int32))])) (fun _ hr => XS.bipush X0.here hx rfl (hb hby d1_23) hr) ?_
                          have hc25 : (13 : Int32) < (19 : Int32) := by decide
                          refine Rch.step (st' := T.setTop (mkF m 28 #[.val (.long vj0), .second, .val (.long sj0), .second, .val (.int (13 : Int32)), .val (.long (-10000000000000 : Int64)), .second] [])) (fun _ hr => XS.icmpNo X0.here hx rfl (hb hby d1_25) rfl (tlt hc25).2.1 hr) ?_
                          refine Rch.step (st' := T.setTop (mkF m 29 #[.val (.long vj0), .second, .val (.long sj0), .second, .val (.int (13 : Int32)), .val (.long (-10000000000000 : Int64)), .second] [(.long sj0)])) (fun _ hr => XS.lloadN X0.here hx rfl (hb hby d1_28) rfl hr) ?_
                          refine Rch.step (st' := T.setTop (mkF m 31 #[.val (.long vj0), .second, .val (.long sj0), .second, .val (.int (13 : Int32)), .val (.long (-10000000000000 : Int64)), .second] [(.long (-10000000000000 : Int64)), (.long sj0)])) (fun _ hr => XS.lload X0.here hx rfl (hb hby d1_29) rfl hr) ?_
                          refine Rch.step (st' := T.setTop (mkF m 32 #[.val (.long vj0), .second, .val (.long sj0), .second, .val (.int (13 : Int32)), .val (.long (-10000000000000 : Int64)), .second] [(.int (lcmpW sj0 (-10000000000000 : Int64)))])) (fun _ hr => XS.lcmp X0.here hx rfl (hb hby d1_31) rfl hr) ?_
                          by_cases hc26 : (-10000000000000 : Int64) < sj0
                          · rw [if_pos hc26]
                            refine Rch.step (st' := T.setTop (mkF m 49 #[.val (.long vj0), .second, .val (.long sj0), .second, .val (.int (13 : Int32)), .val (.long (-10000000000000 : Int64)), .second] [])) (fun _ hr => XS.ifYes X0.here hx rfl (pc0 := 32) (pc' := 49) rfl (hb hby d1_32) rfl ((if0 _ _).trans (tlt ((lw_gt sj0 (-10000000000000 : Int64)).mpr hc26)).2.2.1) (by decide) (by decide) hr) ?_
                            exact b1_49 ⟨X0, hx, hZ, hw, hby, hml, hown, hret, hlk, e0, Z0, N0⟩ vj0 sj0 (13 : Int32) (-10000000000000 : Int64)
                          · rw [if_neg hc26]
                            refine Rch.step (st' := T.setTop (mkF m 35 #[.val (.long vj0), .second, .val (.long sj0), .second, .val (.int (13 : Int32)), .val (.long (-10000000000000 : Int64)), .second] [])) (fun _ hr => XS.ifNo X0.here hx rfl (hb hby d1_32) rfl ((if0 _ _).trans (flt (fun q => hc26 ((lw_gt sj0 (-10000000000000 : Int64)).mp q))).2.2.1) hr) ?_
                            refine Rch.step (st' := T.setTop (mkF m 38 #[.val (.long vj0), .second, .val (.long sj0), .second, .val (.int (14 : Int32)), .val (.long (-10000000000000 : Int64)), .second] [])) (fun _ hr => XS.iinc X0.here hx rfl (hb hby d1_35) rfl (l' := #[.val (.long vj0), .second, .val (.long sj0), .second, .val (.int (14 : Int32)), .val (.long (-10000000000000 : Int64)), .second]) rfl hr) ?_
                            refine Rch.step (st' := T.setTop (mkF m 40 #[.val (.long vj0), .second, .val (.long sj0), .second, .val (.int (14 : Int32)), .val (.long (-10000000000000 : Int64)), .second] [(.long (-10000000000000 : Int64))])) (fun _ hr => XS.lload X0.here hx rfl (hb hby d1_38) rfl hr) ?_
                            refine Rch.step (st' := T.setTop (mkF m 43 #[.val (.long vj0), .second, .val (.long sj0), .second, .val (.int (14 : Int32)), .val (.long (-10000000000000 : Int64)), .second] [(.long (10 : Int64)), (.long (-10000000000000 : Int64))])) (fun _ hr => X0.ldc2Long hx hown (mvT hZ (hw _ (List.mem_of_getElem? (i := 26) rfl))) (g := (mkF m 40 #[.val (.long vj0), .second, .val (.long sj0), .second, .val (.int (14 : Int32)), .val (.long (-10000000000000 : Int64)), .second] [(.long (-10000000000000 : Int64))])) rfl (hb hby d1_40) _ hr) ?_
                            refine Rch.step (st' := T.setTop (mkF m 44 #[.val (.long vj0), .second, .val (.long sj0), .second, .val (.int (14 : Int32)), .val (.long (-10000000000000 : Int64)), .second] [(.long ((-10000000000000 : Int64) * (10 : Int64)))])) (fun _ hr => XS.lmul X0.here hx rfl (hb hby d1_43) rfl hr) ?_
                            rw [show ((-10000000000000 : Int64) * (10 : Int64)) = (-100000000000000 : Int64) from by decide]
                            refine Rch.step (st' := T.setTop (mkF m 46 #[.val (.long vj0), .second, .val (.long sj0), .second, .val (.int (14 : Int32)), .val (.long (-100000000000000 : Int64)), .second] [])) (fun _ hr => XS.lstore X0.here hx rfl (hb hby d1_44) rfl (l' := #[.val (.long vj0), .second, .val (.long sj0), .second, .val (.int (14 : Int32)), .val (.long (-100000000000000 : Int64)), .second]) rfl hr) ?_
                            refine Rch.step (st' := T.setTop (mkF m 21 #[.val (.long vj0), .second, .val (.long sj0), .second, .val (.int (14 : Int32)), .val (.long (-100000000000000 : Int64)), .second] [])) (fun _ hr => XS.goto X0.here hx rfl (pc0 := 46) (pc' := 21) rfl (hb hby d1_46) (by decide) (by decide) hr) ?_
                            refine Rch.step (st' := T.setTop (mkF m 23 #[.val (.long vj0), .second, .val (.long sj0), .second, .val (.int (14 : Int32)), .val (.long (-100000000000000 : Int64)), .second] [(.int (14 : Int32))])) (fun _ hr => XS.iload X0.here hx rfl (hb hby d1_21) rfl hr) ?_
                            refine Rch.step (st' := T.setTop (mkF m 25 #[.val (.long vj0), .second, .val (.long sj0), .second, .val (.int (14 : Int32)), .val (.long (-100000000000000 : Int64)), .second] [(.int (19 : Int32)), (.int (14 : Int32))])) (fun _ hr => XS.bipush X0.here hx rfl (hb hby d1_23) hr) ?_
                            have hc27 : (14 : Int32) < (19 : Int32) := by decide
                            refine Rch.step (st' := T.setTop (mkF m 28 #[.val (.long vj0), .second, .val (.long sj0), .second, .val (.int (14 : Int32)), .val (.long (-100000000000000 : Int64)), .second] [])) (fun _ hr => XS.icmpNo X0.here hx rfl (hb hby d1_25) rfl (tlt hc27).2.1 hr) ?_
                            refine Rch.step (st' := T.setTop (mkF m 29 #[.val (.long vj0), .second, .val (.long sj0), .second, .val (.int (14 : Int32)), .val (.long (-100000000000000 : Int64)), .second] [(.long sj0)])) (fun _ hr => XS.lloadN X0.here hx rfl (hb hby d1_28) rfl hr) ?_
                            refine Rch.step (st' := T.setTop (mkF m 31 #[.val (.long vj0), .second, .val (.long sj0), .second, .val (.int (14 : Int32)), .val (.long (-100000000000000 : Int64)), .second] [(.long (-100000000000000 : Int64)), (.long sj0)])) (fun _ hr => XS.lload X0.here hx rfl (hb hby d1_29) rfl hr) ?_
                            refine Rch.step (st' := T.setTop (mkF m 32 #[.val (.long vj0), .second, .val (.long sj0), .second, .val (.int (14 : Int32)), .val (.long (-100000000000000 : Int64)), .second] [(.int (lcmpW sj0 (-100000000000000 : Int64)))])) (fun _ hr => XS.lcmp X0.here hx rfl (hb hby d1_31) rfl hr) ?_
                            by_cases hc28 : (-100000000000000 : Int64) < sj0
                            · rw [if_pos hc28]
                              refine Rch.step (st' := T.setTop (mkF m 49 #[.val (.long vj0), .second, .val (.long sj0), .second, .val (.int (14 : Int32)), .val (.long (-100000000000000 : Int64)), .second] [])) (fun _ hr => XS.ifYes X0.here hx rfl (pc0 := 32) (pc' := 49) rfl (hb hby d1_32) rfl ((if0 _ _).trans (tlt ((lw_gt sj0 (-100000000000000 : Int64)).mpr hc28)).2.2.1) (by decide) (by decide) hr) ?_
                              exact b1_49 ⟨X0, hx, hZ, hw, hby, hml, hown, hret, hlk, e0, Z0, N0⟩ vj0 sj0 (14 : Int32) (-100000000000000 : Int64)
                            · rw [if_neg hc28]
                              refine Rch.step (st' := T.setTop (mkF m 35 #[.val (.long vj0), .second, .val (.long sj0), .second, .val (.int (14 : Int32)), .val (.long (-100000000000000 : Int64)), .second] [])) (fun _ hr => XS.ifNo X0.here hx rfl (hb hby d1_32) rfl ((if0 _ _).trans (flt (fun q => hc28 ((lw_gt sj0 (-100000000000000 : Int64)).mp q))).2.2.1) hr) ?_
                              refine Rch.step (st' := T.setTop (mkF m 38 #[.val (.long vj0), .second, .val (.long sj0), .second, .val (.int (15 : Int32)), .val (.long (-100000000000000 : Int64)), .second] [])) (fun _ hr => XS.iinc X0.here hx rfl (hb hby d1_35) rfl (l' := #[.val (.long vj0), .second, .val (.long sj0), .second, .val (.int (15 : Int32)), .val (.long (-100000000000000 : Int64)), .second]) rfl hr) ?_
                              refine Rch.step (st' := T.setTop (mkF m 40 #[.val (.long vj0), .second, .val (.long sj0), .second, .val (.int (15 : Int32)), .val (.long (-100000000000000 : Int64)), .second] [(.long (-100000000000000 : Int64))])) (fun _ hr => XS.lload X0.here hx rfl (hb hby d1_38) rfl hr) ?_
                              refine Rch.step (st' := T.setTop (mkF m 43 #[.val (.long vj0), .second, .val (.long sj0), .second, .val (.int (15 : Int32)), .val (.long (-100000000000000 : Int64)), .second] [(.long (10 : Int64)), (.long (-100000000000000 : Int64))])) (fun _ hr => X0.ldc2Long hx hown (mvT hZ (hw _ (List.mem_of_getElem? (i := 26) rfl))) (g := (mkF m 40 #[.val (.long vj0), .second, .val (.long sj0), .second, .val (.int (15 : Int32)), .val (.long (-100000000000000 : Int64)), .second] [(.long (-100000000000000 : Int64))])) rfl (hb hby d1_40) _ hr) ?_
                              refine Rch.step (st' := T.setTop (mkF m 44 #[.val (.long vj0), .second, .val (.long sj0), .second, .val (.int (15 : Int32)), .val (.long (-100000000000000 : Int64)), .second] [(.long ((-100000000000000 : Int64) * (10 : Int64)))])) (fun _ hr => XS.lmul X0.here hx rfl (hb hby d1_43) rfl hr) ?_
                              rw [show ((-100000000000000 : Int64) * (10 : Int64)) = (-1000000000000000 : Int64) from by decide]
                              refine Rch.step (st' := T.setTop (mkF m 46 #[.val (.long vj0), .second, .val (.long sj0), .second, .val (.int (15 : Int32)), .val (.long (-1000000000000000 : Int64)), .second] [])) (fun _ hr => XS.lstore X0.here hx rfl (hb hby d1_44) rfl (l' := #[.val (.long vj0), .second, .val (.long sj0), .second, .val (.int (15 : Int32)), .val (.long (-1000000000000000 : Int64)), .second]) rfl hr) ?_
                              refine Rch.step (st' := T.setTop (mkF m 21 #[.val (.long vj0), .second, .val (.long sj0), .second, .val (.int (15 : Int32)), .val (.long (-1000000000000000 : Int64)), .second] [])) (fun _ hr => XS.goto X0.here hx rfl (pc0 := 46) (pc' := 21) rfl (hb hby d1_46) (by decide) (by decide) hr) ?_
                              refine Rch.step (st' := T.setTop (mkF m 23 #[.val (.long vj0), .second, .val (.long sj0), .second, .val (.int (15 : Int32)), .val (.long (-1000000000000000 : Int64)), .second] [(.int (15 : Int32))])) (fun _ hr => XS.iload X0.here hx rfl (hb hby d1_21) rfl hr) ?_
                              refine Rch.step (st' := T.setTop (mkF m 25 #[.val (.long vj0), .second, .val (.long sj0), .second, .val (.int (15 : Int32)), .val (.long (-1000000000000000 : Int64)), .second] [(.int (19 : Int32)), (.int (15 : Int32))])) (fun _ hr => XS.bipush X0.here hx rfl (hb hby d1_23) hr) ?_
                              have hc29 : (15 : Int32) < (19 : Int32) := by decide
                              refine Rch.step (st' := T.setTop (mkF m 28 #[.val (.long vj0), .second, .val (.long sj0), .second, .val (.int (15 : Int32)), .val (.long (-1000000000000000 : Int64)), .second] [])) (fun _ hr => XS.icmpNo X0.here hx rfl (hb hby d1_25) rfl (tlt hc29).2.1 hr) ?_
                              refine Rch.step (st' := T.setTop (mkF m 29 #[.val (.long vj0), .second, .val (.long sj0), .second, .val (.int (15 : Int32)), .val (.long (-1000000000000000 : Int64)), .second] [(.long sj0)])) (fun _ hr => XS.lloadN X0.here hx rfl (hb hby d1_28) rfl hr) ?_
                              refine Rch.step (st' := T.setTop (mkF m 31 #[.val (.long vj0), .second, .val (.long sj0), .second, .val (.int (15 : Int32)), .val (.long (-1000000000000000 : Int64)), .second] [(.long (-1000000000000000 : Int64)), (.long sj0)])) (fun _ hr => XS.lload X0.here hx rfl (hb hby d1_29) rfl hr) ?_
                              refine Rch.step (st' := T.setTop (mkF m 32 #[.val (.long vj0), .second, .val (.long sj0), .second, .val (.int (15 : Int32)), .val (.long (-1000000000000000 : Int64)), .second] [(.int (lcmpW sj0 (-1000000000000000 : Int64)))])) (fun _ hr => XS.lcmp X0.here hx rfl (hb hby d1_31) rfl hr) ?_
                              by_cases hc30 : (-1000000000000000 : Int64) < sj0
                              · rw [if_pos hc30]
                                refine Rch.step (st' := T.setTop (mkF m 49 #[.val (.long vj0), .second, .val (.long sj0), .second, .val (.int (15 : Int32)), .val (.long (-1000000000000000 : Int64)), .second] [])) (fun _ hr => XS.ifYes X0.here hx rfl (pc0 := 32) (pc' := 49) rfl (hb hby d1_32) rfl ((if0 _ _).trans (tlt ((lw_gt sj0 (-1000000000000000 : Int64)).mpr hc30)).2.2.1) (by decide) (by decide) hr) ?_
                                exact b1_49 ⟨X0, hx, hZ, hw, hby, hml, hown, hret, hlk, e0, Z0, N0⟩ vj0 sj0 (15 : Int32) (-1000000000000000 : Int64)
                              · rw [if_neg hc30]
                                refine Rch.step (st' := T.setTop (mkF m 35 #[.val (.long vj0), .second, .val (.long sj0), .second, .val (.int (15 : Int32)), .val (.long (-1000000000000000 : Int64)), .second] [])) (fun _ hr => XS.ifNo X0.here hx rfl (hb hby d1_32) rfl ((if0 _ _).trans (flt (fun q => hc30 ((lw_gt sj0 (-1000000000000000 : Int64)).mp q))).2.2.1) hr) ?_
                                refine Rch.step (st' := T.setTop (mkF m 38 #[.val (.long vj0), .second, .val (.long sj0), .second, .val (.int (16 : Int32)), .val (.long (-1000000000000000 : Int64)), .second] [])) (fun _ hr => XS.iinc X0.here hx rfl (hb hby d1_35) rfl (l' := #[.val (.long vj0), .second, .val (.long sj0), .second, .val (.int (16 : Int32)), .val (.long (-1000000000000000 : Int64)), .second]) rfl hr) ?_
                                refine Rch.step (st' := T.setTop (mkF m 40 #[.val (.long vj0), .second, .val (.long sj0), .second, .val (.int (16 : Int32)), .val (.long (-1000000000000000 : Int64)), .second] [(.long (-1000000000000000 : Int64))])) (fun _ hr => XS.lload X0.here hx rfl (hb hby d1_38) rfl hr) ?_
                                refine Rch.step (st' := T.setTop (mkF m 43 #[.val (.long vj0), .second, .val (.long sj0), .second, .val (.int (16 : Int32)), .val (.long (-1000000000000000 : Int64)), .second] [(.long (10 : Int64)), (.long (-1000000000000000 : Int64))])) (fun _ hr => X0.ldc2Long hx hown (mvT hZ (hw _ (List.mem_of_getElem? (i := 26) rfl))) (g := (mkF m 40 #[.val (.long vj0), .second, .val (.long sj0), .second, .val (.int (16 : Int32)), .val (.long (-1000000000000000 : Int64)), .second] [(.long (-1000000000000000 : Int64))])) rfl (hb hby d1_40) _ hr) ?_
                                refine Rch.step (st' := T.setTop (mkF m 44 #[.val (.long vj0), .second, .val (.long sj0), .second, .val (.int (16 : Int32)), .val (.long (-1000000000000000 : Int64)), .second] [(.long ((-1000000000000000 : Int64) * (10 : Int64)))])) (fun _ hr => XS.lmul X0.here hx rfl (hb hby d1_43) rfl hr) ?_
                                rw [show ((-1000000000000000 : Int64) * (10 : Int64)) = (-10000000000000000 : Int64) from by decide]
                                refine Rch.step (st' := T.setTop (mkF m 46 #[.val (.long vj0), .second, .val (.long sj0), .second, .val (.int (16 : Int32)), .val (.long (-10000000000000000 : Int64)), .second] [])) (fun _ hr => XS.lstore X0.here hx rfl (hb hby d1_44) rfl (l' := #[.val (.long vj0), .second, .val (.long sj0), .second, .val (.int (16 : Int32)), .val (.long (-10000000000000000 : Int64)), .second]) rfl hr) ?_
                                refine Rch.step (st' := T.setTop (mkF m 21 #[.val (.long vj0), .second, .val (.long sj0), .second, .val (.int (16 : Int32)), .val (.long (-10000000000000000 : Int64)), .second] [])) (fun _ hr => XS.goto X0.here hx rfl (pc0 := 46) (pc' := 21) rfl (hb hby d1_46) (by decide) (by decide) hr) ?_
                                refine Rch.step (st' := T.setTop (mkF m 23 #[.val (.long vj0), .second, .val (.long sj0), .second, .val (.int (16 : Int32)), .val (.long (-10000000000000000 : Int64)), .second] [(.int (16 : Int32))])) (fun _ hr => XS.iload X0.here hx rfl (hb hby d1_21) rfl hr) ?_
                                refine Rch.step (st' := T.setTop (mkF m 25 #[.val (.long vj0), .second, .val (.long sj0), .second, .val (.int (16 : Int32)), .val (.long (-10000000000000000 : Int64)), .second] [(.int (19 : Int32)), (.int (16 : Int32))])) (fun _ hr => XS.bipush X0.here hx rfl (hb hby d1_23) hr) ?_
                                have hc31 : (16 : Int32) < (19 : Int32) := by decide
                                refine Rch.step (st' := T.setTop (mkF m 28 #[.val (.long vj0), .second, .val (.long sj0), .second, .val (.int (16 : Int32)), .val (.long (-10000000000000000 : Int64)), .second] [])) (fun _ hr => XS.icmpNo X0.here hx rfl (hb hby d1_25) rfl (tlt hc31).2.1 hr) ?_
                                refine Rch.step (st' := T.setTop (mkF m 29 #[.val (.long vj0), .second, .val (.long sj0), .second, .val (.int (16 : Int32)), .val (.long (-10000000000000000 : Int64)), .second] [(.long sj0)])) (fun _ hr => XS.lloadN X0.here hx rfl (hb hby d1_28) rfl hr) ?_
                                refine Rch.step (st' := T.setTop (mkF m 31 #[.val (.long vj0), .second, .val (.long sj0), .second, .val (.int (16 : Int32)), .val (.long (-10000000000000000 : Int64)), .second] [(.long (-10000000000000000 : Int64)), (.long sj0)])) (fun _ hr => XS.lload X0.here hx rfl (hb hby d1_29) rfl hr) ?_
                                refine Rch.step (st' := T.setTop (mkF m 32 #[.val (.long vj0), .second, .val (.long sj0), .second, .val (.int (16 : Int32)), .val (.long (-10000000000000000 : Int64)), .second] [(.int (lcmpW sj0 (-10000000000000000 : Int64)))])) (fun _ hr => XS.lcmp X0.here hx rfl (hb hby d1_31) rfl hr) ?_
                                by_cases hc32 : (-10000000000000000 : Int64) < sj0
                                · rw [if_pos hc32]
                                  refine Rch.step (st' := T.setTop (mkF m 49 #[.val (.long vj0), .second, .val (.long sj0), .second, .val (.int (16 : Int32)), .val (.long (-10000000000000000 : Int64)), .second] [])) (fun _ hr => XS.ifYes X0.here hx rfl (pc0 := 32) (pc' := 49) rfl (hb hby d1_32) rfl ((if0 _ _).trans (tlt ((lw_gt sj0 (-10000000000000000 : Int64)).mpr hc32)).2.2.1) (by decide) (by decide) hr) ?_
                                  exact b1_49 ⟨X0, hx, hZ, hw, hby, hml, hown, hret, hlk, e0, Z0, N0⟩ vj0 sj0 (16 : Int32) (-10000000000000000 : Int64)
                                · rw [if_neg hc32]
                                  refine Rch.step (st' := T.setTop (mkF m 35 #[.val (.long vj0), .second, .val (.long sj0), .second, .val (.int (16 : Int32)), .val (.long (-10000000000000000 : Int64)), .second] [])) (fun _ hr => XS.ifNo X0.here hx rfl (hb hby d1_32) rfl ((if0 _ _).trans (flt (fun q => hc32 ((lw_gt sj0 (-10000000000000000 : Int64)).mp q))).2.2.1) hr) ?_
                                  refine Rch.step (st' := T.setTop (mkF m 38 #[.val (.long vj0), .second, .val (.long sj0), .second, .val (.int (17 : Int32)), .val (.long (-10000000000000000 : Int64)), .second] [])) (fun _ hr => XS.iinc X0.here hx rfl (hb hby d1_35) rfl (l' := #[.val (.long vj0), .second, .val (.long sj0), .second, .val (.int (17 : Int32)), .val (.long (-10000000000000000 : Int64)), .second]) rfl hr) ?_
                                  refine Rch.step (st' := T.setTop (mkF m 40 #[.val (.long vj0), .second, .val (.long sj0), .second, .val (.int (17 : Int32)), .val (.long (-10000000000000000 : Int64)), .second] [(.long (-10000000000000000 : Int64))])) (fun _ hr => XS.lload X0.here hx rfl (hb hby d1_38) rfl hr) ?_
                                  refine Rch.step (st' := T.setTop (mkF m 43 #[.val (.long vj0), .second, .val (.long sj0), .second, .val (.int (17 : Int32)), .val (.long (-10000000000000000 : Int64)), .second] [(.long (10 : Int64)), (.long (-10000000000000000 : Int64))])) (fun _ hr => X0.ldc2Long hx hown (mvT hZ (hw _ (List.mem_of_getElem? (i := 26) rfl))) (g := (mkF m 40 #[.val (.long vj0), .second, .val (.long sj0), .second, .val (.int (17 : Int32)), .val (.long (-10000000000000000 : Int64)), .second] [(.long (-10000000000000000 : Int64))])) rfl (hb hby d1_40) _ hr) ?_
                                  refine Rch.step (st' := T.setTop (mkF m 44 #[.val (.long vj0), .second, .val (.long sj0), .second, .val (.int (17 : Int32)), .val (.long (-10000000000000000 : Int64)), .second] [(.long ((-10000000000000000 : Int64) * (10 : Int64)))])) (fun _ hr => XS.lmul X0.here hx rfl (hb hby d1_43) rfl hr) ?_
                                  rw [show ((-10000000000000000 : Int64) * (10 : Int64)) = (-100000000000000000 : Int64) from by decide]
                                  refine Rch.step (st' := T.setTop (mkF m 46 #[.val (.long vj0), .second, .val (.long sj0), .second, .val (.int (17 : Int32)), .val (.long (-100000000000000000 : Int64)), .second] [])) (fun _ hr => XS.lstore X0.here hx rfl (hb hby d1_44) rfl (l' := #[.val (.long vj0), .second, .val (.long sj0), .second, .val (.int (17 : Int32)), .val (.long (-100000000000000000 : Int64)), .second]) rfl hr) ?_
                                  refine Rch.step (st' := T.setTop (mkF m 21 #[.val (.long vj0), .second, .val (.long sj0), .second, .val (.int (17 : Int32)), .val (.long (-100000000000000000 : Int64)), .second] [])) (fun _ hr => XS.goto X0.here hx rfl (pc0 := 46) (pc' := 21) rfl (hb hby d1_46) (by decide) (by decide) hr) ?_
                                  refine Rch.step (st' := T.setTop (mkF m 23 #[.val (.long vj0), .second, .val (.long sj0), .second, .val (.int (17 : Int32)), .val (.long (-100000000000000000 : Int64)), .second] [(.int (17 : Int32))])) (fun _ hr => XS.iload X0.here hx rfl (hb hby d1_21) rfl hr) ?_
                                  refine Rch.step (st' := T.setTop (mkF m 25 #[.val (.long vj0), .second, .val (.long sj0), .second, .val (.int (17 : Int32)), .val (.long (-100000000000000000 : Int64)), .second] [(.int (19 : Int32)), (.int (17 : Int32))])) (fun _ hr => XS.bipush X0.here hx rfl (hb hby d1_23) hr) ?_
                                  have hc33 : (17 : Int32) < (19 : Int32) := by decide
                                  refine Rch.step (st' := T.setTop (mkF m 28 #[.val (.long vj0), .second, .val (.long sj0), .second, .val (.int (17 : Int32)), .val (.long (-100000000000000000 : Int64)), .second] [])) (fun _ hr => XS.icmpNo X0.here hx rfl (hb hby d1_25) rfl (tlt hc33).2.1 hr) ?_
                                  refine Rch.step (st' := T.setTop (mkF m 29 #[.val (.long vj0), .second, .val (.long sj0), .second, .val (.int (17 : Int32)), .val (.long (-100000000000000000 : Int64)), .second] [(.long sj0)])) (fun _ hr => XS.lloadN X0.here hx rfl (hb hby d1_28) rfl hr) ?_
                                  refine Rch.step (st' := T.setTop (mkF m 31 #[.val (.long vj0), .second, .val (.long sj0), .second, .val (.int (17 : Int32)), .val (.long (-100000000000000000 : Int64)), .second] [(.long (-100000000000000000 : Int64)), (.long sj0)])) (fun _ hr => XS.lload X0.here hx rfl (hb hby d1_29) rfl hr) ?_
                                  refine Rch.step (st' := T.setTop (mkF m 32 #[.val (.long vj0), .second, .val (.long sj0), .second, .val (.int (17 : Int32)), .val (.long (-100000000000000000 : Int64)), .second] [(.int (lcmpW sj0 (-100000000000000000 : Int64)))])) (fun _ hr => XS.lcmp X0.here hx rfl (hb hby d1_31) rfl hr) ?_
                                  by_cases hc34 : (-100000000000000000 : Int64) < sj0
                                  · rw [if_pos hc34]
                                    refine Rch.step (st' := T.setTop (mkF m 49 #[.val (.long vj0), .second, .val (.long sj0), .second, .val (.int (17 : Int32)), .val (.long (-100000000000000000 : Int64)), .second] [])) (fun _ hr => XS.ifYes X0.here hx rfl (pc0 := 32) (pc' := 49) rfl (hb hby d1_32) rfl ((if0 _ _).trans (tlt ((lw_gt sj0 (-100000000000000000 : Int64)).mpr hc34)).2.2.1) (by decide) (by decide) hr) ?_
                                    exact b1_49 ⟨X0, hx, hZ, hw, hby, hml, hown, hret, hlk, e0, Z0, N0⟩ vj0 sj0 (17 : Int32) (-100000000000000000 : Int64)
                                  · rw [if_neg hc34]
                                    refine Rch.step (st' := T.setTop (mkF m 35 #[.val (.long vj0), .second, .val (.long sj0), .second, .val (.int (17 : Int32)), .val (.long (-100000000000000000 : Int64)), .second] [])) (fun _ hr => XS.ifNo X0.here hx rfl (hb hby d1_32) rfl ((if0 _ _).trans (flt (fun q => hc34 ((lw_gt sj0 (-100000000000000000 : Int64)).mp q))).2.2.1) hr) ?_
                                    refine Rch.step (st' := T.setTop (mkF m 38 #[.val (.long vj0), .second, .val (.long sj0), .second, .val (.int (18 : Int32)), .val (.long (-100000000000000000 : Int64)), .second] [])) (fun _ hr => XS.iinc X0.here hx rfl (hb hby d1_35) rfl (l' := #[.val (.long vj0), .second, .val (.long sj0), .second, .val (.int (18 : Int32)), .val (.long (-100000000000000000 : Int64)), .second]) rfl hr) ?_
                                    refine Rch.step (st' := T.setTop (mkF m 40 #[.val (.long vj0), .second, .val (.long sj0), .second, .val (.int (18 : Int32)), .val (.long (-100000000000000000 : Int64)), .second] [(.long (-100000000000000000 : Int64))])) (fun _ hr => XS.lload X0.here hx rfl (hb hby d1_38) rfl hr) ?_
                                    refine Rch.step (st' := T.setTop (mkF m 43 #[.val (.long vj0), .second, .val (.long sj0), .second, .val (.int (18 : Int32)), .val (.long (-100000000000000000 : Int64)), .second] [(.long (10 : Int64)), (.long (-100000000000000000 : Int64))])) (fun _ hr => X0.ldc2Long hx hown (mvT hZ (hw _ (List.mem_of_getElem? (i := 26) rfl))) (g := (mkF m 40 #[.val (.long vj0), .second, .val (.long sj0), .second, .val (.int (18 : Int32)), .val (.long (-100000000000000000 : Int64)), .second] [(.long (-100000000000000000 : Int64))])) rfl (hb hby d1_40) _ hr) ?_
                                    refine Rch.step (st' := T.setTop (mkF m 44 #[.val (.long vj0), .second, .val (.long sj0), .second, .val (.int (18 : Int32)), .val (.long (-100000000000000000 : Int64)), .second] [(.long ((-100000000000000000 : Int64) * (10 : Int64)))])) (fun _ hr => XS.lmul X0.here hx rfl (hb hby d1_43) rfl hr) ?_
                                    rw [show ((-100000000000000000 : Int64) * (10 : Int64)) = (-1000000000000000000 : Int64) from by decide]
                                    refine Rch.step (st' := T.setTop (mkF m 46 #[.val (.long vj0), .second, .val (.long sj0), .second, .val (.int (18 : Int32)), .val (.long (-1000000000000000000 : Int64)), .second] [])) (fun _ hr => XS.lstore X0.here hx rfl (hb hby d1_44) rfl (l' := #[.val (.long vj0), .second, .val (.long sj0), .second, .val (.int (18 : Int32)), .val (.long (-1000000000000000000 : Int64)), .second]) rfl hr) ?_
                                    refine Rch.step (st' := T.setTop (mkF m 21 #[.val (.long vj0), .second, .val (.long sj0), .second, .val (.int (18 : Int32)), .val (.long (-1000000000000000000 : Int64)), .second] [])) (fun _ hr => XS.goto X0.here hx rfl (pc0 := 46) (pc' := 21) rfl (hb hby d1_46) (by decide) (by decide) hr) ?_
                                    refine Rch.step (st' := T.setTop (mkF m 23 #[.val (.long vj0), .second, .val (.long sj0), .second, .val (.int (18 : Int32)), .val (.long (-1000000000000000000 : Int64)), .second] [(.int (18 : Int32))])) (fun _ hr => XS.iload X0.here hx rfl (hb hby d1_21) rfl hr) ?_
                                    refine Rch.step (st' := T.setTop (mkF m 25 #[.val (.long vj0), .second, .val (.long sj0), .second, .val (.int (18 : Int32)), .val (.long (-1000000000000000000 : Int64)), .second] [(.int (19 : Int32)), (.int (18 : Int32))])) (fun _ hr => XS.bipush X0.here hx rfl (hb hby d1_23) hr) ?_
                                    have hc35 : (18 : Int32) < (19 : Int32) := by decide
                                    refine Rch.step (st' := T.setTop (mkF m 28 #[.val (.long vj0), .second, .val (.long sj0), .second, .val (.int (18 : Int32)), .val (.long (-1000000000000000000 : Int64)), .second] [])) (fun _ hr => XS.icmpNo X0.here hx rfl (hb hby d1_25) rfl (tlt hc35).2.1 hr) ?_
                                    refine Rch.step (st' := T.setTop (mkF m 29 #[.val (.long vj0), .second, .val (.long sj0), .second, .val (.int (18 : Int32)), .val (.long (-1000000000000000000 : Int64)), .second] [(.long sj0)])) (fun _ hr => XS.lloadN X0.here hx rfl (hb hby d1_28) rfl hr) ?_
                                    refine Rch.step (st' := T.setTop (mkF m 31 #[.val (.long vj0), .second, .val (.long sj0), .second, .val (.int (18 : Int32)), .val (.long (-1000000000000000000 : Int64)), .second] [(.long (-1000000000000000000 : Int64)), (.long sj0)])) (fun _ hr => XS.lload X0.here hx rfl (hb hby d1_29) rfl hr) ?_
                                    refine Rch.step (st' := T.setTop (mkF m 32 #[.val (.long vj0), .second, .val (.long sj0), .second, .val (.int (18 : Int32)), .val (.long (-1000000000000000000 : Int64)), .second] [(.int (lcmpW sj0 (-1000000000000000000 : Int64)))])) (fun _ hr => XS.lcmp X0.here hx rfl (hb hby d1_31) rfl hr) ?_
                                    by_cases hc36 : (-1000000000000000000 : Int64) < sj0
                                    · rw [if_pos hc36]
                                      refine Rch.step (st' := T.setTop (mkF m 49 #[.val (.long vj0), .second, .val (.long sj0), .second, .val (.int (18 : Int32)), .val (.long (-1000000000000000000 : Int64)), .second] [])) (fun _ hr => XS.ifYes X0.here hx rfl (pc0 := 32) (pc' := 49) rfl (hb hby d1_32) rfl ((if0 _ _).trans (tlt ((lw_gt sj0 (-1000000000000000000 : Int64)).mpr hc36)).2.2.1) (by decide) (by decide) hr) ?_
                                      exact b1_49 ⟨X0, hx, hZ, hw, hby, hml, hown, hret, hlk, e0, Z0, N0⟩ vj0 sj0 (18 : Int32) (-1000000000000000000 : Int64)
                                    · rw [if_neg hc36]
                                      refine Rch.step (st' := T.setTop (mkF m 35 #[.val (.long vj0), .second, .val (.long sj0), .second, .val (.int (18 : Int32)), .val (.long (-1000000000000000000 : Int64)), .second] [])) (fun _ hr => XS.ifNo X0.here hx rfl (hb hby d1_32) rfl ((if0 _ _).trans (flt (fun q => hc36 ((lw_gt sj0 (-1000000000000000000 : Int64)).mp q))).2.2.1) hr) ?_
                                      refine Rch.step (st' := T.setTop (mkF m 38 #[.val (.long vj0), .second, .val (.long sj0), .second, .val (.int (19 : Int32)), .val (.long (-1000000000000000000 : Int64)), .second] [])) (fun _ hr => XS.iinc X0.here hx rfl (hb hby d1_35) rfl (l' := #[.val (.long vj0), .second, .val (.long sj0), .second, .val (.int (19 : Int32)), .val (.long (-1000000000000000000 : Int64)), .second]) rfl hr) ?_
                                      refine Rch.step (st' := T.setTop (mkF m 40 #[.val (.long vj0), .second, .val (.long sj0), .second, .val (.int (19 : Int32)), .val (.long (-1000000000000000000 : Int64)), .second] [(.long (-1000000000000000000 : Int64))])) (fun _ hr => XS.lload X0.here hx rfl (hb hby d1_38) rfl hr) ?_
                                      refine Rch.step (st' := T.setTop (mkF m 43 #[.val (.long vj0), .second, .val (.long sj0), .second, .val (.int (19 : Int32)), .val (.long (-1000000000000000000 : Int64)), .second] [(.long (10 : Int64)), (.long (-1000000000000000000 : Int64))])) (fun _ hr => X0.ldc2Long hx hown (mvT hZ (hw _ (List.mem_of_getElem? (i := 26) rfl))) (g := (mkF m 40 #[.val (.long vj0), .second, .val (.long sj0), .second, .val (.int (19 : Int32)), .val (.long (-1000000000000000000 : Int64)), .second] [(.long (-1000000000000000000 : Int64))])) rfl (hb hby d1_40) _ hr) ?_
                                      refine Rch.step (st' := T.setTop (mkF m 44 #[.val (.long vj0), .second, .val (.long sj0), .second, .val (.int (19 : Int32)), .val (.long (-1000000000000000000 : Int64)), .second] [(.long ((-1000000000000000000 : Int64) * (10 : Int64)))])) (fun _ hr => XS.lmul X0.here hx rfl (hb hby d1_43) rfl hr) ?_
                                      rw [show ((-1000000000000000000 : Int64) * (10 : Int64)) = (8446744073709551616 : Int64) from by decide]
                                      refine Rch.step (st' := T.setTop (mkF m 46 #[.val (.long vj0), .second, .val (.long sj0), .second, .val (.int (19 : Int32)), .val (.long (8446744073709551616 : Int64)), .second] [])) (fun _ hr => XS.lstore X0.here hx rfl (hb hby d1_44) rfl (l' := #[.val (.long vj0), .second, .val (.long sj0), .second, .val (.int (19 : Int32)), .val (.long (8446744073709551616 : Int64)), .second]) rfl hr) ?_
                                      refine Rch.step (st' := T.setTop (mkF m 21 #[.val (.long vj0), .second, .val (.long sj0), .second, .val (.int (19 : Int32)), .val (.long (8446744073709551616 : Int64)), .second] [])) (fun _ hr => XS.goto X0.here hx rfl (pc0 := 46) (pc' := 21) rfl (hb hby d1_46) (by decide) (by decide) hr) ?_
                                      refine Rch.step (st' := T.setTop (mkF m 23 #[.val (.long vj0), .second, .val (.long sj0), .second, .val (.int (19 : Int32)), .val (.long (8446744073709551616 : Int64)), .second] [(.int (19 : Int32))])) (fun _ hr => XS.iload X0.here hx rfl (hb hby d1_21) rfl hr) ?_
                                      refine Rch.step (st' := T.setTop (mkF m 25 #[.val (.long vj0), .second, .val (.long sj0), .second, .val (.int (19 : Int32)), .val (.long (8446744073709551616 : Int64)), .second] [(.int (19 : Int32)), (.int (19 : Int32))])) (fun _ hr => XS.bipush X0.here hx rfl (hb hby d1_23) hr) ?_
                                      have hc37 : ¬ ((19 : Int32) < (19 : Int32)) := by decide
                                      refine Rch.step (st' := T.setTop (mkF m 49 #[.val (.long vj0), .second, .val (.long sj0), .second, .val (.int (19 : Int32)), .val (.long (8446744073709551616 : Int64)), .second] [])) (fun _ hr => XS.icmpYes X0.here hx rfl (pc0 := 25) (pc' := 49) rfl (hb hby d1_25) rfl (flt hc37).2.1 (by decide) (by decide) hr) ?_
                                      exact b1_49 ⟨X0, hx, hZ, hw, hby, hml, hown, hret, hlk, e0, Z0, N0⟩ vj0 sj0 (19 : Int32) (8446744073709551616 : Int64)
set_option maxRecDepth 65536 in
set_option maxHeartbeats 40000000 in
theorem b1_0 {p : Program} {l : Launch} {e : Env} {s : State} {m : MethodId} {args : Array Value} {below : List Frame} {meth : Method} {c : Code} {T : State} {locs : List Loc} {Z : State} {a0 : Array Value} {h0 : Heap} {n0 : Nat} (cx : Cx ({ frames := 0, cells := 0, slots := 0, locals := 0 } : Room) prog_48_method_34_code 7 "org/lodestream/io/LineWriter" (some .int) p l e s m args below meth c T locs 0 0 Z a0 h0 n0) (vj0 : Int64) :
    Rch p e below s 0 0 (T.setTop (mkF m 0 #[.val (.long vj0), .second, .unset, .unset, .unset, .unset, .unset] [])) (PI (f1_0 vj0) h0 n0) := by
  obtain ⟨X0, hx, hZ, hw, hby, hml, hown, hret, hlk, e0, Z0, N0⟩ := cx
  unfold f1_0
  refine Rch.step (st' := T.setTop (mkF m 1 #[.val (.long vj0), .second, .unset, .unset, .unset, .unset, .unset] [(.long vj0)])) (fun _ hr => XS.lloadN X0.here hx rfl (hb hby d1_0) rfl hr) ?_
  refine Rch.step (st' := T.setTop (mkF m 2 #[.val (.long vj0), .second, .unset, .unset, .unset, .unset, .unset] [(.long (0 : Int64)), (.long vj0)])) (fun _ hr => XS.lconst X0.here hx rfl (hb hby d1_1) hr) ?_
  refine Rch.step (st' := T.setTop (mkF m 3 #[.val (.long vj0), .second, .unset, .unset, .unset, .unset, .unset] [(.int (lcmpW vj0 (0 : Int64)))])) (fun _ hr => XS.lcmp X0.here hx rfl (hb hby d1_2) rfl hr) ?_
  by_cases hc1 : vj0 < (0 : Int64)
  · rw [if_pos hc1]
    refine Rch.step (st' := T.setTop (mkF m 6 #[.val (.long vj0), .second, .unset, .unset, .unset, .unset, .unset] [])) (fun _ hr => XS.ifNo X0.here hx rfl (hb hby d1_3) rfl ((if0 _ _).trans (tlt ((lw_lt vj0 (0 : Int64)).mpr hc1)).2.1) hr) ?_
    refine Rch.step (st' := T.setTop (mkF m 7 #[.val (.long vj0), .second, .unset, .unset, .unset, .unset, .unset] [(.long vj0)])) (fun _ hr => XS.lloadN X0.here hx rfl (hb hby d1_6) rfl hr) ?_
    refine Rch.step (st' := T.setTop (mkF m 12 #[.val (.long vj0), .second, .unset, .unset, .unset, .unset, .unset] [(.long vj0)])) (fun _ hr => XS.goto X0.here hx rfl (pc0 := 7) (pc' := 12) rfl (hb hby d1_7) (by decide) (by decide) hr) ?_
    exact b1_12 ⟨X0, hx, hZ, hw, hby, hml, hown, hret, hlk, e0, Z0, N0⟩ vj0 vj0
  · rw [if_neg hc1]
    refine Rch.step (st' := T.setTop (mkF m 10 #[.val (.long vj0), .second, .unset, .unset, .unset, .unset, .unset] [])) (fun _ hr => XS.ifYes X0.here hx rfl (pc0 := 3) (pc' := 10) rfl (hb hby d1_3) rfl ((if0 _ _).trans (flt (fun q => hc1 ((lw_lt vj0 (0 : Int64)).mp q))).2.1) (by decide) (by decide) hr) ?_
    refine Rch.step (st' := T.setTop (mkF m 11 #[.val (.long vj0), .second, .unset, .unset, .unset, .unset, .unset] [(.long vj0)])) (fun _ hr => XS.lloadN X0.here hx rfl (hb hby d1_10) rfl hr) ?_
    refine Rch.step (st' := T.setTop (mkF m 12 #[.val (.long vj0), .second, .unset, .unset, .unset, .unset, .unset] [(.long (-vj0))])) (fun _ hr => XS.lneg X0.here hx rfl (hb hby d1_11) rfl hr) ?_
    exact b1_12 ⟨X0, hx, hZ, hw, hby, hml, hown, hret, hlk, e0, Z0, N0⟩ vj0 (-vj0)
theorem ef1 (m : MethodId) (x0 : Int64) : entryFrame m #[(.long x0)] 7 = mkF m 0 #[.val (.long x0), .second, .unset, .unset, .unset, .unset, .unset] [] := by first | (simp [entryFrame, mkF, argsToLocals, Value.category]; done) | rfl
set_option maxRecDepth 65536 in
set_option maxHeartbeats 40000000 in
theorem rm1 (l : Launch) (Z : State) (a0 : Array Value) (hw : ∀ d ∈ tables_1, d.before a0 Z = true) (ws : List Jvm.Cond) (x0 : Int64) (h0 : Heap) (n0 : Nat) (Z0 : n0 ≤ h0.size)  :
    MetFree l (⟨"org/lodestream/io/LineWriter", "decimalLength", "(J)I"⟩ : MethodName) (head1 (Jvm.Cond.code (⟨"org/lodestream/io/LineWriter", "decimalLength", "(J)I"⟩ : MethodName) prog_48_method_34_code 7 (some .int) :: ws) ({ frames := 0, cells := 0, slots := 0, locals := 0 } : Room)) (fun a U => a = #[(.long x0)] ∧ Z.Warmed39 U.vm ∧ U.heap = h0) (fun _ _ _ _ _ => True) (fun _ U o U' => ∃ v L, o = .returned v ∧ PI (f1_0 x0) h0 n0 v U'.heap L ∧ FrameEnd U o U' L ({ frames := 0, cells := 0, slots := 0, locals := 0 } : Room).cells ({ frames := 0, cells := 0, slots := 0, locals := 0 } : Room).slots) := by
  refine MetFree.of_bodySF (plainFor_of_name pn1) hisR ?_
  intro p e s m args below meth c s₁ Bd hml0 hP hK
  obtain ⟨rfl, hZ, hh⟩ := hP
  have hown : s.vm.findClass "org/lodestream/io/LineWriter" = some m.cls := findClass_of_methodNamed Bd.named
  have e0 : s₁.heap = h0 := by rw [← hh, Bd.state]; rfl
  obtain ⟨s₂, v, L, h1, h2, h3, h4, h5⟩ := b1_0 (T := s₁) ⟨Stand.of_body Bd, Bd.exec, hZ, hw, Bd.bytes, hml0, hown, Bd.returns, BodyLoose.notSynchronized Bd, e0, Z0, Fr.nil n0⟩ x0
  exact ⟨s₂, .returned v, castTop (ef1 m x0) h1, h2, h3, v, L, rfl, h4, h5⟩
-- body 3
theorem d3_0 : decode method_2_code 0 = .ok (.lload_n 0, 1) := by decide +kernel
theorem d3_1 : decode method_2_code 1 = .ok (.ldc2_w 7, 3) := by decide +kernel
theorem d3_4 : decode method_2_code 4 = .ok (.lcmp, 1) := by decide +kernel
theorem d3_5 : decode method_2_code 5 = .ok (.ifCond .ge 5, 3) := by decide +kernel
theorem d3_8 : decode method_2_code 8 = .ok (.iconst 1, 1) := by decide +kernel
theorem d3_9 : decode method_2_code 9 = .ok (.ireturn, 1) := by decide +kernel
theorem d3_10 : decode method_2_code 10 = .ok (.lload_n 0, 1) := by decide +kernel
theorem d3_11 : decode method_2_code 11 = .ok (.ldc2_w 9, 3) := by decide +kernel
theorem d3_14 : decode method_2_code 14 = .ok (.lcmp, 1) := by decide +kernel
theorem d3_15 : decode method_2_code 15 = .ok (.ifCond .ge 5, 3) := by decide +kernel
theorem d3_18 : decode method_2_code 18 = .ok (.iconst 2, 1) := by decide +kernel
theorem d3_19 : decode method_2_code 19 = .ok (.ireturn, 1) := by decide +kernel
theorem d3_20 : decode method_2_code 20 = .ok (.lload_n 0, 1) := by decide +kernel
theorem d3_21 : decode method_2_code 21 = .ok (.ldc2_w 11, 3) := by decide +kernel
theorem d3_24 : decode method_2_code 24 = .ok (.lcmp, 1) := by decide +kernel
theorem d3_25 : decode method_2_code 25 = .ok (.ifCond .ge 5, 3) := by decide +kernel
theorem d3_28 : decode method_2_code 28 = .ok (.iconst 3, 1) := by decide +kernel
theorem d3_29 : decode method_2_code 29 = .ok (.ireturn, 1) := by decide +kernel
theorem d3_30 : decode method_2_code 30 = .ok (.lload_n 0, 1) := by decide +kernel
theorem d3_31 : decode method_2_code 31 = .ok (.ldc2_w 13, 3) := by decide +kernel
theorem d3_34 : decode method_2_code 34 = .ok (.lcmp, 1) := by decide +kernel
theorem d3_35 : decode method_2_code 35 = .ok (.ifCond .ge 5, 3) := by decide +kernel
theorem d3_38 : decode method_2_code 38 = .ok (.iconst 4, 1) := by decide +kernel
theorem d3_39 : decode method_2_code 39 = .ok (.ireturn, 1) := by decide +kernel
theorem d3_40 : decode method_2_code 40 = .ok (.lload_n 0, 1) := by decide +kernel
theorem d3_41 : decode method_2_code 41 = .ok (.ldc2_w 15, 3) := by decide +kernel
theorem d3_44 : decode method_2_code 44 = .ok (.lcmp, 1) := by decide +kernel
theorem d3_45 : decode method_2_code 45 = .ok (.ifCond .ge 5, 3) := by decide +kernel
theorem d3_48 : decode method_2_code 48 = .ok (.iconst 5, 1) := by decide +kernel
theorem d3_49 : decode method_2_code 49 = .ok (.ireturn, 1) := by decide +kernel
theorem d3_50 : decode method_2_code 50 = .ok (.lload_n 0, 1) := by decide +kernel
theorem d3_51 : decode method_2_code 51 = .ok (.ldc2_w 17, 3) := by decide +kernel
theorem d3_54 : decode method_2_code 54 = .ok (.lcmp, 1) := by decide +kernel
theorem d3_55 : decode method_2_code 55 = .ok (.ifCond .ge 6, 3) := by decide +kernel
theorem d3_58 : decode method_2_code 58 = .ok (.bipush 6, 2) := by decide +kernel
theorem d3_60 : decode method_2_code 60 = .ok (.ireturn, 1) := by decide +kernel
theorem d3_61 : decode method_2_code 61 = .ok (.lload_n 0, 1) := by decide +kernel
theorem d3_62 : decode method_2_code 62 = .ok (.ldc2_w 19, 3) := by decide +kernel
theorem d3_65 : decode method_2_code 65 = .ok (.lcmp, 1) := by decide +kernel
theorem d3_66 : decode method_2_code 66 = .ok (.ifCond .ge 6, 3) := by decide +kernel
theorem d3_69 : decode method_2_code 69 = .ok (.bipush 7, 2) := by decide +kernel
theorem d3_71 : decode method_2_code 71 = .ok (.ireturn, 1) := by decide +kernel
theorem d3_72 : decode method_2_code 72 = .ok (.lload_n 0, 1) := by decide +kernel
theorem d3_73 : decode method_2_code 73 = .ok (.ldc2_w 21, 3) := by decide +kernel
theorem d3_76 : decode method_2_code 76 = .ok (.lcmp, 1) := by decide +kernel
theorem d3_77 : decode method_2_code 77 = .ok (.ifCond .ge 6, 3) := by decide +kernel
theorem d3_80 : decode method_2_code 80 = .ok (.bipush 8, 2) := by decide +kernel
theorem d3_82 : decode method_2_code 82 = .ok (.ireturn, 1) := by decide +kernel
theorem d3_83 : decode method_2_code 83 = .ok (.lload_n 0, 1) := by decide +kernel
theorem d3_84 : decode method_2_code 84 = .ok (.ldc2_w 23, 3) := by decide +kernel
theorem d3_87 : decode method_2_code 87 = .ok (.lcmp, 1) := by decide +kernel
theorem d3_88 : decode method_2_code 88 = .ok (.ifCond .ge 6, 3) := by decide +kernel
theorem d3_91 : decode method_2_code 91 = .ok (.bipush 9, 2) := by decide +kernel
theorem d3_93 : decode method_2_code 93 = .ok (.ireturn, 1) := by decide +kernel
theorem d3_94 : decode method_2_code 94 = .ok (.lload_n 0, 1) := by decide +kernel
theorem d3_95 : decode method_2_code 95 = .ok (.ldc2_w 25, 3) := by decide +kernel
theorem d3_98 : decode method_2_code 98 = .ok (.lcmp, 1) := by decide +kernel
theorem d3_99 : decode method_2_code 99 = .ok (.ifCond .ge 6, 3) := by decide +kernel
theorem d3_102 : decode method_2_code 102 = .ok (.bipush 10, 2) := by decide +kernel
theorem d3_104 : decode method_2_code 104 = .ok (.ireturn, 1) := by decide +kernel
theorem d3_105 : decode method_2_code 105 = .ok (.lload_n 0, 1) := by decide +kernel
theorem d3_106 : decode method_2_code 106 = .ok (.ldc2_w 27, 3) := by decide +kernel
theorem d3_109 : decode method_2_code 109 = .ok (.lcmp, 1) := by decide +kernel
theorem d3_110 : decode method_2_code 110 = .ok (.ifCond .ge 6, 3) := by decide +kernel
theorem d3_113 : decode method_2_code 113 = .ok (.bipush 11, 2) := by decide +kernel
theorem d3_115 : decode method_2_code 115 = .ok (.ireturn, 1) := by decide +kernel
theorem d3_116 : decode method_2_code 116 = .ok (.lload_n 0, 1) := by decide +kernel
theorem d3_117 : decode method_2_code 117 = .ok (.ldc2_w 29, 3) := by decide +kernel
theorem d3_120 : decode method_2_code 120 = .ok (.lcmp, 1) := by decide +kernel
theorem d3_121 : decode method_2_code 121 = .ok (.ifCond .ge 6, 3) := by decide +kernel
theorem d3_124 : decode method_2_code 124 = .ok (.bipush 12, 2) := by decide +kernel
theorem d3_126 : decode method_2_code 126 = .ok (.ireturn, 1) := by decide +kernel
theorem d3_127 : decode method_2_code 127 = .ok (.lload_n 0, 1) := by decide +kernel
theorem d3_128 : decode method_2_code 128 = .ok (.ldc2_w 31, 3) := by decide +kernel
theorem d3_131 : decode method_2_code 131 = .ok (.lcmp, 1) := by decide +kernel
theorem d3_132 : decode method_2_code 132 = .ok (.ifCond .ge 6, 3) := by decide +kernel
theorem d3_135 : decode method_2_code 135 = .ok (.bipush 13, 2) := by decide +kernel
theorem d3_137 : decode method_2_code 137 = .ok (.ireturn, 1) := by decide +kernel
theorem d3_138 : decode method_2_code 138 = .ok (.lload_n 0, 1) := by decide +kernel
theorem d3_139 : decode method_2_code 139 = .ok (.ldc2_w 33, 3) := by decide +kernel
theorem d3_142 : decode method_2_code 142 = .ok (.lcmp, 1) := by decide +kernel
theorem d3_143 : decode method_2_code 143 = .ok (.ifCond .ge 6, 3) := by decide +kernel
theorem d3_146 : decode method_2_code 146 = .ok (.bipush 14, 2) := by decide +kernel
theorem d3_148 : decode method_2_code 148 = .ok (.ireturn, 1) := by decide +kernel
theorem d3_149 : decode method_2_code 149 = .ok (.lload_n 0, 1) := by decide +kernel
theorem d3_150 : decode method_2_code 150 = .ok (.ldc2_w 35, 3) := by decide +kernel
theorem d3_153 : decode method_2_code 153 = .ok (.lcmp, 1) := by decide +kernel
theorem d3_154 : decode method_2_code 154 = .ok (.ifCond .ge 6, 3) := by decide +kernel
theorem d3_157 : decode method_2_code 157 = .ok (.bipush 15, 2) := by decide +kernel
theorem d3_159 : decode method_2_code 159 = .ok (.ireturn, 1) := by decide +kernel
theorem d3_160 : decode method_2_code 160 = .ok (.lload_n 0, 1) := by decide +kernel
theorem d3_161 : decode method_2_code 161 = .ok (.ldc2_w 37, 3) := by decide +kernel
theorem d3_164 : decode method_2_code 164 = .ok (.lcmp, 1) := by decide +kernel
theorem d3_165 : decode method_2_code 165 = .ok (.ifCond .ge 6, 3) := by decide +kernel
theorem d3_168 : decode method_2_code 168 = .ok (.bipush 16, 2) := by decide +kernel
theorem d3_170 : decode method_2_code 170 = .ok (.ireturn, 1) := by decide +kernel
theorem d3_171 : decode method_2_code 171 = .ok (.lload_n 0, 1) := by decide +kernel
theorem d3_172 : decode method_2_code 172 = .ok (.ldc2_w 39, 3) := by decide +kernel
theorem d3_175 : decode method_2_code 175 = .ok (.lcmp, 1) := by decide +kernel
theorem d3_176 : decode method_2_code 176 = .ok (.ifCond .ge 6, 3) := by decide +kernel
theorem d3_179 : decode method_2_code 179 = .ok (.bipush 17, 2) := by decide +kernel
theorem d3_181 : decode method_2_code 181 = .ok (.ireturn, 1) := by decide +kernel
theorem d3_182 : decode method_2_code 182 = .ok (.lload_n 0, 1) := by decide +kernel
theorem d3_183 : decode method_2_code 183 = .ok (.ldc2_w 41, 3) := by decide +kernel
theorem d3_186 : decode method_2_code 186 = .ok (.lcmp, 1) := by decide +kernel
theorem d3_187 : decode method_2_code 187 = .ok (.ifCond .ge 6, 3) := by decide +kernel
theorem d3_190 : decode method_2_code 190 = .ok (.bipush 18, 2) := by decide +kernel
theorem d3_192 : decode method_2_code 192 = .ok (.ireturn, 1) := by decide +kernel
theorem d3_193 : decode method_2_code 193 = .ok (.bipush 19, 2) := by decide +kernel
theorem d3_195 : decode method_2_code 195 = .ok (.ireturn, 1) := by decide +kernel
theorem pn3 : plainName "org/lodestream/io/LineWriterDecimalLengthPinLaw" = true := by first | (simp [plainName, overriddenIn]; done) | decide +kernel
theorem pd3 : parseMethodDescriptor "(J)I" = some ⟨[.long], some .int⟩ := by decide +kernel
def f3_0 (vj0 : Int64) : Int32 := (if vj0 < (10 : Int64) then (1 : Int32) else (if vj0 < (100 : Int64) then (2 : Int32) else (if vj0 < (1000 : Int64) then (3 : Int32) else (if vj0 < (10000 : Int64) then (4 : Int32) else (if vj0 < (100000 : Int64) then (5 : Int32) else (if vj0 < (1000000 : Int64) then (6 : Int32) else (if vj0 < (10000000 : Int64) then (7 : Int32) else (if vj0 < (100000000 : Int64) then (8 : Int32) else (if vj0 < (1000000000 : Int64) then (9 : Int32) else (if vj0 < (10000000000 : Int64) then (10 : Int32) else (if vj0 < (100000000000 : Int64) then (11 : Int32) else (if vj0 < (1000000000000 : Int64) then (12 : Int32) else (if vj0 < (10000000000000 : Int64) then (13 : Int32) else (if vj0 < (100000000000000 : Int64) then (14 : Int32) else (if vj0 < (1000000000000000 : Int64) then (15 : Int32) else (if vj0 < (10000000000000000 : Int64) then (16 : Int32) else (if vj0 < (100000000000000000 : Int64) then (17 : Int32) else (if vj0 < (1000000000000000000 : Int64) then (18 : Int32) else (19 : Int32)))))))))))))))))))
set_option maxRecDepth 65536 in
set_option maxHeartbeats 40000000 in
theorem b3_0 {p : Program} {l : Launch} {e : Env} {s : State} {m : MethodId} {args : Array Value} {below : List Frame} {meth : Method} {c : Code} {T : State} {locs : List Loc} {Z : State} {a0 : Array Value} {h0 : Heap} {n0 : Nat} (cx : Cx ({ frames := 0, cells := 0, slots := 0, locals := 0 } : Room) method_2_code 2 "org/lodestream/io/LineWriterDecimalLengthPinLaw" (some .int) p l e s m args below meth c T locs 0 0 Z a0 h0 n0) (vj0 : Int64) :
    Rch p e below s 0 0 (T.setTop (mkF m 0 #[.val (.long vj0), .second] [])) (PI (f3_0 vj0) h0 n0) := by
  obtain ⟨X0, hx, hZ, hw, hby, hml, hown, hret, hlk, e0, Z0, N0⟩ := cx
  unfold f3_0
  refine Rch.step (st' := T.setTop (mkF m 1 #[.val (.long vj0), .second] [(.long vj0)])) (fun _ hr => XS.lloadN X0.here hx rfl (hb hby d3_0) rfl hr) ?_
  refine Rch.step (st' := T.setTop (mkF m 4 #[.val (.long vj0), .second] [(.long (10 : Int64)), (.long vj0)])) (fun _ hr => X0.ldc2Long hx hown (mvT hZ (hw _ (List.mem_of_getElem? (i := 1) rfl))) (g := (mkF m 1 #[.val (.long vj0), .second] [(.long vj0)])) rfl (hb hby d3_1) _ hr) ?_
  refine Rch.step (st' := T.setTop (mkF m 5 #[.val (.long vj0), .second] [(.int (lcmpW vj0 (10 : Int64)))])) (fun _ hr => XS.lcmp X0.here hx rfl (hb hby d3_4) rfl hr) ?_
  by_cases hc1 : vj0 < (10 : Int64)
  · rw [if_pos hc1]
    refine Rch.step (st' := T.setTop (mkF m 8 #[.val (.long vj0), .second] [])) (fun _ hr => XS.ifNo X0.here hx rfl (hb hby d3_5) rfl ((if0 _ _).trans (tlt ((lw_lt vj0 (10 : Int64)).mpr hc1)).2.1) hr) ?_
    refine Rch.step (st' := T.setTop (mkF m 9 #[.val (.long vj0), .second] [(.int (1 : Int32))])) (fun _ hr => XS.iconst X0.here hx rfl (hb hby d3_8) hr) ?_
    exact Rch.retI X0 hx hret hlk (hb hby d3_9) (by decide) (by decide) ⟨rfl, N0, e0⟩
  · rw [if_neg hc1]
    refine Rch.step (st' := T.setTop (mkF m 10 #[.val (.long vj0), .second] [])) (fun _ hr => XS.ifYes X0.here hx rfl (pc0 := 5) (pc' := 10) rfl (hb hby d3_5) rfl ((if0 _ _).trans (flt (fun q => hc1 ((lw_lt vj0 (10 : Int64)).mp q))).2.1) (by decide) (by decide) hr) ?_
    refine Rch.step (st' := T.setTop (mkF m 11 #[.val (.long vj0), .second] [(.long vj0)])) (fun _ hr => XS.lloadN X0.here hx rfl (hb hby d3_10) rfl hr) ?_
    refine Rch.step (st' := T.setTop (mkF m 14 #[.val (.long vj0), .second] [(.long (100 : Int64)), (.long vj0)])) (fun _ hr => X0.ldc2Long hx hown (mvT hZ (hw _ (List.mem_of_getElem? (i := 2) rfl))) (g := (mkF m 11 #[.val (.long vj0), .second] [(.long vj0)])) rfl (hb hby d3_11) _ hr) ?_
    refine Rch.step (st' := T.setTop (mkF m 15 #[.val (.long vj0), .second] [(.int (lcmpW vj0 (100 : Int64)))])) (fun _ hr => XS.lcmp X0.here hx rfl (hb hby d3_14) rfl hr) ?_
    by_cases hc2 : vj0 < (100 : Int64)
    · rw [if_pos hc2]
      refine Rch.step (st' := T.setTop (mkF m 18 #[.val (.long vj0), .second] [])) (fun _ hr => XS.ifNo X0.here hx rfl (hb hby d3_15) rfl ((if0 _ _).trans (tlt ((lw_lt vj0 (100 : Int64)).mpr hc2)).2.1) hr) ?_
      refine Rch.step (st' := T.setTop (mkF m 19 #[.val (.long vj0), .second] [(.int (2 : Int32))])) (fun _ hr => XS.iconst X0.here hx rfl (hb hby d3_18) hr) ?_
      exact Rch.retI X0 hx hret hlk (hb hby d3_19) (by decide) (by decide) ⟨rfl, N0, e0⟩
    · rw [if_neg hc2]
      refine Rch.step (st' := T.setTop (mkF m 20 #[.val (.long vj0), .second] [])) (fun _ hr => XS.ifYes X0.here hx rfl (pc0 := 15) (pc' := 20) rfl (hb hby d3_15) rfl ((if0 _ _).trans (flt (fun q => hc2 ((lw_lt vj0 (100 : Int64)).mp q))).2.1) (by decide) (by decide) hr) ?_
      refine Rch.step (st' := T.setTop (mkF m 21 #[.val (.long vj0), .second] [(.long vj0)])) (fun _ hr => XS.lloadN X0.here hx rfl (hb hby d3_20) rfl hr) ?_
      refine Rch.step (st' := T.setTop (mkF m 24 #[.val (.long vj0), .second] [(.long (1000 : Int64)), (.long vj0)])) (fun _ hr => X0.ldc2Long hx hown (mvT hZ (hw _ (List.mem_of_getElem? (i := 3) rfl))) (g := (mkF m 21 #[.val (.long vj0), .second] [(.long vj0)])) rfl (hb hby d3_21) _ hr) ?_
      refine Rch.step (st' := T.setTop (mkF m 25 #[.val (.long vj0), .second] [(.int (lcmpW vj0 (1000 : Int64)))])) (fun _ hr => XS.lcmp X0.here hx rfl (hb hby d3_24) rfl hr) ?_
      by_cases hc3 : vj0 < (1000 : Int64)
      · rw [if_pos hc3]
        refine Rch.step (st' := T.setTop (mkF m 28 #[.val (.long vj0), .second] [])) (fun _ hr => XS.ifNo X0.here hx rfl (hb hby d3_25) rfl ((if0 _ _).trans (tlt ((lw_lt vj0 (1000 : Int64)).mpr hc3)).2.1) hr) ?_
        refine Rch.step (st' := T.setTop (mkF m 29 #[.val (.long vj0), .second] [(.int (3 : Int32))])) (fun _ hr => XS.iconst X0.here hx rfl (hb hby d3_28) hr) ?_
        exact Rch.retI X0 hx hret hlk (hb hby d3_29) (by decide) (by decide) ⟨rfl, N0, e0⟩
      · rw [if_neg hc3]
        refine Rch.step (st' := T.setTop (mkF m 30 #[.val (.long vj0), .second] [])) (fun _ hr => XS.ifYes X0.here hx rfl (pc0 := 25) (pc' := 30) rfl (hb hby d3_25) rfl ((if0 _ _).trans (flt (fun q => hc3 ((lw_lt vj0 (1000 : Int64)).mp q))).2.1) (by decide) (by decide) hr) ?_
        refine Rch.step (st' := T.setTop (mkF m 31 #[.val (.long vj0), .second] [(.long vj0)])) (fun _ hr => XS.lloadN X0.here hx rfl (hb hby d3_30) rfl hr) ?_
        refine Rch.step (st' := T.setTop (mkF m 34 #[.val (.long vj0), .second] [(.long (10000 : Int64)), (.long vj0)])) (fun _ hr => X0.ldc2Long hx hown (mvT hZ (hw _ (List.mem_of_getElem? (i := 4) rfl))) (g := (mkF m 31 #[.val (.long vj0), .second] [(.long vj0)])) rfl (hb hby d3_31) _ hr) ?_
        refine Rch.step (st' := T.setTop (mkF m 35 #[.val (.long vj0), .second] [(.int (lcmpW vj0 (10000 : Int64)))])) (fun _ hr => XS.lcmp X0.here hx rfl (hb hby d3_34) rfl hr) ?_
        by_cases hc4 : vj0 < (10000 : Int64)
        · rw [if_pos hc4]
          refine Rch.step (st' := T.setTop (mkF m 38 #[.val (.long vj0), .second] [])) (fun _ hr => XS.ifNo X0.here hx rfl (hb hby d3_35) rfl ((if0 _ _).trans (tlt ((lw_lt vj0 (10000 : Int64)).mpr hc4)).2.1) hr) ?_
          refine Rch.step (st' := T.setTop (mkF m 39 #[.val (.long vj0), .second] [(.int (4 : Int32))])) (fun _ hr => XS.iconst X0.here hx rfl (hb hby d3_38) hr) ?_
          exact Rch.retI X0 hx hret hlk (hb hby d3_39) (by decide) (by decide) ⟨rfl, N0, e0⟩
        · rw [if_neg hc4]
          refine Rch.step (st' := T.setTop (mkF m 40 #[.val (.long vj0), .second] [])) (fun _ hr => XS.ifYes X0.here hx rfl (pc0 := 35) (pc' := 40) rfl (hb hby d3_35) rfl ((if0 _ _).trans (flt (fun q => hc4 ((lw_lt vj0 (10000 : Int64)).mp q))).2.1) (by decide) (by decide) hr) ?_
          refine Rch.step (st' := T.setTop (mkF m 41 #[.val (.long vj0), .second] [(.long vj0)])) (fun _ hr => XS.lloadN X0.here hx rfl (hb hby d3_40) rfl hr) ?_
          refine Rch.step (st' := T.setTop (mkF m 44 #[.val (.long vj0), .second] [(.long (100000 : Int64)), (.long vj0)])) (fun _ hr => X0.ldc2Long hx hown (mvT hZ (hw _ (List.mem_of_getElem? (i := 5) rfl))) (g := (mkF m 41 #[.val (.long vj0), .second] [(.long vj0)])) rfl (hb hby d3_41) _ hr) ?_
          refine Rch.step (st' := T.setTop (mkF m 45 #[.val (.long vj0), .second] [(.int (lcmpW vj0 (100000 : Int64)))])) (fun _ hr => XS.lcmp X0.here hx rfl (hb hby d3_44) rfl hr) ?_
          by_cases hc5 : vj0 < (100000 : Int64)
          · rw [if_pos hc5]
            refine Rch.step (st' := T.setTop (mkF m 48 #[.val (.long vj0), .second] [])) (fun _ hr => XS.ifNo X0.here hx rfl (hb hby d3_45) rfl ((if0 _ _).trans (tlt ((lw_lt vj0 (100000 : Int64)).mpr hc5)).2.1) hr) ?_
            refine Rch.step (st' := T.setTop (mkF m 49 #[.val (.long vj0), .second] [(.int (5 : Int32))])) (fun _ hr => XS.iconst X0.here hx rfl (hb hby d3_48) hr) ?_
            exact Rch.retI X0 hx hret hlk (hb hby d3_49) (by decide) (by decide) ⟨rfl, N0, e0⟩
          · rw [if_neg hc5]
            refine Rch.step (st' := T.setTop (mkF m 50 #[.val (.long vj0), .second] [])) (fun _ hr => XS.ifYes X0.here hx rfl (pc0 := 45) (pc' := 50) rfl (hb hby d3_45) rfl ((if0 _ _).trans (flt (fun q => hc5 ((lw_lt vj0 (100000 : Int64)).mp q))).2.1) (by decide) (by decide) hr) ?_
            refine Rch.step (st' := T.setTop (mkF m 51 #[.val (.long vj0), .second] [(.long vj0)])) (fun _ hr => XS.lloadN X0.here hx rfl (hb hby d3_50) rfl hr) ?_
            refine Rch.step (st' := T.setTop (mkF m 54 #[.val (.long vj0), .second] [(.long (1000000 : Int64)), (.long vj0)])) (fun _ hr => X0.ldc2Long hx hown (mvT hZ (hw _ (List.mem_of_getElem? (i := 6) rfl))) (g := (mkF m 51 #[.val (.long vj0), .second] [(.long vj0)])) rfl (hb hby d3_51) _ hr) ?_
            refine Rch.step (st' := T.setTop (mkF m 55 #[.val (.long vj0), .second] [(.int (lcmpW vj0 (1000000 : Int64)))])) (fun _ hr => XS.lcmp X0.here hx rfl (hb hby d3_54) rfl hr) ?_
            by_cases hc6 : vj0 < (1000000 : Int64)
            · rw [if_pos hc6]
              refine Rch.step (st' := T.setTop (mkF m 58 #[.val (.long vj0), .second] [])) (fun _ hr => XS.ifNo X0.here hx rfl (hb hby d3_55) rfl ((if0 _ _).trans (tlt ((lw_lt vj0 (1000000 : Int64)).mpr hc6)).2.1) hr) ?_
              refine Rch.step (st' := T.setTop (mkF m 60 #[.val (.long vj0), .second] [(.int (6 : Int32))])) (fun _ hr => XS.bipush X0.here hx rfl (hb hby d3_58) hr) ?_
              exact Rch.retI X0 hx hret hlk (hb hby d3_60) (by decide) (by decide) ⟨rfl, N0, e0⟩
            · rw [if_neg hc6]
              refine Rch.step (st' := T.setTop (mkF m 61 #[.val (.long vj0), .second] [])) (fun _ hr => XS.ifYes X0.here hx rfl (pc0 := 55) (pc' := 61) rfl (hb hby d3_55) rfl ((if0 _ _).trans (flt (fun q => hc6 ((lw_lt vj0 (1000000 : Int64)).mp q))).2.1) (by decide) (by decide) hr) ?_
              refine Rch.step (st' := T.setTop (mkF m 62 #[.val (.long vj0), .second] [(.long vj0)])) (fun _ hr => XS.lloadN X0.here hx rfl (hb hby d3_61) rfl hr) ?_
              refine Rch.step (st' := T.setTop (mkF m 65 #[.val (.long vj0), .second] [(.long (10000000 : Int64)), (.long vj0)])) (fun _ hr => X0.ldc2Long hx hown (mvT hZ (hw _ (List.mem_of_getElem? (i := 7) rfl))) (g := (mkF m 62 #[.val (.long vj0), .second] [(.long vj0)])) rfl (hb hby d3_62) _ hr) ?_
              refine Rch.step (st' := T.setTop (mkF m 66 #[.val (.long vj0), .second] [(.int (lcmpW vj0 (10000000 : Int64)))])) (fun _ hr => XS.lcmp X0.here hx rfl (hb hby d3_65) rfl hr) ?_
              by_cases hc7 : vj0 < (10000000 : Int64)
              · rw [if_pos hc7]
                refine Rch.step (st' := T.setTop (mkF m 69 #[.val (.long vj0), .second] [])) (fun _ hr => XS.ifNo X0.here hx rfl (hb hby d3_66) rfl ((if0 _ _).trans (tlt ((lw_lt vj0 (10000000 : Int64)).mpr hc7)).2.1) hr) ?_
                refine Rch.step (st' := T.setTop (mkF m 71 #[.val (.long vj0), .second] [(.int (7 : Int32))])) (fun _ hr => XS.bipush X0.here hx rfl (hb hby d3_69) hr) ?_
                exact Rch.retI X0 hx hret hlk (hb hby d3_71) (by decide) (by decide) ⟨rfl, N0, e0⟩
              · rw [if_neg hc7]
                refine Rch.step (st' := T.setTop (mkF m 72 #[.val (.long vj0), .second] [])) (fun _ hr => XS.ifYes X0.here hx rfl (pc0 := 66) (pc' := 72) rfl (hb hby d3_66) rfl ((if0 _ _).trans (flt (fun q => hc7 ((lw_lt vj0 (10000000 : Int64)).mp q))).2.1) (by decide) (by decide) hr) ?_
                refine Rch.step (st' := T.setTop (mkF m 73 #[.val (.long vj0), .second] [(.long vj0)])) (fun _ hr => XS.lloadN X0.here hx rfl (hb hby d3_72) rfl hr) ?_
                refine Rch.step (st' := T.setTop (mkF m 76 #[.val (.long vj0), .second] [(.long (100000000 : Int64)), (.long vj0)])) (fun _ hr => X0.ldc2Long hx hown (mvT hZ (hw _ (List.mem_of_getElem? (i := 8) rfl))) (g := (mkF m 73 #[.val (.long vj0), .second] [(.long vj0)])) rfl (hb hby d3_73) _ hr) ?_
                refine Rch.step (st' := T.setTop (mkF m 77 #[.val (.long vj0), .second] [(.int (lcmpW vj0 (100000000 : Int64)))])) (fun _ hr => XS.lcmp X0.here hx rfl (hb hby d3_76) rfl hr) ?_
                by_cases hc8 : vj0 < (100000000 : Int64)
                · rw [if_pos hc8]
                  refine Rch.step (st' := T.setTop (mkF m 80 #[.val (.long vj0), .second] [])) (fun _ hr => XS.ifNo X0.here hx rfl (hb hby d3_77) rfl ((if0 _ _).trans (tlt ((lw_lt vj0 (100000000 : Int64)).mpr hc8)).2.1) hr) ?_
                  refine Rch.step (st' := T.setTop (mkF m 82 #[.val (.long vj0), .second] [(.int (8 : Int32))])) (fun _ hr => XS.bipush X0.here hx rfl (hb hby d3_80) hr) ?_
                  exact Rch.retI X0 hx hret hlk (hb hby d3_82) (by decide) (by decide) ⟨rfl, N0, e0⟩
                · rw [if_neg hc8]
                  refine Rch.step (st' := T.setTop (mkF m 83 #[.val (.long vj0), .second] [])) (fun _ hr => XS.ifYes X0.here hx rfl (pc0 := 77) (pc' := 83) rfl (hb hby d3_77) rfl ((if0 _ _).trans (flt (fun q => hc8 ((lw_lt vj0 (100000000 : Int64)).mp q))).2.1) (by decide) (by decide) hr) ?_
                  refine Rch.step (st' := T.setTop (mkF m 84 #[.val (.long vj0), .second] [(.long vj0)])) (fun _ hr => XS.lloadN X0.here hx rfl (hb hby d3_83) rfl hr) ?_
                  refine Rch.step (st' := T.setTop (mkF m 87 #[.val (.long vj0), .second] [(.long (1000000000 : Int64)), (.long vj0)])) (fun _ hr => X0.ldc2Long hx hown (mvT hZ (hw _ (List.mem_of_getElem? (i := 9) rfl))) (g := (mkF m 84 #[.val (.long vj0), .second] [(.long vj0)])) rfl (hb hby d3_84) _ hr) ?_
                  refine Rch.step (st' := T.setTop (mkF m 88 #[.val (.long vj0), .second] [(.int (lcmpW vj0 (1000000000 : Int64)))])) (fun _ hr => XS.lcmp X0.here hx rfl (hb hby d3_87) rfl hr) ?_
                  by_cases hc9 : vj0 < (1000000000 : Int64)
                  · rw [if_pos hc9]
                    refine Rch.step (st' := T.setTop (mkF m 91 #[.val (.long vj0), .second] [])) (fun _ hr => XS.ifNo X0.here hx rfl (hb hby d3_88) rfl ((if0 _ _).trans (tlt ((lw_lt vj0 (1000000000 : Int64)).mpr hc9)).2.1) hr) ?_
                    refine Rch.step (st' := T.setTop (mkF m 93 #[.val (.long vj0), .second] [(.int (9 : Int32))])) (fun _ hr => XS.bipush X0.here hx rfl (hb hby d3_91) hr) ?_
                    exact Rch.retI X0 hx hret hlk (hb hby d3_93) (by decide) (by decide) ⟨rfl, N0, e0⟩
                  · rw [if_neg hc9]
                    refine Rch.step (st' := T.setTop (mkF m 94 #[.val (.long vj0), .second] [])) (fun _ hr => XS.ifYes X0.here hx rfl (pc0 := 88) (pc' := 94) rfl (hb hby d3_88) rfl ((if0 _ _).trans (flt (fun q => hc9 ((lw_lt vj0 (1000000000 : Int64)).mp q))).2.1) (by decide) (by decide) hr) ?_
                    refine Rch.step (st' := T.setTop (mkF m 95 #[.val (.long vj0), .second] [(.long vj0)])) (fun _ hr => XS.lloadN X0.here hx rfl (hb hby d3_94) rfl hr) ?_
                    refine Rch.step (st' := T.setTop (mkF m 98 #[.val (.long vj0), .second] [(.long (10000000000 : Int64)), (.long vj0)])) (fun _ hr => X0.ldc2Long hx hown (mvT hZ (hw _ (List.mem_of_getElem? (i := 10) rfl))) (g := (mkF m 95 #[.val (.long vj0), .second] [(.long vj0)])) rfl (hb hby d3_95) _ hr) ?_
                    refine Rch.step (st' := T.setTop (mkF m 99 #[.val (.long vj0), .second] [(.int (lcmpW vj0 (10000000000 : Int64)))])) (fun _ hr => XS.lcmp X0.here hx rfl (hb hby d3_98) rfl hr) ?_
                    by_cases hc10 : vj0 < (10000000000 : Int64)
                    · rw [if_pos hc10]
                      refine Rch.step (st' := T.setTop (mkF m 102 #[.val (.long vj0), .second] [])) (fun _ hr => XS.ifNo X0.here hx rfl (hb hby d3_99) rfl ((if0 _ _).trans (tlt ((lw_lt vj0 (10000000000 : Int64)).mpr hc10)).2.1) hr) ?_
                      refine Rch.step (st' := T.setTop (mkF m 104 #[.val (.long vj0), .second] [(.int (10 : Int32))])) (fun _ hr => XS.bipush X0.here hx rfl (hb hby d3_102) hr) ?_
                      exact Rch.retI X0 hx hret hlk (hb hby d3_104) (by decide) (by decide) ⟨rfl, N0, e0⟩
                    · rw [if_neg hc10]
                      refine Rch.step (st' := T.setTop (mkF m 105 #[.val (.long vj0), .second] [])) (fun _ hr => XS.ifYes X0.here hx rfl (pc0 := 99) (pc' := 105) rfl (hb hby d3_99) rfl ((if0 _ _).trans (flt (fun q => hc10 ((lw_lt vj0 (10000000000 : Int64)).mp q))).2.1) (by decide) (by decide) hr) ?_
                      refine Rch.step (st' := T.setTop (mkF m 106 #[.val (.long vj0), .second] [(.long vj0)])) (fun _ hr => XS.lloadN X0.here hx rfl (hb hby d3_105) rfl hr) ?_
                      refine Rch.step (st' := T.setTop (mkF m 109 #[.val (.long vj0), .second] [(.long (100000000000 : Int64)), (.long vj0)])) (fun _ hr => X0.ldc2Long hx hown (mvT hZ (hw _ (List.mem_of_getElem? (i := 11) rfl))) (g := (mkF m 106 #[.val (.long vj0), .second] [(.long vj0)])) rfl (hb hby d3_106) _ hr) ?_
                      refine Rch.step (st' := T.setTop (mkF m 110 #[.val (.long vj0), .second] [(.int (lcmpW vj0 (100000000000 : Int64)))])) (fun _ hr => XS.lcmp X0.here hx rfl (hb hby d3_109) rfl hr) ?_
                      by_cases hc11 : vj0 < (100000000000 : Int64)
                      · rw [if_pos hc11]
                        refine Rch.step (st' := T.setTop (mkF m 113 #[.val (.long vj0), .second] [])) (fun _ hr => XS.ifNo X0.here hx rfl (hb hby d3_110) rfl ((if0 _ _).trans (tlt ((lw_lt vj0 (100000000000 : Int64)).mpr hc11)).2.1) hr) ?_
                        refine Rch.step (st' := T.setTop (mkF m 115 #[.val (.long vj0), .second] [(.int (11 : Int32))])) (fun _ hr => XS.bipush X0.here hx rfl (hb hby d3_113) hr) ?_
                        exact Rch.retI X0 hx hret hlk (hb hby d3_115) (by decide) (by decide) ⟨rfl, N0, e0⟩
                      · rw [if_neg hc11]
                        refine Rch.step (st' := T.setTop (mkF m 116 #[.val (.long vj0), .second] [])) (fun _ hr => XS.ifYes X0.here hx rfl (pc0 := 110) (pc' := 116) rfl (hb hby d3_110) rfl ((if0 _ _).trans (flt (fun q => hc11 ((lw_lt vj0 (100000000000 : Int64)).mp q))).2.1) (by decide) (by decide) hr) ?_
                        refine Rch.step (st' := T.setTop (mkF m 117 #[.val (.long vj0), .second] [(.long vj0)])) (fun _ hr => XS.lloadN X0.here hx rfl (hb hby d3_116) rfl hr) ?_
                        refine Rch.step (st' := T.setTop (mkF m 120 #[.val (.long vj0), .second] [(.long (1000000000000 : Int64)), (.long vj0)])) (fun _ hr => X0.ldc2Long hx hown (mvT hZ (hw _ (List.mem_of_getElem? (i := 12) rfl))) (g := (mkF m 117 #[.val (.long vj0), .second] [(.long vj0)])) rfl (hb hby d3_117) _ hr) ?_
                        refine Rch.step (st' := T.setTop (mkF m 121 #[.val (.long vj0), .second] [(.int (lcmpW vj0 (1000000000000 : Int64)))])) (fun _ hr => XS.lcmp X0.here hx rfl (hb hby d3_120) rfl hr) ?_
                        by_cases hc12 : vj0 < (1000000000000 : Int64)
                        · rw [if_pos hc12]
                          refine Rch.step (st' := T.setTop (mkF m 124 #[.val (.long vj0), .second] [])) (fun _ hr => XS.ifNo X0.here hx rfl (hb hby d3_121) rfl ((if0 _ _).trans (tlt ((lw_lt vj0 (1000000000000 : Int64)).mpr hc12)).2.1) hr) ?_
                          refine Rch.step (st' := T.setTop (mkF m 126 #[.val (.long vj0), .second] [(.int (12 : Int32))])) (fun _ hr => XS.bipush X0.here hx rfl (hb hby d3_124) hr) ?_
                          exact Rch.retI X0 hx hret hlk (hb hby d3_126) (by decide) (by decide) ⟨rfl, N0, e0⟩
                        · rw [if_neg hc12]
                          refine Rch.step (st' := T.setTop (mkF m 127 #[.val (.long vj0), .second] [])) (fun _ hr => XS.ifYes X0.here hx rfl (pc0 := 121) (pc' := 127) rfl (hb hby d3_121) rfl ((if0 _ _).trans (flt (fun q => hc12 ((lw_lt vj0 (1000000000000 : Int64)).mp q))).2.1) (by decide) (by decide) hr) ?_
                          refine Rch.step (st' := T.setTop (mkF m 128 #[.val (.long vj0), .second] [(.long vj0)])) (fun _ hr => XS.lloadN X0.here hx rfl (hb hby d3_127) rfl hr) ?_
                          refine Rch.step (st' := T.setTop (mkF m 131 #[.val (.long vj0), .second] [(.long (10000000000000 : Int64)), (.long vj0)])) (fun _ hr => X0.ldc2Long hx hown (mvT hZ (hw _ (List.mem_of_getElem? (i := 13) rfl))) (g := (mkF m 128 #[.val (.long vj0), .second] [(.long vj0)])) rfl (hb hby d3_128) _ hr) ?_
                          refine Rch.step (st' := T.setTop (mkF m 132 #[.val (.long vj0), .second] [(.int (lcmpW vj0 (10000000000000 : Int64)))])) (fun _ hr => XS.lcmp X0.here hx rfl (hb hby d3_131) rfl hr) ?_
                          by_cases hc13 : vj0 < (10000000000000 : Int64)
                          · rw [if_pos hc13]
                            refine Rch.step (st' := T.setTop (mkF m 135 #[.val (.long vj0), .second] [])) (fun _ hr => XS.ifNo X0.here hx rfl (hb hby d3_132) rfl ((if0 _ _).trans (tlt ((lw_lt vj0 (10000000000000 : Int64)).mpr hc13)).2.1) hr) ?_
                            refine Rch.step (st' := T.setTop (mkF m 137 #[.val (.long vj0), .second] [(.int (13 : Int32))])) (fun _ hr => XS.bipush X0.here hx rfl (hb hby d3_135) hr) ?_
                            exact Rch.retI X0 hx hret hlk (hb hby d3_137) (by decide) (by decide) ⟨rfl, N0, e0⟩
                          · rw [if_neg hc13]
                            refine Rch.step (st' := T.setTop (mkF m 138 #[.val (.long vj0), .second] [])) (fun _ hr => XS.ifYes X0.here hx rfl (pc0 := 132) (pc' := 138) rfl (hb hby d3_132) rfl ((if0 _ _).trans (flt (fun q => hc13 ((lw_lt vj0 (10000000000000 : Int64)).mp q))).2.1) (by decide) (by decide) hr) ?_
                            refine Rch.step (st' := T.setTop (mkF m 139 #[.val (.long vj0), .second] [(.long vj0)])) (fun _ hr => XS.lloadN X0.here hx rfl (hb hby d3_138) rfl hr) ?_
                            refine Rch.step (st' := T.setTop (mkF m 142 #[.val (.long vj0), .second] [(.long (100000000000000 : Int64)), (.long vj0)])) (fun _ hr => X0.ldc2Long hx hown (mvT hZ (hw _ (List.mem_of_getElem? (i := 14) rfl))) (g := (mkF m 139 #[.val (.long vj0), .second] [(.long vj0)])) rfl (hb hby d3_139) _ hr) ?_
                            refine Rch.step (st' := T.setTop (mkF m 143 #[.val (.long vj0), .second] [(.int (lcmpW vj0 (100000000000000 : Int64)))])) (fun _ hr => XS.lcmp X0.here hx rfl (hb hby d3_142) rfl hr) ?_
                            by_cases hc14 : vj0 < (100000000000000 : Int64)
                            · rw [if_pos hc14]
                              refine Rch.step (st' := T.setTop (mkF m 146 #[.val (.long vj0), .second] [])) (fun _ hr => XS.ifNo X0.here hx rfl (hb hby d3_143) rfl ((if0 _ _).trans (tlt ((lw_lt vj0 (100000000000000 : Int64)).mpr hc14)).2.1) hr) ?_
                              refine Rch.step (st' := T.setTop (mkF m 148 #[.val (.long vj0), .second] [(.int (14 : Int32))])) (fun _ hr => XS.bipush X0.here hx rfl (hb hby d3_146) hr) ?_
                              exact Rch.retI X0 hx hret hlk (hb hby d3_148) (by decide) (by decide) ⟨rfl, N0, e0⟩
                            · rw [if_neg hc14]
                              refine Rch.step (st' := T.setTop (mkF m 149 #[.val (.long vj0), .second] [])) (fun _ hr => XS.ifYes X0.here hx rfl (pc0 := 143) (pc' := 149) rfl (hb hby d3_143) rfl ((if0 _ _).trans (flt (fun q => hc14 ((lw_lt vj0 (100000000000000 : Int64)).mp q))).2.1) (by decide) (by decide) hr) ?_
                              refine Rch.step (st' := T.setTop (mkF m 150 #[.val (.long vj0), .second] [(.long vj0)])) (fun _ hr => XS.lloadN X0.here hx rfl (hb hby d3_149) rfl hr) ?_
                              refine Rch.step (st' := T.setTop (mkF m 153 #[.val (.long vj0), .second] [(.long (1000000000000000 : Int64)), (.long vj0)])) (fun _ hr => X0.ldc2Long hx hown (mvT hZ (hw _ (List.mem_of_getElem? (i := 15) rfl))) (g := (mkF m 150 #[.val (.long vj0), .second] [(.long vj0)])) rfl (hb hby d3_150) _ hr) ?_
                              refine Rch.step (st' := T.setTop (mkF m 154 #[.val (.long vj0), .second] [(.int (lcmpW vj0 (1000000000000000 : Int64)))])) (fun _ hr => XS.lcmp X0.here hx rfl (hb hby d3_153) rfl hr) ?_
                              by_cases hc15 : vj0 < (1000000000000000 : Int64)
                              · rw [if_pos hc15]
                                refine Rch.step (st' := T.setTop (mkF m 157 #[.val (.long vj0), .second] [])) (fun _ hr => XS.ifNo X0.here hx rfl (hb hby d3_154) rfl ((if0 _ _).trans (tlt ((lw_lt vj0 (1000000000000000 : Int64)).mpr hc15)).2.1) hr) ?_
                                refine Rch.step (st' := T.setTop (mkF m 159 #[.val (.long vj0), .second] [(.int (15 : Int32))])) (fun _ hr => XS.bipush X0.here hx rfl (hb hby d3_157) hr) ?_
                                exact Rch.retI X0 hx hret hlk (hb hby d3_159) (by decide) (by decide) ⟨rfl, N0, e0⟩
                              · rw [if_neg hc15]
                                refine Rch.step (st' := T.setTop (mkF m 160 #[.val (.long vj0), .second] [])) (fun _ hr => XS.ifYes X0.here hx rfl (pc0 := 154) (pc' := 160) rfl (hb hby d3_154) rfl ((if0 _ _).trans (flt (fun q => hc15 ((lw_lt vj0 (1000000000000000 : Int64)).mp q))).2.1) (by decide) (by decide) hr) ?_
                                refine Rch.step (st' := T.setTop (mkF m 161 #[.val (.long vj0), .second] [(.long vj0)])) (fun _ hr => XS.lloadN X0.here hx rfl (hb hby d3_160) rfl hr) ?_
                                refine Rch.step (st' := T.setTop (mkF m 164 #[.val (.long vj0), .second] [(.long (10000000000000000 : Int64)), (.long vj0)])) (fun _ hr => X0.ldc2Long hx hown (mvT hZ (hw _ (List.mem_of_getElem? (i := 16) rfl))) (g := (mkF m 161 #[.val (.long vj0), .second] [(.long vj0)])) rfl (hb hby d3_161) _ hr) ?_
                                refine Rch.step (st' := T.setTop (mkF m 165 #[.val (.long vj0), .second] [(.int (lcmpW vj0 (10000000000000000 : Int64)))])) (fun _ hr => XS.lcmp X0.here hx rfl (hb hby d3_164) rfl hr) ?_
                                by_cases hc16 : vj0 < (10000000000000000 : Int64)
                                · rw [if_pos hc16]
                                  refine Rch.step (st' := T.setTop (mkF m 168 #[.val (.long vj0), .second] [])) (fun _ hr => XS.ifNo X0.here hx rfl (hb hby d3_165) rfl ((if0 _ _).trans (tlt ((lw_lt vj0 (10000000000000000 : Int64)).mpr hc16)).2.1) hr) ?_
                                  refine Rch.step (st' := T.setTop (mkF m 170 #[.val (.long vj0), .second] [(.int (16 : Int32))])) (fun _ hr => XS.bipush X0.here hx rfl (hb hby d3_168) hr) ?_
                                  exact Rch.retI X0 hx hret hlk (hb hby d3_170) (by decide) (by decide) ⟨rfl, N0, e0⟩
                                · rw [if_neg hc16]
                                  refine Rch.step (st' := T.setTop (mkF m 171 #[.val (.long vj0), .second] [])) (fun _ hr => XS.ifYes X0.here hx rfl (pc0 := 165) (pc' := 171) rfl (hb hby d3_165) rfl ((if0 _ _).trans (flt (fun q => hc16 ((lw_lt vj0 (10000000000000000 : Int64)).mp q))).2.1) (by decide) (by decide) hr) ?_
                                  refine Rch.step (st' := T.setTop (mkF m 172 #[.val (.long vj0), .second] [(.long vj0)])) (fun _ hr => XS.lloadN X0.here hx rfl (hb hby d3_171) rfl hr) ?_
                                  refine Rch.step (st' := T.setTop (mkF m 175 #[.val (.long vj0), .second] [(.long (100000000000000000 : Int64)), (.long vj0)])) (fun _ hr => X0.ldc2Long hx hown (mvT hZ (hw _ (List.mem_of_getElem? (i := 17) rfl))) (g := (mkF m 172 #[.val (.long vj0), .second] [(.long vj0)])) rfl (hb hby d3_172) _ hr) ?_
                                  refine Rch.step (st' := T.setTop (mkF m 176 #[.val (.long vj0), .second] [(.int (lcmpW vj0 (100000000000000000 : Int64)))])) (fun _ hr => XS.lcmp X0.here hx rfl (hb hby d3_175) rfl hr) ?_
                                  by_cases hc17 : vj0 < (100000000000000000 : Int64)
                                  · rw [if_pos hc17]
                                    refine Rch.step (st' := T.setTop (mkF m 179 #[.val (.long vj0), .second] [])) (fun _ hr => XS.ifNo X0.here hx rfl (hb hby d3_176) rfl ((if0 _ _).trans (tlt ((lw_lt vj0 (100000000000000000 : Int64)).mpr hc17)).2.1) hr) ?_
                                    refine Rch.step (st' := T.setTop (mkF m 181 #[.val (.long vj0), .second] [(.int (17 : Int32))])) (fun _ hr => XS.bipush X0.here hx rfl (hb hby d3_179) hr) ?_
                                    exact Rch.retI X0 hx hret hlk (hb hby d3_181) (by decide) (by decide) ⟨rfl, N0, e0⟩
                                  · rw [if_neg hc17]
                                    refine Rch.step (st' := T.setTop (mkF m 182 #[.val (.long vj0), .second] [])) (fun _ hr => XS.ifYes X0.here hx rfl (pc0 := 176) (pc' := 182) rfl (hb hby d3_176) rfl ((if0 _ _).trans (flt (fun q => hc17 ((lw_lt vj0 (100000000000000000 : Int64)).mp q))).2.1) (by decide) (by decide) hr) ?_
                                    refine Rch.step (st' := T.setTop (mkF m 183 #[.val (.long vj0), .second] [(.long vj0)])) (fun _ hr => XS.lloadN X0.here hx rfl (hb hby d3_182) rfl hr) ?_
                                    refine Rch.step (st' := T.setTop (mkF m 186 #[.val (.long vj0), .second] [(.long (1000000000000000000 : Int64)), (.long vj0)])) (fun _ hr => X0.ldc2Long hx hown (mvT hZ (hw _ (List.mem_of_getElem? (i := 18) rfl))) (g := (mkF m 183 #[.val (.long vj0), .second] [(.long vj0)])) rfl (hb hby d3_183) _ hr) ?_
                                    refine Rch.step (st' := T.setTop (mkF m 187 #[.val (.long vj0), .second] [(.int (lcmpW vj0 (1000000000000000000 : Int64)))])) (fun _ hr => XS.lcmp X0.here hx rfl (hb hby d3_186) rfl hr) ?_
                                    by_cases hc18 : vj0 < (1000000000000000000 : Int64)
                                    · rw [if_pos hc18]
                                      refine Rch.step (st' := T.setTop (mkF m 190 #[.val (.long vj0), .second] [])) (fun _ hr => XS.ifNo X0.here hx rfl (hb hby d3_187) rfl ((if0 _ _).trans (tlt ((lw_lt vj0 (1000000000000000000 : Int64)).mpr hc18)).2.1) hr) ?_
                                      refine Rch.step (st' := T.setTop (mkF m 192 #[.val (.long vj0), .second] [(.int (18 : Int32))])) (fun _ hr => XS.bipush X0.here hx rfl (hb hby d3_190) hr) ?_
                                      exact Rch.retI X0 hx hret hlk (hb hby d3_192) (by decide) (by decide) ⟨rfl, N0, e0⟩
                                    · rw [if_neg hc18]
                                      refine Rch.step (st' := T.setTop (mkF m 193 #[.val (.long vj0), .second] [])) (fun _ hr => XS.ifYes X0.here hx rfl (pc0 := 187) (pc' := 193) rfl (hb hby d3_187) rfl ((if0 _ _).trans (flt (fun q => hc18 ((lw_lt vj0 (1000000000000000000 : Int64)).mp q))).2.1) (by decide) (by decide) hr) ?_
                                      refine Rch.step (st' := T.setTop (mkF m 195 #[.val (.long vj0), .second] [(.int (19 : Int32))])) (fun _ hr => XS.bipush X0.here hx rfl (hb hby d3_193) hr) ?_
                                      exact Rch.retI X0 hx hret hlk (hb hby d3_195) (by decide) (by decide) ⟨rfl, N0, e0⟩
theorem ef3 (m : MethodId) (x0 : Int64) : entryFrame m #[(.long x0)] 2 = mkF m 0 #[.val (.long x0), .second] [] := by first | (simp [entryFrame, mkF, argsToLocals, Value.category]; done) | rfl
set_option maxRecDepth 65536 in
set_option maxHeartbeats 40000000 in
theorem rm3 (l : Launch) (Z : State) (a0 : Array Value) (hw : ∀ d ∈ tables_1, d.before a0 Z = true) (ws : List Jvm.Cond) (x0 : Int64) (h0 : Heap) (n0 : Nat) (Z0 : n0 ≤ h0.size)  :
    MetFree l (⟨"org/lodestream/io/LineWriterDecimalLengthPinLaw", "digitsOf", "(J)I"⟩ : MethodName) (head1 (Jvm.Cond.code (⟨"org/lodestream/io/LineWriterDecimalLengthPinLaw", "digitsOf", "(J)I"⟩ : MethodName) method_2_code 2 (some .int) :: ws) ({ frames := 0, cells := 0, slots := 0, locals := 0 } : Room)) (fun a U => a = #[(.long x0)] ∧ Z.Warmed39 U.vm ∧ U.heap = h0) (fun _ _ _ _ _ => True) (fun _ U o U' => ∃ v L, o = .returned v ∧ PI (f3_0 x0) h0 n0 v U'.heap L ∧ FrameEnd U o U' L ({ frames := 0, cells := 0, slots := 0, locals := 0 } : Room).cells ({ frames := 0, cells := 0, slots := 0, locals := 0 } : Room).slots) := by
  refine MetFree.of_bodySF (plainFor_of_name pn3) hisR ?_
  intro p e s m args below meth c s₁ Bd hml0 hP hK
  obtain ⟨rfl, hZ, hh⟩ := hP
  have hown : s.vm.findClass "org/lodestream/io/LineWriterDecimalLengthPinLaw" = some m.cls := findClass_of_methodNamed Bd.named
  have e0 : s₁.heap = h0 := by rw [← hh, Bd.state]; rfl
  obtain ⟨s₂, v, L, h1, h2, h3, h4, h5⟩ := b3_0 (T := s₁) ⟨Stand.of_body Bd, Bd.exec, hZ, hw, Bd.bytes, hml0, hown, Bd.returns, BodyLoose.notSynchronized Bd, e0, Z0, Fr.nil n0⟩ x0
  exact ⟨s₂, .returned v, castTop (ef3 m x0) h1, h2, h3, v, L, rfl, h4, h5⟩
-- body 2
theorem d2_0 : decode method_3_code 0 = .ok (.lload_n 0, 1) := by decide +kernel
theorem d2_1 : decode method_3_code 1 = .ok (.ldc2_w 45, 3) := by decide +kernel
theorem d2_4 : decode method_3_code 4 = .ok (.lcmp, 1) := by decide +kernel
theorem d2_5 : decode method_3_code 5 = .ok (.ifCond .ne 6, 3) := by decide +kernel
theorem d2_8 : decode method_3_code 8 = .ok (.bipush 20, 2) := by decide +kernel
theorem d2_10 : decode method_3_code 10 = .ok (.ireturn, 1) := by decide +kernel
theorem d2_11 : decode method_3_code 11 = .ok (.lload_n 0, 1) := by decide +kernel
theorem d2_12 : decode method_3_code 12 = .ok (.lconst 0, 1) := by decide +kernel
theorem d2_13 : decode method_3_code 13 = .ok (.lcmp, 1) := by decide +kernel
theorem d2_14 : decode method_3_code 14 = .ok (.ifCond .ge 11, 3) := by decide +kernel
theorem d2_17 : decode method_3_code 17 = .ok (.lload_n 0, 1) := by decide +kernel
theorem d2_18 : decode method_3_code 18 = .ok (.lneg, 1) := by decide +kernel
theorem d2_19 : decode method_3_code 19 = .ok (.invokestatic 47, 3) := by decide +kernel
theorem d2_22 : decode method_3_code 22 = .ok (.iconst 1, 1) := by decide +kernel
theorem d2_23 : decode method_3_code 23 = .ok (.iadd, 1) := by decide +kernel
theorem d2_24 : decode method_3_code 24 = .ok (.ireturn, 1) := by decide +kernel
theorem d2_25 : decode method_3_code 25 = .ok (.lload_n 0, 1) := by decide +kernel
theorem d2_26 : decode method_3_code 26 = .ok (.invokestatic 47, 3) := by decide +kernel
theorem d2_29 : decode method_3_code 29 = .ok (.ireturn, 1) := by decide +kernel
theorem pn2 : plainName "org/lodestream/io/LineWriterDecimalLengthPinLaw" = true := by first | (simp [plainName, overriddenIn]; done) | decide +kernel
theorem pd2 : parseMethodDescriptor "(J)I" = some ⟨[.long], some .int⟩ := by decide +kernel
def f2_0 (vj0 : Int64) : Int32 := (if vj0 = (-9223372036854775808 : Int64) then (20 : Int32) else (if vj0 < (0 : Int64) then ((f3_0 (-vj0)) + (1 : Int32)) else (f3_0 vj0)))
set_option maxRecDepth 65536 in
set_option maxHeartbeats 40000000 in
theorem b2_0 {p : Program} {l : Launch} {e : Env} {s : State} {m : MethodId} {args : Array Value} {below : List Frame} {meth : Method} {c : Code} {T : State} {locs : List Loc} {Z : State} {a0 : Array Value} {h0 : Heap} {n0 : Nat} (cx : Cx ({ frames := 1, cells := 0, slots := 0, locals := 13 } : Room) method_3_code 2 "org/lodestream/io/LineWriterDecimalLengthPinLaw" (some .int) p l e s m args below meth c T locs 0 0 Z a0 h0 n0) (vj0 : Int64) :
    Rch p e below s 0 0 (T.setTop (mkF m 0 #[.val (.long vj0), .second] [])) (PI (f2_0 vj0) h0 n0) := by
  obtain ⟨X0, hx, hZ, hw, hby, hml, hown, hret, hlk, e0, Z0, N0⟩ := cx
  unfold f2_0
  refine Rch.step (st' := T.setTop (mkF m 1 #[.val (.long vj0), .second] [(.long vj0)])) (fun _ hr => XS.lloadN X0.here hx rfl (hb hby d2_0) rfl hr) ?_
  refine Rch.step (st' := T.setTop (mkF m 4 #[.val (.long vj0), .second] [(.long (-9223372036854775808 : Int64)), (.long vj0)])) (fun _ hr => X0.ldc2Long hx hown (mvT hZ (hw _ (List.mem_of_getElem? (i := 31) rfl))) (g := (mkF m 1 #[.val (.long vj0), .second] [(.long vj0)])) rfl (hb hby d2_1) _ hr) ?_
  refine Rch.step (st' := T.setTop (mkF m 5 #[.val (.long vj0), .second] [(.int (lcmpW vj0 (-9223372036854775808 : Int64)))])) (fun _ hr => XS.lcmp X0.here hx rfl (hb hby d2_4) rfl hr) ?_
  by_cases hc1 : vj0 = (-9223372036854775808 : Int64)
  · rw [if_pos hc1]
    refine Rch.step (st' := T.setTop (mkF m 8 #[.val (.long vj0), .second] [])) (fun _ hr => XS.ifNo X0.here hx rfl (hb hby d2_5) rfl ((if0 _ _).trans (teq ((lw_eq vj0 (-9223372036854775808 : Int64)).mpr hc1)).2) hr) ?_
    refine Rch.step (st' := T.setTop (mkF m 10 #[.val (.long vj0), .second] [(.int (20 : Int32))])) (fun _ hr => XS.bipush X0.here hx rfl (hb hby d2_8) hr) ?_
    exact Rch.retI X0 hx hret hlk (hb hby d2_10) (by decide) (by decide) ⟨rfl, N0, e0⟩
  · rw [if_neg hc1]
    refine Rch.step (st' := T.setTop (mkF m 11 #[.val (.long vj0), .second] [])) (fun _ hr => XS.ifYes X0.here hx rfl (pc0 := 5) (pc' := 11) rfl (hb hby d2_5) rfl ((if0 _ _).trans (feq (fun q => hc1 ((lw_eq vj0 (-9223372036854775808 : Int64)).mp q))).2) (by decide) (by decide) hr) ?_
    refine Rch.step (st' := T.setTop (mkF m 12 #[.val (.long vj0), .second] [(.long vj0)])) (fun _ hr => XS.lloadN X0.here hx rfl (hb hby d2_11) rfl hr) ?_
    refine Rch.step (st' := T.setTop (mkF m 13 #[.val (.long vj0), .second] [(.long (0 : Int64)), (.long vj0)])) (fun _ hr => XS.lconst X0.here hx rfl (hb hby d2_12) hr) ?_
    refine Rch.step (st' := T.setTop (mkF m 14 #[.val (.long vj0), .second] [(.int (lcmpW vj0 (0 : Int64)))])) (fun _ hr => XS.lcmp X0.here hx rfl (hb hby d2_13) rfl hr) ?_
    by_cases hc2 : vj0 < (0 : Int64)
    · rw [if_pos hc2]
      refine Rch.step (st' := T.setTop (mkF m 17 #[.val (.long vj0), .second] [])) (fun _ hr => XS.ifNo X0.here hx rfl (hb hby d2_14) rfl ((if0 _ _).trans (tlt ((lw_lt vj0 (0 : Int64)).mpr hc2)).2.1) hr) ?_
      refine Rch.step (st' := T.setTop (mkF m 18 #[.val (.long vj0), .second] [(.long vj0)])) (fun _ hr => XS.lloadN X0.here hx rfl (hb hby d2_17) rfl hr) ?_
      refine Rch.step (st' := T.setTop (mkF m 19 #[.val (.long vj0), .second] [(.long (-vj0))])) (fun _ hr => XS.lneg X0.here hx rfl (hb hby d2_18) rfl hr) ?_
      obtain ⟨_, _, ⟨T3, L3, k3, n3⟩, -, X3, ⟨Lc3, hQ3, l3, y3, z3⟩, st3⟩ := Jvm.LawKit.callS X0 hx (y := (⟨"org/lodestream/io/LineWriterDecimalLengthPinLaw", "digitsOf", "(J)I"⟩ : MethodName)) hown (mvT hZ (hw _ (List.mem_of_getElem? (i := 32) rfl))) (mvT hZ (hw _ (List.mem_of_getElem? (i := 33) rfl))) (mvT hZ (hw _ (List.mem_of_getElem? (i := 29) rfl))) (mvT hZ (hw _ (List.mem_of_getElem? (i := 34) rfl))) (by decide) (backOf (W := 0) (rm3 l Z a0 hw [] (-vj0) h0 n0 Z0) hZ (hw _ (List.mem_of_getElem? (i := 34) rfl)) (hw _ (List.mem_of_getElem? (i := 29) rfl)) (by decide) (by decide)) (g := (mkF m 19 #[.val (.long vj0), .second] [(.long (-vj0))])) rfl (by rw [hml]; rfl) (argsL := [(.long (-vj0))]) (rest := []) (lenOf pd3 rfl) rfl (by show 2 * 0 + _ ≤ _; exact Nat.le_of_eq rfl) (hb hby d2_19) (fun _ _ => ⟨rfl, e0, (by decide : 0 + 0 ≤ _), (by decide : 0 + 0 ≤ _)⟩)
      dsimp only [Pt.U, Pt.locs, Pt.cells, Pt.slots] at X3 l3 y3 z3 st3 hQ3
      subst l3 y3 z3
      obtain ⟨rfl, N3q, e3⟩ := hQ3
      have N3 := Fr.app N0 N3q
      refine Rch.step (st' := T3.setTop (mkF m 22 #[.val (.long vj0), .second] [(.int (f3_0 (-vj0)))])) (fun _ hr => st3 _ hr) ?_
      refine Rch.step (st' := T3.setTop (mkF m 23 #[.val (.long vj0), .second] [(.int (1 : Int32)), (.int (f3_0 (-vj0)))])) (fun _ hr => XS.iconst X3.here hx rfl (hb hby d2_22) hr) ?_
      refine Rch.step (st' := T3.setTop (mkF m 24 #[.val (.long vj0), .second] [(.int ((f3_0 (-vj0)) + (1 : Int32)))])) (fun _ hr => XS.iadd X3.here hx rfl (hb hby d2_23) rfl hr) ?_
      exact Rch.retI X3 hx hret hlk (hb hby d2_24) (by decide) (by decide) ⟨rfl, N3, e3⟩
    · rw [if_neg hc2]
      refine Rch.step (st' := T.setTop (mkF m 25 #[.val (.long vj0), .second] [])) (fun _ hr => XS.ifYes X0.here hx rfl (pc0 := 14) (pc' := 25) rfl (hb hby d2_14) rfl ((if0 _ _).trans (flt (fun q => hc2 ((lw_lt vj0 (0 : Int64)).mp q))).2.1) (by decide) (by decide) hr) ?_
      refine Rch.step (st' := T.setTop (mkF m 26 #[.val (.long vj0), .second] [(.long vj0)])) (fun _ hr => XS.lloadN X0.here hx rfl (hb hby d2_25) rfl hr) ?_
      obtain ⟨_, _, ⟨T4, L4, k4, n4⟩, -, X4, ⟨Lc4, hQ4, l4, y4, z4⟩, st4⟩ := Jvm.LawKit.callS X0 hx (y := (⟨"org/lodestream/io/LineWriterDecimalLengthPinLaw", "digitsOf", "(J)I"⟩ : MethodName)) hown (mvT hZ (hw _ (List.mem_of_getElem? (i := 32) rfl))) (mvT hZ (hw _ (List.mem_of_getElem? (i := 33) rfl))) (mvT hZ (hw _ (List.mem_of_getElem? (i := 29) rfl))) (mvT hZ (hw _ (List.mem_of_getElem? (i := 34) rfl))) (by decide) (backOf (W := 0) (rm3 l Z a0 hw [] vj0 h0 n0 Z0) hZ (hw _ (List.mem_of_getElem? (i := 34) rfl)) (hw _ (List.mem_of_getElem? (i := 29) rfl)) (by decide) (by decide)) (g := (mkF m 26 #[.val (.long vj0), .second] [(.long vj0)])) rfl (by rw [hml]; rfl) (argsL := [(.long vj0)]) (rest := []) (lenOf pd3 rfl) rfl (by show 2 * 0 + _ ≤ _; exact Nat.le_of_eq rfl) (hb hby d2_26) (fun _ _ => ⟨rfl, e0, (by decide : 0 + 0 ≤ _), (by decide : 0 + 0 ≤ _)⟩)
      dsimp only [Pt.U, Pt.locs, Pt.cells, Pt.slots] at X4 l4 y4 z4 st4 hQ4
      subst l4 y4 z4
      obtain ⟨rfl, N4q, e4⟩ := hQ4
      have N4 := Fr.app N0 N4q
      refine Rch.step (st' := T4.setTop (mkF m 29 #[.val (.long vj0), .second] [(.int (f3_0 vj0))])) (fun _ hr => st4 _ hr) ?_
      exact Rch.retI X4 hx hret hlk (hb hby d2_29) (by decide) (by decide) ⟨rfl, N4, e4⟩
theorem ef2 (m : MethodId) (x0 : Int64) : entryFrame m #[(.long x0)] 2 = mkF m 0 #[.val (.long x0), .second] [] := by first | (simp [entryFrame, mkF, argsToLocals, Value.category]; done) | rfl
set_option maxRecDepth 65536 in
set_option maxHeartbeats 40000000 in
theorem rm2 (l : Launch) (Z : State) (a0 : Array Value) (hw : ∀ d ∈ tables_1, d.before a0 Z = true) (ws : List Jvm.Cond) (x0 : Int64) (h0 : Heap) (n0 : Nat) (Z0 : n0 ≤ h0.size)  :
    MetFree l (⟨"org/lodestream/io/LineWriterDecimalLengthPinLaw", "ref", "(J)I"⟩ : MethodName) (head1 (Jvm.Cond.code (⟨"org/lodestream/io/LineWriterDecimalLengthPinLaw", "ref", "(J)I"⟩ : MethodName) method_3_code 2 (some .int) :: ws) ({ frames := 1, cells := 0, slots := 0, locals := 13 } : Room)) (fun a U => a = #[(.long x0)] ∧ Z.Warmed39 U.vm ∧ U.heap = h0) (fun _ _ _ _ _ => True) (fun _ U o U' => ∃ v L, o = .returned v ∧ PI (f2_0 x0) h0 n0 v U'.heap L ∧ FrameEnd U o U' L ({ frames := 1, cells := 0, slots := 0, locals := 13 } : Room).cells ({ frames := 1, cells := 0, slots := 0, locals := 13 } : Room).slots) := by
  refine MetFree.of_bodySF (plainFor_of_name pn2) hisR ?_
  intro p e s m args below meth c s₁ Bd hml0 hP hK
  obtain ⟨rfl, hZ, hh⟩ := hP
  have hown : s.vm.findClass "org/lodestream/io/LineWriterDecimalLengthPinLaw" = some m.cls := findClass_of_methodNamed Bd.named
  have e0 : s₁.heap = h0 := by rw [← hh, Bd.state]; rfl
  obtain ⟨s₂, v, L, h1, h2, h3, h4, h5⟩ := b2_0 (T := s₁) ⟨Stand.of_body Bd, Bd.exec, hZ, hw, Bd.bytes, hml0, hown, Bd.returns, BodyLoose.notSynchronized Bd, e0, Z0, Fr.nil n0⟩ x0
  exact ⟨s₂, .returned v, castTop (ef2 m x0) h1, h2, h3, v, L, rfl, h4, h5⟩
-- body 0
theorem pn0 : plainName "org/lodestream/io/LineWriterDecimalLengthPinLaw" = true := by first | (simp [plainName, overriddenIn]; done) | decide +kernel
def f0_273 (vi16 : Int32) (vi17 : Int32) (si0 : Int32) (n0v : Int32) (w0 : List Int64) : Int32 := (if vi16 = (0 : Int32) then (0 : Int32) else (if vi17 = (0 : Int32) then (0 : Int32) else (if si0 = (0 : Int32) then (0 : Int32) else (1 : Int32))))
def f0_272 (vi16 : Int32) (vi17 : Int32) (n0v : Int32) (w0 : List Int64) : Int32 := (f0_273 vi16 vi17 (0 : Int32) n0v w0)
def f0_244 (vi16 : Int32) (si0 : Int32) (n0v : Int32) (w0 : List Int64) : Int32 := (if (f1_0 (-9223372036854775808 : Int64)) = (20 : Int32) then (if (f1_0 (9223372036854775807 : Int64)) = (19 : Int32) then (f0_273 vi16 si0 (1 : Int32) n0v w0) else (f0_272 vi16 si0 n0v w0)) else (f0_272 vi16 si0 n0v w0))
def f0_226 (vj0 : Int64) (si0 : Int32) (n0v : Int32) (w0 : List Int64) : Int32 := (if (f1_0 vj0) = (f2_0 vj0) then (f0_244 si0 (1 : Int32) n0v w0) else (f0_244 si0 (0 : Int32) n0v w0))
def f0_206 (vj0 : Int64) (sj0 : Int64) (n0v : Int32) (w0 : List Int64) : Int32 := (if (f1_0 sj0) = (f2_0 sj0) then (f0_226 vj0 (1 : Int32) n0v w0) else (f0_226 vj0 (0 : Int32) n0v w0))
def f0_191 (vj0 : Int64) (vj11 : Int64) (si0 : Int32) (n0v : Int32) (w0 : List Int64) : Int32 := (if si0 = (0 : Int32) then (f0_206 vj0 vj11 n0v w0) else (f0_206 vj0 (-vj11) n0v w0))
def f0_0 (vj0 : Int64) (vi2 : Int32) (vi3 : Int32) (vi4 : Int32) : Int32 := (if (vi4 &&& (1 : Int32)) = (0 : Int32) then (f0_191 vj0 ((([(1 : Int64), (10 : Int64), (100 : Int64), (1000 : Int64), (10000 : Int64), (100000 : Int64), (1000000 : Int64), (10000000 : Int64), (100000000 : Int64), (1000000000 : Int64), (10000000000 : Int64), (100000000000 : Int64), (1000000000000 : Int64), (10000000000000 : Int64), (100000000000000 : Int64), (1000000000000000 : Int64), (10000000000000000 : Int64), (100000000000000000 : Int64), (1000000000000000000 : Int64)].getD (((vi2 &&& (2147483647 : Int32)) - ((vi2 &&& (2147483647 : Int32)) / (19 : Int32)) * (19 : Int32))).toNatClampNeg 0) * ((((((vi4.toUInt32 >>> ((2 : Int32) &&& 31).toUInt32).toInt32) &&& (1073741823 : Int32)) - ((((vi4.toUInt32 >>> ((2 : Int32) &&& 31).toUInt32).toInt32) &&& (1073741823 : Int32)) / (9 : Int32)) * (9 : Int32)) + (1 : Int32)).toInt64)) + ((((vi3 &&& (2147483647 : Int32)) - ((vi3 &&& (2147483647 : Int32)) / (3 : Int32)) * (3 : Int32)) - (1 : Int32)).toInt64)) (0 : Int32) (19 : Int32) [(1 : Int64), (10 : Int64), (100 : Int64), (1000 : Int64), (10000 : Int64), (100000 : Int64), (1000000 : Int64), (10000000 : Int64), (100000000 : Int64), (1000000000 : Int64), (10000000000 : Int64), (100000000000 : Int64), (1000000000000 : Int64), (10000000000000 : Int64), (100000000000000 : Int64), (1000000000000000 : Int64), (10000000000000000 : Int64), (100000000000000000 : Int64), (1000000000000000000 : Int64)]) else (f0_191 vj0 ((([(1 : Int64), (10 : Int64), (100 : Int64), (1000 : Int64), (10000 : Int64), (100000 : Int64), (1000000 : Int64), (10000000 : Int64), (100000000 : Int64), (1000000000 : Int64), (10000000000 : Int64), (100000000000 : Int64), (1000000000000 : Int64), (10000000000000 : Int64), (100000000000000 : Int64), (1000000000000000 : Int64), (10000000000000000 : Int64), (100000000000000000 : Int64), (1000000000000000000 : Int64)].getD (((vi2 &&& (2147483647 : Int32)) - ((vi2 &&& (2147483647 : Int32)) / (19 : Int32)) * (19 : Int32))).toNatClampNeg 0) * ((((((vi4.toUInt32 >>> ((2 : Int32) &&& 31).toUInt32).toInt32) &&& (1073741823 : Int32)) - ((((vi4.toUInt32 >>> ((2 : Int32) &&& 31).toUInt32).toInt32) &&& (1073741823 : Int32)) / (9 : Int32)) * (9 : Int32)) + (1 : Int32)).toInt64)) + ((((vi3 &&& (2147483647 : Int32)) - ((vi3 &&& (2147483647 : Int32)) / (3 : Int32)) * (3 : Int32)) - (1 : Int32)).toInt64)) (1 : Int32) (19 : Int32) [(1 : Int64), (10 : Int64), (100 : Int64), (1000 : Int64), (10000 : Int64), (100000 : Int64), (1000000 : Int64), (10000000 : Int64), (100000000 : Int64), (1000000000 : Int64), (10000000000 : Int64), (100000000000 : Int64), (1000000000000 : Int64), (10000000000000 : Int64), (100000000000000 : Int64), (1000000000000000 : Int64), (10000000000000000 : Int64), (100000000000000000 : Int64), (1000000000000000000 : Int64)]))
set_option maxRecDepth 65536 in
set_option maxHeartbeats 40000000 in
theorem b0_273 {p : Program} {l : Launch} {e : Env} {s : State} {m : MethodId} {args : Array Value} {below : List Frame} {meth : Method} {c : Code} {T : State} {locs : List Loc} {Z : State} {a0 : Array Value} {h0 : Heap} {n0 : Nat} (cx : Cx room_1 code 19 "org/lodestream/io/LineWriterDecimalLengthPinLaw" (some .boolean) p l e s m args below meth c T locs 1 19 Z a0 h0 n0) (vj0 : Int64) (vi2 : Int32) (vi3 : Int32) (vi4 : Int32) (va5 : Addr) (vi6 : Int32) (vj7 : Int64) (vj9 : Int64) (vj11 : Int64) (vi13 : Int32) (vj14 : Int64) (vi16 : Int32) (vi17 : Int32) (si0 : Int32) (n0v : Int32) (w0 : List Int64) (Hf0 : ArJ Z h0 va5 n0v w0) (lw0 : n0 ≤ va5) :
    Rch p e below s 16 128 (T.setTop (mkF m 273 #[.val (.long vj0), .second, .val (.int vi2), .val (.int vi3), .val (.int vi4), .val (.ref va5), .val (.int vi6), .val (.long vj7), .second, .val (.long vj9), .second, .val (.long vj11), .second, .val (.int vi13), .val (.long vj14), .second, .val (.int vi16), .val (.int vi17), .unset] [(.int si0)])) (PL (f0_273 vi16 vi17 si0 n0v w0) n0) := by
  obtain ⟨X0, hx, hZ, hw, hby, hml, hown, hret, hlk, e0, Z0, N0⟩ := cx
  unfold f0_273
  refine Rch.step (st' := T.setTop (mkF m 275 #[.val (.long vj0), .second, .val (.int vi2), .val (.int vi3), .val (.int vi4), .val (.ref va5), .val (.int vi6), .val (.long vj7), .second, .val (.long vj9), .second, .val (.long vj11), .second, .val (.int vi13), .val (.long vj14), .second, .val (.int vi16), .val (.int vi17), .val (.int si0)] [])) (fun _ hr => XS.istore X0.here hx rfl (hb hby at_273) rfl (l' := #[.val (.long vj0), .second, .val (.int vi2), .val (.int vi3), .val (.int vi4), .val (.ref va5), .val (.int vi6), .val (.long vj7), .second, .val (.long vj9), .second, .val (.long vj11), .second, .val (.int vi13), .val (.long vj14), .second, .val (.int vi16), .val (.int vi17), .val (.int si0)]) rfl hr) ?_
  refine Rch.step (st' := T.setTop (mkF m 277 #[.val (.long vj0), .second, .val (.int vi2), .val (.int vi3), .val (.int vi4), .val (.ref va5), .val (.int vi6), .val (.long vj7), .second, .val (.long vj9), .second, .val (.long vj11), .second, .val (.int vi13), .val (.long vj14), .second, .val (.int vi16), .val (.int vi17), .val (.int si0)] [(.int vi16)])) (fun _ hr => XS.iload X0.here hx rfl (hb hby at_275) rfl hr) ?_
  by_cases hc1 : vi16 = (0 : Int32)
  · rw [if_pos hc1]
    refine Rch.step (st' := T.setTop (mkF m 294 #[.val (.long vj0), .second, .val (.int vi2), .val (.int vi3), .val (.int vi4), .val (.ref va5), .val (.int vi6), .val (.long vj7), .second, .val (.long vj9), .second, .val (.long vj11), .second, .val (.int vi13), .val (.long vj14), .second, .val (.int vi16), .val (.int vi17), .val (.int si0)] [])) (fun _ hr => XS.ifYes X0.here hx rfl (pc0 := 277) (pc' := 294) rfl (hb hby at_277) rfl ((if0 _ _).trans (teq hc1).1) (by decide) (by decide) hr) ?_
    refine Rch.step (st' := T.setTop (mkF m 295 #[.val (.long vj0), .second, .val (.int vi2), .val (.int vi3), .val (.int vi4), .val (.ref va5), .val (.int vi6), .val (.long vj7), .second, .val (.long vj9), .second, .val (.long vj11), .second, .val (.int vi13), .val (.long vj14), .second, .val (.int vi16), .val (.int vi17), .val (.int si0)] [(.int (0 : Int32))])) (fun _ hr => XS.iconst X0.here hx rfl (hb hby at_294) hr) ?_
    exact Rch.retN X0 hx (t := .boolean) hret hlk (by simp) (hb hby at_295) (by decide) (by decide) ⟨rfl, N0⟩
  · rw [if_neg hc1]
    refine Rch.step (st' := T.setTop (mkF m 280 #[.val (.long vj0), .second, .val (.int vi2), .val (.int vi3), .val (.int vi4), .val (.ref va5), .val (.int vi6), .val (.long vj7), .second, .val (.long vj9), .second, .val (.long vj11), .second, .val (.int vi13), .val (.long vj14), .second, .val (.int vi16), .val (.int vi17), .val (.int si0)] [])) (fun _ hr => XS.ifNo X0.here hx rfl (hb hby at_277) rfl ((if0 _ _).trans (feq hc1).1) hr) ?_
    refine Rch.step (st' := T.setTop (mkF m 282 #[.val (.long vj0), .second, .val (.int vi2), .val (.int vi3), .val (.int vi4), .val (.ref va5), .val (.int vi6), .val (.long vj7), .second, .val (.long vj9), .second, .val (.long vj11), .second, .val (.int vi13), .val (.long vj14), .second, .val (.int vi16), .val (.int vi17), .val (.int si0)] [(.int vi17)])) (fun _ hr => XS.iload X0.here hx rfl (hb hby at_280) rfl hr) ?_
    by_cases hc2 : vi17 = (0 : Int32)
    · rw [if_pos hc2]
      refine Rch.step (st' := T.setTop (mkF m 294 #[.val (.long vj0), .second, .val (.int vi2), .val (.int vi3), .val (.int vi4), .val (.ref va5), .val (.int vi6), .val (.long vj7), .second, .val (.long vj9), .second, .val (.long vj11), .second, .val (.int vi13), .val (.long vj14), .second, .val (.int vi16), .val (.int vi17), .val (.int si0)] [])) (fun _ hr => XS.ifYes X0.here hx rfl (pc0 := 282) (pc' := 294) rfl (hb hby at_282) rfl ((if0 _ _).trans (teq hc2).1) (by decide) (by decide) hr) ?_
      refine Rch.step (st' := T.setTop (mkF m 295 #[.val (.long vj0), .second, .val (.int vi2), .val (.int vi3), .val (.int vi4), .val (.ref va5), .val (.int vi6), .val (.long vj7), .second, .val (.long vj9), .second, .val (.long vj11), .second, .val (.int vi13), .val (.long vj14), .second, .val (.int vi16), .val (.int vi17), .val (.int si0)] [(.int (0 : Int32))])) (fun _ hr => XS.iconst X0.here hx rfl (hb hby at_294) hr) ?_
      exact Rch.retN X0 hx (t := .boolean) hret hlk (by simp) (hb hby at_295) (by decide) (by decide) ⟨rfl, N0⟩
    · rw [if_neg hc2]
      refine Rch.step (st' := T.setTop (mkF m 285 #[.val (.long vj0), .second, .val (.int vi2), .val (.int vi3), .val (.int vi4), .val (.ref va5), .val (.int vi6), .val (.long vj7), .second, .val (.long vj9), .second, .val (.long vj11), .second, .val (.int vi13), .val (.long vj14), .second, .val (.int vi16), .val (.int vi17), .val (.int si0)] [])) (fun _ hr => XS.ifNo X0.here hx rfl (hb hby at_282) rfl ((if0 _ _).trans (feq hc2).1) hr) ?_
      refine Rch.step (st' := T.setTop (mkF m 287 #[.val (.long vj0), .second, .val (.int vi2), .val (.int vi3), .val (.int vi4), .val (.ref va5), .val (.int vi6), .val (.long vj7), .second, .val (.long vj9), .second, .val (.long vj11), .second, .val (.int vi13), .val (.long vj14), .second, .val (.int vi16), .val (.int vi17), .val (.int si0)] [(.int si0)])) (fun _ hr => XS.iload X0.here hx rfl (hb hby at_285) rfl hr) ?_
      by_cases hc3 : si0 = (0 : Int32)
      · rw [if_pos hc3]
        refine Rch.step (st' := T.setTop (mkF m 294 #[.val (.long vj0), .second, .val (.int vi2), .val (.int vi3), .val (.int vi4), .val (.ref va5), .val (.int vi6), .val (.long vj7), .second, .val (.long vj9), .second, .val (.long vj11), .second, .val (.int vi13), .val (.long vj14), .second, .val (.int vi16), .val (.int vi17), .val (.int si0)] [])) (fun _ hr => XS.ifYes X0.here hx rfl (pc0 := 287) (pc' := 294) rfl (hb hby at_287) rfl ((if0 _ _).trans (teq hc3).1) (by decide) (by decide) hr) ?_
        refine Rch.step (st' := T.setTop (mkF m 295 #[.val (.long vj0), .second, .val (.int vi2), .val (.int vi3), .val (.int vi4), .val (.ref va5), .val (.int vi6), .val (.long vj7), .second, .val (.long vj9), .second, .val (.long vj11), .second, .val (.int vi13), .val (.long vj14), .second, .val (.int vi16), .val (.int vi17), .val (.int si0)] [(.int (0 : Int32))])) (fun _ hr => XS.iconst X0.here hx rfl (hb hby at_294) hr) ?_
        exact Rch.retN X0 hx (t := .boolean) hret hlk (by simp) (hb hby at_295) (by decide) (by decide) ⟨rfl, N0⟩
      · rw [if_neg hc3]
        refine Rch.step (st' := T.setTop (mkF m 290 #[.val (.long vj0), .second, .val (.int vi2), .val (.int vi3), .val (.int vi4), .val (.ref va5), .val (.int vi6), .val (.long vj7), .second, .val (.long vj9), .second, .val (.long vj11), .second, .val (.int vi13), .val (.long vj14), .second, .val (.int vi16), .val (.int vi17), .val (.int si0)] [])) (fun _ hr => XS.ifNo X0.here hx rfl (hb hby at_287) rfl ((if0 _ _).trans (feq hc3).1) hr) ?_
        refine Rch.step (st' := T.setTop (mkF m 291 #[.val (.long vj0), .second, .val (.int vi2), .val (.int vi3), .val (.int vi4), .val (.ref va5), .val (.int vi6), .val (.long vj7), .second, .val (.long vj9), .second, .val (.long vj11), .second, .val (.int vi13), .val (.long vj14), .second, .val (.int vi16), .val (.int vi17), .val (.int si0)] [(.int (1 : Int32))])) (fun _ hr => XS.iconst X0.here hx rfl (hb hby at_290) hr) ?_
        refine Rch.step (st' := T.setTop (mkF m 295 #[.val (.long vj0), .second, .val (.int vi2), .val (.int vi3), .val (.int vi4), .val (.ref va5), .val (.int vi6), .val (.long vj7), .second, .val (.long vj9), .second, .val (.long vj11), .second, .val (.int vi13), .val (.long vj14), .second, .val (.int vi16), .val (.int vi17), .val (.int si0)] [(.int (1 : Int32))])) (fun _ hr => XS.goto X0.here hx rfl (pc0 := 291) (pc' := 295) rfl (hb hby at_291) (by decide) (by decide) hr) ?_
        exact Rch.retN X0 hx (t := .boolean) hret hlk (by simp) (hb hby at_295) (by decide) (by decide) ⟨rfl, N0⟩
set_option maxRecDepth 65536 in
set_option maxHeartbeats 40000000 in
theorem b0_272 {p : Program} {l : Launch} {e : Env} {s : State} {m : MethodId} {args : Array Value} {below : List Frame} {meth : Method} {c : Code} {T : State} {locs : List Loc} {Z : State} {a0 : Array Value} {h0 : Heap} {n0 : Nat} (cx : Cx room_1 code 19 "org/lodestream/io/LineWriterDecimalLengthPinLaw" (some .boolean) p l e s m args below meth c T locs 1 19 Z a0 h0 n0) (vj0 : Int64) (vi2 : Int32) (vi3 : Int32) (vi4 : Int32) (va5 : Addr) (vi6 : Int32) (vj7 : Int64) (vj9 : Int64) (vj11 : Int64) (vi13 : Int32) (vj14 : Int64) (vi16 : Int32) (vi17 : Int32) (n0v : Int32) (w0 : List Int64) (Hf0 : ArJ Z h0 va5 n0v w0) (lw0 : n0 ≤ va5) :
    Rch p e below s 16 128 (T.setTop (mkF m 272 #[.val (.long vj0), .second, .val (.int vi2), .val (.int vi3), .val (.int vi4), .val (.ref va5), .val (.int vi6), .val (.long vj7), .second, .val (.long vj9), .second, .val (.long vj11), .second, .val (.int vi13), .val (.long vj14), .second, .val (.int vi16), .val (.int vi17), .unset] [])) (PL (f0_272 vi16 vi17 n0v w0) n0) := by
  obtain ⟨X0, hx, hZ, hw, hby, hml, hown, hret, hlk, e0, Z0, N0⟩ := cx
  unfold f0_272
  refine Rch.step (st' := T.setTop (mkF m 273 #[.val (.long vj0), .second, .val (.int vi2), .val (.int vi3), .val (.int vi4), .val (.ref va5), .val (.int vi6), .val (.long vj7), .second, .val (.long vj9), .second, .val (.long vj11), .second, .val (.int vi13), .val (.long vj14), .second, .val (.int vi16), .val (.int vi17), .unset] [(.int (0 : Int32))])) (fun _ hr => XS.iconst X0.here hx rfl (hb hby at_272) hr) ?_
  exact b0_273 ⟨X0, hx, hZ, hw, hby, hml, hown, hret, hlk, e0, Z0, N0⟩ vj0 vi2 vi3 vi4 va5 vi6 vj7 vj9 vj11 vi13 vj14 vi16 vi17 (0 : Int32) n0v w0 Hf0 lw0
set_option maxRecDepth 65536 in
set_option maxHeartbeats 40000000 in
theorem b0_244 {p : Program} {l : Launch} {e : Env} {s : State} {m : MethodId} {args : Array Value} {below : List Frame} {meth : Method} {c : Code} {T : State} {locs : List Loc} {Z : State} {a0 : Array Value} {h0 : Heap} {n0 : Nat} (cx : Cx room_1 code 19 "org/lodestream/io/LineWriterDecimalLengthPinLaw" (some .boolean) p l e s m args below meth c T locs 1 19 Z a0 h0 n0) (vj0 : Int64) (vi2 : Int32) (vi3 : Int32) (vi4 : Int32) (va5 : Addr) (vi6 : Int32) (vj7 : Int64) (vj9 : Int64) (vj11 : Int64) (vi13 : Int32) (vj14 : Int64) (vi16 : Int32) (si0 : Int32) (n0v : Int32) (w0 : List Int64) (Hf0 : ArJ Z h0 va5 n0v w0) (lw0 : n0 ≤ va5) :
    Rch p e below s 16 128 (T.setTop (mkF m 244 #[.val (.long vj0), .second, .val (.int vi2), .val (.int vi3), .val (.int vi4), .val (.ref va5), .val (.int vi6), .val (.long vj7), .second, .val (.long vj9), .second, .val (.long vj11), .second, .val (.int vi13), .val (.long vj14), .second, .val (.int vi16), .unset, .unset] [(.int si0)])) (PL (f0_244 vi16 si0 n0v w0) n0) := by
  obtain ⟨X0, hx, hZ, hw, hby, hml, hown, hret, hlk, e0, Z0, N0⟩ := cx
  unfold f0_244
  refine Rch.step (st' := T.setTop (mkF m 246 #[.val (.long vj0), .second, .val (.int vi2), .val (.int vi3), .val (.int vi4), .val (.ref va5), .val (.int vi6), .val (.long vj7), .second, .val (.long vj9), .second, .val (.long vj11), .second, .val (.int vi13), .val (.long vj14), .second, .val (.int vi16), .val (.int si0), .unset] [])) (fun _ hr => XS.istore X0.here hx rfl (hb hby at_244) rfl (l' := #[.val (.long vj0), .second, .val (.int vi2), .val (.int vi3), .val (.int vi4), .val (.ref va5), .val (.int vi6), .val (.long vj7), .second, .val (.long vj9), .second, .val (.long vj11), .second, .val (.int vi13), .val (.long vj14), .second, .val (.int vi16), .val (.int si0), .unset]) rfl hr) ?_
  refine Rch.step (st' := T.setTop (mkF m 249 #[.val (.long vj0), .second, .val (.int vi2), .val (.int vi3), .val (.int vi4), .val (.ref va5), .val (.int vi6), .val (.long vj7), .second, .val (.long vj9), .second, .val (.long vj11), .second, .val (.int vi13), .val (.long vj14), .second, .val (.int vi16), .val (.int si0), .unset] [(.long (-9223372036854775808 : Int64))])) (fun _ hr => X0.ldc2Long hx hown (mvT hZ (hw _ (List.mem_of_getElem? (i := 31) rfl))) (g := (mkF m 246 #[.val (.long vj0), .second, .val (.int vi2), .val (.int vi3), .val (.int vi4), .val (.ref va5), .val (.int vi6), .val (.long vj7), .second, .val (.long vj9), .second, .val (.long vj11), .second, .val (.int vi13), .val (.long vj14), .second, .val (.int vi16), .val (.int si0), .unset] [])) rfl (hb hby at_246) _ hr) ?_
  obtain ⟨_, _, ⟨T1, L1, k1, n1⟩, -, X1, ⟨Lc1, hQ1, l1, y1, z1⟩, st1⟩ := Jvm.LawKit.callS X0 hx (y := (⟨"org/lodestream/io/LineWriter", "decimalLength", "(J)I"⟩ : MethodName)) hown (mvT hZ (hw _ (List.mem_of_getElem? (i := 21) rfl))) (mvT hZ (hw _ (List.mem_of_getElem? (i := 22) rfl))) (mvT hZ (hw _ (List.mem_of_getElem? (i := 23) rfl))) (mvT hZ (hw _ (List.mem_of_getElem? (i := 24) rfl))) (by decide) (backOf (W := 0) (rm1 l Z a0 hw [] (-9223372036854775808 : Int64) h0 n0 Z0) hZ (hw _ (List.mem_of_getElem? (i := 24) rfl)) (hw _ (List.mem_of_getElem? (i := 23) rfl)) (by decide) (by decide)) (g := (mkF m 249 #[.val (.long vj0), .second, .val (.int vi2), .val (.int vi3), .val (.int vi4), .val (.ref va5), .val (.int vi6), .val (.long vj7), .second, .val (.long vj9), .second, .val (.long vj11), .second, .val (.int vi13), .val (.long vj14), .second, .val (.int vi16), .val (.int si0), .unset] [(.long (-9223372036854775808 : Int64))])) rfl (by rw [hml]; rfl) (argsL := [(.long (-9223372036854775808 : Int64))]) (rest := []) (lenOf pd1 rfl) rfl (by show 2 * 0 + _ ≤ _; exact Nat.le_of_eq rfl) (hb hby at_249) (fun _ _ => ⟨rfl, e0, (by decide : 1 + 0 ≤ _), (by decide : 19 + 0 ≤ _)⟩)
  dsimp only [Pt.U, Pt.locs, Pt.cells, Pt.slots] at X1 l1 y1 z1 st1 hQ1
  subst l1 y1 z1
  obtain ⟨rfl, N1q, e1⟩ := hQ1
  have N1 := Fr.app N0 N1q
  refine Rch.step (st' := T1.setTop (mkF m 252 #[.val (.long vj0), .second, .val (.int vi2), .val (.int vi3), .val (.int vi4), .val (.ref va5), .val (.int vi6), .val (.long vj7), .second, .val (.long vj9), .second, .val (.long vj11), .second, .val (.int vi13), .val (.long vj14), .second, .val (.int vi16), .val (.int si0), .unset] [(.int (f1_0 (-9223372036854775808 : Int64)))])) (fun _ hr => st1 _ hr) ?_
  refine Rch.step (st' := T1.setTop (mkF m 254 #[.val (.long vj0), .second, .val (.int vi2), .val (.int vi3), .val (.int vi4), .val (.ref va5), .val (.int vi6), .val (.long vj7), .second, .val (.long vj9), .second, .val (.long vj11), .second, .val (.int vi13), .val (.long vj14), .second, .val (.int vi16), .val (.int si0), .unset] [(.int (20 : Int32)), (.int (f1_0 (-9223372036854775808 : Int64)))])) (fun _ hr => XS.bipush X1.here hx rfl (hb hby at_252) hr) ?_
  by_cases hc2 : (f1_0 (-9223372036854775808 : Int64)) = (20 : Int32)
  · rw [if_pos hc2]
    refine Rch.step (st' := T1.setTop (mkF m 257 #[.val (.long vj0), .second, .val (.int vi2), .val (.int vi3), .val (.int vi4), .val (.ref va5), .val (.int vi6), .val (.long vj7), .second, .val (.long vj9), .second, .val (.long vj11), .second, .val (.int vi13), .val (.long vj14), .second, .val (.int vi16), .val (.int si0), .unset] [])) (fun _ hr => XS.icmpNo X1.here hx rfl (hb hby at_254) rfl (teq hc2).2 hr) ?_
    refine Rch.step (st' := T1.setTop (mkF m 260 #[.val (.long vj0), .second, .val (.int vi2), .val (.int vi3), .val (.int vi4), .val (.ref va5), .val (.int vi6), .val (.long vj7), .second, .val (.long vj9), .second, .val (.long vj11), .second, .val (.int vi13), .val (.long vj14), .second, .val (.int vi16), .val (.int si0), .unset] [(.long (9223372036854775807 : Int64))])) (fun _ hr => X1.ldc2Long hx hown (mvT hZ (hw _ (List.mem_of_getElem? (i := 35) rfl))) (g := (mkF m 257 #[.val (.long vj0), .second, .val (.int vi2), .val (.int vi3), .val (.int vi4), .val (.ref va5), .val (.int vi6), .val (.long vj7), .second, .val (.long vj9), .second, .val (.long vj11), .second, .val (.int vi13), .val (.long vj14), .second, .val (.int vi16), .val (.int si0), .unset] [])) rfl (hb hby at_257) _ hr) ?_
    obtain ⟨_, _, ⟨T3, L3, k3, n3⟩, -, X3, ⟨Lc3, hQ3, l3, y3, z3⟩, st3⟩ := Jvm.LawKit.callS X1 hx (y := (⟨"org/lodestream/io/LineWriter", "decimalLength", "(J)I"⟩ : MethodName)) hown (mvT hZ (hw _ (List.mem_of_getElem? (i := 21) rfl))) (mvT hZ (hw _ (List.mem_of_getElem? (i := 22) rfl))) (mvT hZ (hw _ (List.mem_of_getElem? (i := 23) rfl))) (mvT hZ (hw _ (List.mem_of_getElem? (i := 24) rfl))) (by decide) (backOf (W := 0) (rm1 l Z a0 hw [] (9223372036854775807 : Int64) h0 n0 Z0) hZ (hw _ (List.mem_of_getElem? (i := 24) rfl)) (hw _ (List.mem_of_getElem? (i := 23) rfl)) (by decide) (by decide)) (g := (mkF m 260 #[.val (.long vj0), .second, .val (.int vi2), .val (.int vi3), .val (.int vi4), .val (.ref va5), .val (.int vi6), .val (.long vj7), .second, .val (.long vj9), .second, .val (.long vj11), .second, .val (.int vi13), .val (.long vj14), .second, .val (.int vi16), .val (.int si0), .unset] [(.long (9223372036854775807 : Int64))])) rfl (by rw [hml]; rfl) (argsL := [(.long (9223372036854775807 : Int64))]) (rest := []) (lenOf pd1 rfl) rfl (by show 2 * 0 + _ ≤ _; exact Nat.le_of_eq rfl) (hb hby at_260) (fun _ _ => ⟨rfl, e1, (by decide : 1 + 0 ≤ _), (by decide : 19 + 0 ≤ _)⟩)
    dsimp only [Pt.U, Pt.locs, Pt.cells, Pt.slots] at X3 l3 y3 z3 st3 hQ3
    subst l3 y3 z3
    obtain ⟨rfl, N3q, e3⟩ := hQ3
    have N3 := Fr.app N1 N3q
    refine Rch.step (st' := T3.setTop (mkF m 263 #[.val (.long vj0), .second, .val (.int vi2), .val (.int vi3), .val (.int vi4), .val (.ref va5), .val (.int vi6), .val (.long vj7), .second, .val (.long vj9), .second, .val (.long vj11), .second, .val (.int vi13), .val (.long vj14), .second, .val (.int vi16), .val (.int si0), .unset] [(.int (f1_0 (9223372036854775807 : Int64)))])) (fun _ hr => st3 _ hr) ?_
    refine Rch.step (st' := T3.setTop (mkF m 265 #[.val (.long vj0), .second, .val (.int vi2), .val (.int vi3), .val (.int vi4), .val (.ref va5), .val (.int vi6), .val (.long vj7), .second, .val (.long vj9), .second, .val (.long vj11), .second, .val (.int vi13), .val (.long vj14), .second, .val (.int vi16), .val (.int si0), .unset] [(.int (19 : Int32)), (.int (f1_0 (9223372036854775807 : Int64)))])) (fun _ hr => XS.bipush X3.here hx rfl (hb hby at_263) hr) ?_
    by_cases hc4 : (f1_0 (9223372036854775807 : Int64)) = (19 : Int32)
    · rw [if_pos hc4]
      refine Rch.step (st' := T3.setTop (mkF m 268 #[.val (.long vj0), .second, .val (.int vi2), .val (.int vi3), .val (.int vi4), .val (.ref va5), .val (.int vi6), .val (.long vj7), .second, .val (.long vj9), .second, .val (.long vj11), .second, .val (.int vi13), .val (.long vj14), .second, .val (.int vi16), .val (.int si0), .unset] [])) (fun _ hr => XS.icmpNo X3.here hx rfl (hb hby at_265) rfl (teq hc4).2 hr) ?_
      refine Rch.step (st' := T3.setTop (mkF m 269 #[.val (.long vj0), .second, .val (.int vi2), .val (.int vi3), .val (.int vi4), .val (.ref va5), .val (.int vi6), .val (.long vj7), .second, .val (.long vj9), .second, .val (.long vj11), .second, .val (.int vi13), .val (.long vj14), .second, .val (.int vi16), .val (.int si0), .unset] [(.int (1 : Int32))])) (fun _ hr => XS.iconst X3.here hx rfl (hb hby at_268) hr) ?_
      refine Rch.step (st' := T3.setTop (mkF m 273 #[.val (.long vj0), .second, .val (.int vi2), .val (.int vi3), .val (.int vi4), .val (.ref va5), .val (.int vi6), .val (.long vj7), .second, .val (.long vj9), .second, .val (.long vj11), .second, .val (.int vi13), .val (.long vj14), .second, .val (.int vi16), .val (.int si0), .unset] [(.int (1 : Int32))])) (fun _ hr => XS.goto X3.here hx rfl (pc0 := 269) (pc' := 273) rfl (hb hby at_269) (by decide) (by decide) hr) ?_
      exact b0_273 ⟨X3, hx, hZ, hw, hby, hml, hown, hret, hlk, e3, Z0, N3⟩ vj0 vi2 vi3 vi4 va5 vi6 vj7 vj9 vj11 vi13 vj14 vi16 si0 (1 : Int32) n0v w0 Hf0 lw0
    · rw [if_neg hc4]
      refine Rch.step (st' := T3.setTop (mkF m 272 #[.val (.long vj0), .second, .val (.int vi2), .val (.int vi3), .val (.int vi4), .val (.ref va5), .val (.int vi6), .val (.long vj7), .second, .val (.long vj9), .second, .val (.long vj11), .second, .val (.int vi13), .val (.long vj14), .second, .val (.int vi16), .val (.int si0), .unset] [])) (fun _ hr => XS.icmpYes X3.here hx rfl (pc0 := 265) (pc' := 272) rfl (hb hby at_265) rfl (feq hc4).2 (by decide) (by decide) hr) ?_
      exact b0_272 ⟨X3, hx, hZ, hw, hby, hml, hown, hret, hlk, e3, Z0, N3⟩ vj0 vi2 vi3 vi4 va5 vi6 vj7 vj9 vj11 vi13 vj14 vi16 si0 n0v w0 Hf0 lw0
  · rw [if_neg hc2]
    refine Rch.step (st' := T1.setTop (mkF m 272 #[.val (.long vj0), .second, .val (.int vi2), .val (.int vi3), .val (.int vi4), .val (.ref va5), .val (.int vi6), .val (.long vj7), .second, .val (.long vj9), .second, .val (.long vj11), .second, .val (.int vi13), .val (.long vj14), .second, .val (.int vi16), .val (.int si0), .unset] [])) (fun _ hr => XS.icmpYes X1.here hx rfl (pc0 := 254) (pc' := 272) rfl (hb hby at_254) rfl (feq hc2).2 (by decide) (by decide) hr) ?_
    exact b0_272 ⟨X1, hx, hZ, hw, hby, hml, hown, hret, hlk, e1, Z0, N1⟩ vj0 vi2 vi3 vi4 va5 vi6 vj7 vj9 vj11 vi13 vj14 vi16 si0 n0v w0 Hf0 lw0
set_option maxRecDepth 65536 in
set_option maxHeartbeats 40000000 in
theorem b0_226 {p : Program} {l : Launch} {e : Env} {s : State} {m : MethodId} {args : Array Value} {below : List Frame} {meth : Method} {c : Code} {T : State} {locs : List Loc} {Z : State} {a0 : Array Value} {h0 : Heap} {n0 : Nat} (cx : Cx room_1 code 19 "org/lodestream/io/LineWriterDecimalLengthPinLaw" (some .boolean) p l e s m args below meth c T locs 1 19 Z a0 h0 n0) (vj0 : Int64) (vi2 : Int32) (vi3 : Int32) (vi4 : Int32) (va5 : Addr) (vi6 : Int32) (vj7 : Int64) (vj9 : Int64) (vj11 : Int64) (vi13 : Int32) (vj14 : Int64) (si0 : Int32) (n0v : Int32) (w0 : List Int64) (Hf0 : ArJ Z h0 va5 n0v w0) (lw0 : n0 ≤ va5) :
    Rch p e below s 16 128 (T.setTop (mkF m 226 #[.val (.long vj0), .second, .val (.int vi2), .val (.int vi3), .val (.int vi4), .val (.ref va5), .val (.int vi6), .val (.long vj7), .second, .val (.long vj9), .second, .val (.long vj11), .second, .val (.int vi13), .val (.long vj14), .second, .unset, .unset, .unset] [(.int si0)])) (PL (f0_226 vj0 si0 n0v w0) n0) := by
  obtain ⟨X0, hx, hZ, hw, hby, hml, hown, hret, hlk, e0, Z0, N0⟩ := cx
  unfold f0_226
  refine Rch.step (st' := T.setTop (mkF m 228 #[.val (.long vj0), .second, .val (.int vi2), .val (.int vi3), .val (.int vi4), .val (.ref va5), .val (.int vi6), .val (.long vj7), .second, .val (.long vj9), .second, .val (.long vj11), .second, .val (.int vi13), .val (.long vj14), .second, .val (.int si0), .unset, .unset] [])) (fun _ hr => XS.istore X0.here hx rfl (hb hby at_226) rfl (l' := #[.val (.long vj0), .second, .val (.int vi2), .val (.int vi3), .val (.int vi4), .val (.ref va5), .val (.int vi6), .val (.long vj7), .second, .val (.long vj9), .second, .val (.long vj11), .second, .val (.int vi13), .val (.long vj14), .second, .val (.int si0), .unset, .unset]) rfl hr) ?_
  refine Rch.step (st' := T.setTop (mkF m 229 #[.val (.long vj0), .second, .val (.int vi2), .val (.int vi3), .val (.int vi4), .val (.ref va5), .val (.int vi6), .val (.long vj7), .second, .val (.long vj9), .second, .val (.long vj11), .second, .val (.int vi13), .val (.long vj14), .second, .val (.int si0), .unset, .unset] [(.long vj0)])) (fun _ hr => XS.lloadN X0.here hx rfl (hb hby at_228) rfl hr) ?_
  obtain ⟨_, _, ⟨T1, L1, k1, n1⟩, -, X1, ⟨Lc1, hQ1, l1, y1, z1⟩, st1⟩ := Jvm.LawKit.callS X0 hx (y := (⟨"org/lodestream/io/LineWriter", "decimalLength", "(J)I"⟩ : MethodName)) hown (mvT hZ (hw _ (List.mem_of_getElem? (i := 21) rfl))) (mvT hZ (hw _ (List.mem_of_getElem? (i := 22) rfl))) (mvT hZ (hw _ (List.mem_of_getElem? (i := 23) rfl))) (mvT hZ (hw _ (List.mem_of_getElem? (i := 24) rfl))) (by decide) (backOf (W := 0) (rm1 l Z a0 hw [] vj0 h0 n0 Z0) hZ (hw _ (List.mem_of_getElem? (i := 24) rfl)) (hw _ (List.mem_of_getElem? (i := 23) rfl)) (by decide) (by decide)) (g := (mkF m 229 #[.val (.long vj0), .second, .val (.int vi2), .val (.int vi3), .val (.int vi4), .val (.ref va5), .val (.int vi6), .val (.long vj7), .second, .val (.long vj9), .second, .val (.long vj11), .second, .val (.int vi13), .val (.long vj14), .second, .val (.int si0), .unset, .unset] [(.long vj0)])) rfl (by rw [hml]; rfl) (argsL := [(.long vj0)]) (rest := []) (lenOf pd1 rfl) rfl (by show 2 * 0 + _ ≤ _; exact Nat.le_of_eq rfl) (hb hby at_229) (fun _ _ => ⟨rfl, e0, (by decide : 1 + 0 ≤ _), (by decide : 19 + 0 ≤ _)⟩)
  dsimp only [Pt.U, Pt.locs, Pt.cells, Pt.slots] at X1 l1 y1 z1 st1 hQ1
  subst l1 y1 z1
  obtain ⟨rfl, N1q, e1⟩ := hQ1
  have N1 := Fr.app N0 N1q
  refine Rch.step (st' := T1.setTop (mkF m 232 #[.val (.long vj0), .second, .val (.int vi2), .val (.int vi3), .val (.int vi4), .val (.ref va5), .val (.int vi6), .val (.long vj7), .second, .val (.long vj9), .second, .val (.long vj11), .second, .val (.int vi13), .val (.long vj14), .second, .val (.int si0), .unset, .unset] [(.int (f1_0 vj0))])) (fun _ hr => st1 _ hr) ?_
  refine Rch.step (st' := T1.setTop (mkF m 233 #[.val (.long vj0), .second, .val (.int vi2), .val (.int vi3), .val (.int vi4), .val (.ref va5), .val (.int vi6), .val (.long vj7), .second, .val (.long vj9), .second, .val (.long vj11), .second, .val (.int vi13), .val (.long vj14), .second, .val (.int si0), .unset, .unset] [(.long vj0), (.int (f1_0 vj0))])) (fun _ hr => XS.lloadN X1.here hx rfl (hb hby at_232) rfl hr) ?_
  obtain ⟨_, _, ⟨T2, L2, k2, n2⟩, -, X2, ⟨Lc2, hQ2, l2, y2, z2⟩, st2⟩ := Jvm.LawKit.callS X1 hx (y := (⟨"org/lodestream/io/LineWriterDecimalLengthPinLaw", "ref", "(J)I"⟩ : MethodName)) hown (mvT hZ (hw _ (List.mem_of_getElem? (i := 27) rfl))) (mvT hZ (hw _ (List.mem_of_getElem? (i := 28) rfl))) (mvT hZ (hw _ (List.mem_of_getElem? (i := 29) rfl))) (mvT hZ (hw _ (List.mem_of_getElem? (i := 30) rfl))) (by decide) (backOf (W := 1) (rm2 l Z a0 hw [] vj0 h0 n0 Z0) hZ (hw _ (List.mem_of_getElem? (i := 30) rfl)) (hw _ (List.mem_of_getElem? (i := 29) rfl)) (by decide) (by decide)) (g := (mkF m 233 #[.val (.long vj0), .second, .val (.int vi2), .val (.int vi3), .val (.int vi4), .val (.ref va5), .val (.int vi6), .val (.long vj7), .second, .val (.long vj9), .second, .val (.long vj11), .second, .val (.int vi13), .val (.long vj14), .second, .val (.int si0), .unset, .unset] [(.long vj0), (.int (f1_0 vj0))])) rfl (by rw [hml]; rfl) (argsL := [(.long vj0)]) (rest := [(.int (f1_0 vj0))]) (lenOf pd2 rfl) rfl (by show 2 * 0 + _ ≤ _; exact Nat.le_of_eq rfl) (hb hby at_233) (fun _ _ => ⟨rfl, e1, (by decide : 1 + 0 ≤ _), (by decide : 19 + 0 ≤ _)⟩)
  dsimp only [Pt.U, Pt.locs, Pt.cells, Pt.slots] at X2 l2 y2 z2 st2 hQ2
  subst l2 y2 z2
  obtain ⟨rfl, N2q, e2⟩ := hQ2
  have N2 := Fr.app N1 N2q
  refine Rch.step (st' := T2.setTop (mkF m 236 #[.val (.long vj0), .second, .val (.int vi2), .val (.int vi3), .val (.int vi4), .val (.ref va5), .val (.int vi6), .val (.long vj7), .second, .val (.long vj9), .second, .val (.long vj11), .second, .val (.int vi13), .val (.long vj14), .second, .val (.int si0), .unset, .unset] [(.int (f2_0 vj0)), (.int (f1_0 vj0))])) (fun _ hr => st2 _ hr) ?_
  by_cases hc3 : (f1_0 vj0) = (f2_0 vj0)
  · rw [if_pos hc3]
    refine Rch.step (st' := T2.setTop (mkF m 239 #[.val (.long vj0), .second, .val (.int vi2), .val (.int vi3), .val (.int vi4), .val (.ref va5), .val (.int vi6), .val (.long vj7), .second, .val (.long vj9), .second, .val (.long vj11), .second, .val (.int vi13), .val (.long vj14), .second, .val (.int si0), .unset, .unset] [])) (fun _ hr => XS.icmpNo X2.here hx rfl (hb hby at_236) rfl (teq hc3).2 hr) ?_
    refine Rch.step (st' := T2.setTop (mkF m 240 #[.val (.long vj0), .second, .val (.int vi2), .val (.int vi3), .val (.int vi4), .val (.ref va5), .val (.int vi6), .val (.long vj7), .second, .val (.long vj9), .second, .val (.long vj11), .second, .val (.int vi13), .val (.long vj14), .second, .val (.int si0), .unset, .unset] [(.int (1 : Int32))])) (fun _ hr => XS.iconst X2.here hx rfl (hb hby at_239) hr) ?_
    refine Rch.step (st' := T2.setTop (mkF m 244 #[.val (.long vj0), .second, .val (.int vi2), .val (.int vi3), .val (.int vi4), .val (.ref va5), .val (.int vi6), .val (.long vj7), .second, .val (.long vj9), .second, .val (.long vj11), .second, .val (.int vi13), .val (.long vj14), .second, .val (.int si0), .unset, .unset] [(.int (1 : Int32))])) (fun _ hr => XS.goto X2.here hx rfl (pc0 := 240) (pc' := 244) rfl (hb hby at_240) (by decide) (by decide) hr) ?_
    exact b0_244 ⟨X2, hx, hZ, hw, hby, hml, hown, hret, hlk, e2, Z0, N2⟩ vj0 vi2 vi3 vi4 va5 vi6 vj7 vj9 vj11 vi13 vj14 si0 (1 : Int32) n0v w0 Hf0 lw0
  · rw [if_neg hc3]
    refine Rch.step (st' := T2.setTop (mkF m 243 #[.val (.long vj0), .second, .val (.int vi2), .val (.int vi3), .val (.int vi4), .val (.ref va5), .val (.int vi6), .val (.long vj7), .second, .val (.long vj9), .second, .val (.long vj11), .second, .val (.int vi13), .val (.long vj14), .second, .val (.int si0), .unset, .unset] [])) (fun _ hr => XS.icmpYes X2.here hx rfl (pc0 := 236) (pc' := 243) rfl (hb hby at_236) rfl (feq hc3).2 (by decide) (by decide) hr) ?_
    refine Rch.step (st' := T2.setTop (mkF m 244 #[.val (.long vj0), .second, .val (.int vi2), .val (.int vi3), .val (.int vi4), .val (.ref va5), .val (.int vi6), .val (.long vj7), .second, .val (.long vj9), .second, .val (.long vj11), .second, .val (.int vi13), .val (.long vj14), .second, .val (.int si0), .unset, .unset] [(.int (0 : Int32))])) (fun _ hr => XS.iconst X2.here hx rfl (hb hby at_243) hr) ?_
    exact b0_244 ⟨X2, hx, hZ, hw, hby, hml, hown, hret, hlk, e2, Z0, N2⟩ vj0 vi2 vi3 vi4 va5 vi6 vj7 vj9 vj11 vi13 vj14 si0 (0 : Int32) n0v w0 Hf0 lw0
set_option maxRecDepth 65536 in
set_option maxHeartbeats 40000000 in
theorem b0_206 {p : Program} {l : Launch} {e : Env} {s : State} {m : MethodId} {args : Array Value} {below : List Frame} {meth : Method} {c : Code} {T : State} {locs : List Loc} {Z : State} {a0 : Array Value} {h0 : Heap} {n0 : Nat} (cx : Cx room_1 code 19 "org/lodestream/io/LineWriterDecimalLengthPinLaw" (some .boolean) p l e s m args below meth c T locs 1 19 Z a0 h0 n0) (vj0 : Int64) (vi2 : Int32) (vi3 : Int32) (vi4 : Int32) (va5 : Addr) (vi6 : Int32) (vj7 : Int64) (vj9 : Int64) (vj11 : Int64) (vi13 : Int32) (sj0 : Int64) (n0v : Int32) (w0 : List Int64) (Hf0 : ArJ Z h0 va5 n0v w0) (lw0 : n0 ≤ va5) :
    Rch p e below s 16 128 (T.setTop (mkF m 206 #[.val (.long vj0), .second, .val (.int vi2), .val (.int vi3), .val (.int vi4), .val (.ref va5), .val (.int vi6), .val (.long vj7), .second, .val (.long vj9), .second, .val (.long vj11), .second, .val (.int vi13), .unset, .unset, .unset, .unset, .unset] [(.long sj0)])) (PL (f0_206 vj0 sj0 n0v w0) n0) := by
  obtain ⟨X0, hx, hZ, hw, hby, hml, hown, hret, hlk, e0, Z0, N0⟩ := cx
  unfold f0_206
  refine Rch.step (st' := T.setTop (mkF m 208 #[.val (.long vj0), .second, .val (.int vi2), .val (.int vi3), .val (.int vi4), .val (.ref va5), .val (.int vi6), .val (.long vj7), .second, .val (.long vj9), .second, .val (.long vj11), .second, .val (.int vi13), .val (.long sj0), .second, .unset, .unset, .unset] [])) (fun _ hr => XS.lstore X0.here hx rfl (hb hby at_206) rfl (l' := #[.val (.long vj0), .second, .val (.int vi2), .val (.int vi3), .val (.int vi4), .val (.ref va5), .val (.int vi6), .val (.long vj7), .second, .val (.long vj9), .second, .val (.long vj11), .second, .val (.int vi13), .val (.long sj0), .second, .unset, .unset, .unset]) rfl hr) ?_
  refine Rch.step (st' := T.setTop (mkF m 210 #[.val (.long vj0), .second, .val (.int vi2), .val (.int vi3), .val (.int vi4), .val (.ref va5), .val (.int vi6), .val (.long vj7), .second, .val (.long vj9), .second, .val (.long vj11), .second, .val (.int vi13), .val (.long sj0), .second, .unset, .unset, .unset] [(.long sj0)])) (fun _ hr => XS.lload X0.here hx rfl (hb hby at_208) rfl hr) ?_
  obtain ⟨_, _, ⟨T1, L1, k1, n1⟩, -, X1, ⟨Lc1, hQ1, l1, y1, z1⟩, st1⟩ := Jvm.LawKit.callS X0 hx (y := (⟨"org/lodestream/io/LineWriter", "decimalLength", "(J)I"⟩ : MethodName)) hown (mvT hZ (hw _ (List.mem_of_getElem? (i := 21) rfl))) (mvT hZ (hw _ (List.mem_of_getElem? (i := 22) rfl))) (mvT hZ (hw _ (List.mem_of_getElem? (i := 23) rfl))) (mvT hZ (hw _ (List.mem_of_getElem? (i := 24) rfl))) (by decide) (backOf (W := 0) (rm1 l Z a0 hw [] sj0 h0 n0 Z0) hZ (hw _ (List.mem_of_getElem? (i := 24) rfl)) (hw _ (List.mem_of_getElem? (i := 23) rfl)) (by decide) (by decide)) (g := (mkF m 210 #[.val (.long vj0), .second, .val (.int vi2), .val (.int vi3), .val (.int vi4), .val (.ref va5), .val (.int vi6), .val (.long vj7), .second, .val (.long vj9), .second, .val (.long vj11), .second, .val (.int vi13), .val (.long sj0), .second, .unset, .unset, .unset] [(.long sj0)])) rfl (by rw [hml]; rfl) (argsL := [(.long sj0)]) (rest := []) (lenOf pd1 rfl) rfl (by show 2 * 0 + _ ≤ _; exact Nat.le_of_eq rfl) (hb hby at_210) (fun _ _ => ⟨rfl, e0, (by decide : 1 + 0 ≤ _), (by decide : 19 + 0 ≤ _)⟩)
  dsimp only [Pt.U, Pt.locs, Pt.cells, Pt.slots] at X1 l1 y1 z1 st1 hQ1
  subst l1 y1 z1
  obtain ⟨rfl, N1q, e1⟩ := hQ1
  have N1 := Fr.app N0 N1q
  refine Rch.step (st' := T1.setTop (mkF m 213 #[.val (.long vj0), .second, .val (.int vi2), .val (.int vi3), .val (.int vi4), .val (.ref va5), .val (.int vi6), .val (.long vj7), .second, .val (.long vj9), .second, .val (.long vj11), .second, .val (.int vi13), .val (.long sj0), .second, .unset, .unset, .unset] [(.int (f1_0 sj0))])) (fun _ hr => st1 _ hr) ?_
  refine Rch.step (st' := T1.setTop (mkF m 215 #[.val (.long vj0), .second, .val (.int vi2), .val (.int vi3), .val (.int vi4), .val (.ref va5), .val (.int vi6), .val (.long vj7), .second, .val (.long vj9), .second, .val (.long vj11), .second, .val (.int vi13), .val (.long sj0), .second, .unset, .unset, .unset] [(.long sj0), (.int (f1_0 sj0))])) (fun _ hr => XS.lload X1.here hx rfl (hb hby at_213) rfl hr) ?_
  obtain ⟨_, _, ⟨T2, L2, k2, n2⟩, -, X2, ⟨Lc2, hQ2, l2, y2, z2⟩, st2⟩ := Jvm.LawKit.callS X1 hx (y := (⟨"org/lodestream/io/LineWriterDecimalLengthPinLaw", "ref", "(J)I"⟩ : MethodName)) hown (mvT hZ (hw _ (List.mem_of_getElem? (i := 27) rfl))) (mvT hZ (hw _ (List.mem_of_getElem? (i := 28) rfl))) (mvT hZ (hw _ (List.mem_of_getElem? (i := 29) rfl))) (mvT hZ (hw _ (List.mem_of_getElem? (i := 30) rfl))) (by decide) (backOf (W := 1) (rm2 l Z a0 hw [] sj0 h0 n0 Z0) hZ (hw _ (List.mem_of_getElem? (i := 30) rfl)) (hw _ (List.mem_of_getElem? (i := 29) rfl)) (by decide) (by decide)) (g := (mkF m 215 #[.val (.long vj0), .second, .val (.int vi2), .val (.int vi3), .val (.int vi4), .val (.ref va5), .val (.int vi6), .val (.long vj7), .second, .val (.long vj9), .second, .val (.long vj11), .second, .val (.int vi13), .val (.long sj0), .second, .unset, .unset, .unset] [(.long sj0), (.int (f1_0 sj0))])) rfl (by rw [hml]; rfl) (argsL := [(.long sj0)]) (rest := [(.int (f1_0 sj0))]) (lenOf pd2 rfl) rfl (by show 2 * 0 + _ ≤ _; exact Nat.le_of_eq rfl) (hb hby at_215) (fun _ _ => ⟨rfl, e1, (by decide : 1 + 0 ≤ _), (by decide : 19 + 0 ≤ _)⟩)
  dsimp only [Pt.U, Pt.locs, Pt.cells, Pt.slots] at X2 l2 y2 z2 st2 hQ2
  subst l2 y2 z2
  obtain ⟨rfl, N2q, e2⟩ := hQ2
  have N2 := Fr.app N1 N2q
  refine Rch.step (st' := T2.setTop (mkF m 218 #[.val (.long vj0), .second, .val (.int vi2), .val (.int vi3), .val (.int vi4), .val (.ref va5), .val (.int vi6), .val (.long vj7), .second, .val (.long vj9), .second, .val (.long vj11), .second, .val (.int vi13), .val (.long sj0), .second, .unset, .unset, .unset] [(.int (f2_0 sj0)), (.int (f1_0 sj0))])) (fun _ hr => st2 _ hr) ?_
  by_cases hc3 : (f1_0 sj0) = (f2_0 sj0)
  · rw [if_pos hc3]
    refine Rch.step (st' := T2.setTop (mkF m 221 #[.val (.long vj0), .second, .val (.int vi2), .val (.int vi3), .val (.int vi4), .val (.ref va5), .val (.int vi6), .val (.long vj7), .second, .val (.long vj9), .second, .val (.long vj11), .second, .val (.int vi13), .val (.long sj0), .second, .unset, .unset, .unset] [])) (fun _ hr => XS.icmpNo X2.here hx rfl (hb hby at_218) rfl (teq hc3).2 hr) ?_
    refine Rch.step (st' := T2.setTop (mkF m 222 #[.val (.long vj0), .second, .val (.int vi2), .val (.int vi3), .val (.int vi4), .val (.ref va5), .val (.int vi6), .val (.long vj7), .second, .val (.long vj9), .second, .val (.long vj11), .second, .val (.int vi13), .val (.long sj0), .second, .unset, .unset, .unset] [(.int (1 : Int32))])) (fun _ hr => XS.iconst X2.here hx rfl (hb hby at_221) hr) ?_
    refine Rch.step (st' := T2.setTop (mkF m 226 #[.val (.long vj0), .second, .val (.int vi2), .val (.int vi3), .val (.int vi4), .val (.ref va5), .val (.int vi6), .val (.long vj7), .second, .val (.long vj9), .second, .val (.long vj11), .second, .val (.int vi13), .val (.long sj0), .second, .unset, .unset, .unset] [(.int (1 : Int32))])) (fun _ hr => XS.goto X2.here hx rfl (pc0 := 222) (pc' := 226) rfl (hb hby at_222) (by decide) (by decide) hr) ?_
    exact b0_226 ⟨X2, hx, hZ, hw, hby, hml, hown, hret, hlk, e2, Z0, N2⟩ vj0 vi2 vi3 vi4 va5 vi6 vj7 vj9 vj11 vi13 sj0 (1 : Int32) n0v w0 Hf0 lw0
  · rw [if_neg hc3]
    refine Rch.step (st' := T2.setTop (mkF m 225 #[.val (.long vj0), .second, .val (.int vi2), .val (.int vi3), .val (.int vi4), .val (.ref va5), .val (.int vi6), .val (.long vj7), .second, .val (.long vj9), .second, .val (.long vj11), .second, .val (.int vi13), .val (.long sj0), .second, .unset, .unset, .unset] [])) (fun _ hr => XS.icmpYes X2.here hx rfl (pc0 := 218) (pc' := 225) rfl (hb hby at_218) rfl (feq hc3).2 (by decide) (by decide) hr) ?_
    refine Rch.step (st' := T2.setTop (mkF m 226 #[.val (.long vj0), .second, .val (.int vi2), .val (.int vi3), .val (.int vi4), .val (.ref va5), .val (.int vi6), .val (.long vj7), .second, .val (.long vj9), .second, .val (.long vj11), .second, .val (.int vi13), .val (.long sj0), .second, .unset, .unset, .unset] [(.int (0 : Int32))])) (fun _ hr => XS.iconst X2.here hx rfl (hb hby at_225) hr) ?_
    exact b0_226 ⟨X2, hx, hZ, hw, hby, hml, hown, hret, hlk, e2, Z0, N2⟩ vj0 vi2 vi3 vi4 va5 vi6 vj7 vj9 vj11 vi13 sj0 (0 : Int32) n0v w0 Hf0 lw0
set_option maxRecDepth 65536 in
set_option maxHeartbeats 40000000 in
theorem b0_191 {p : Program} {l : Launch} {e : Env} {s : State} {m : MethodId} {args : Array Value} {below : List Frame} {meth : Method} {c : Code} {T : State} {locs : List Loc} {Z : State} {a0 : Array Value} {h0 : Heap} {n0 : Nat} (cx : Cx room_1 code 19 "org/lodestream/io/LineWriterDecimalLengthPinLaw" (some .boolean) p l e s m args below meth c T locs 1 19 Z a0 h0 n0) (vj0 : Int64) (vi2 : Int32) (vi3 : Int32) (vi4 : Int32) (va5 : Addr) (vi6 : Int32) (vj7 : Int64) (vj9 : Int64) (vj11 : Int64) (si0 : Int32) (n0v : Int32) (w0 : List Int64) (Hf0 : ArJ Z h0 va5 n0v w0) (lw0 : n0 ≤ va5) :
    Rch p e below s 16 128 (T.setTop (mkF m 191 #[.val (.long vj0), .second, .val (.int vi2), .val (.int vi3), .val (.int vi4), .val (.ref va5), .val (.int vi6), .val (.long vj7), .second, .val (.long vj9), .second, .val (.long vj11), .second, .unset, .unset, .unset, .unset, .unset, .unset] [(.int si0)])) (PL (f0_191 vj0 vj11 si0 n0v w0) n0) := by
  obtain ⟨X0, hx, hZ, hw, hby, hml, hown, hret, hlk, e0, Z0, N0⟩ := cx
  unfold f0_191
  refine Rch.step (st' := T.setTop (mkF m 193 #[.val (.long vj0), .second, .val (.int vi2), .val (.int vi3), .val (.int vi4), .val (.ref va5), .val (.int vi6), .val (.long vj7), .second, .val (.long vj9), .second, .val (.long vj11), .second, .val (.int si0), .unset, .unset, .unset, .unset, .unset] [])) (fun _ hr => XS.istore X0.here hx rfl (hb hby at_191) rfl (l' := #[.val (.long vj0), .second, .val (.int vi2), .val (.int vi3), .val (.int vi4), .val (.ref va5), .val (.int vi6), .val (.long vj7), .second, .val (.long vj9), .second, .val (.long vj11), .second, .val (.int si0), .unset, .unset, .unset, .unset, .unset]) rfl hr) ?_
  refine Rch.step (st' := T.setTop (mkF m 195 #[.val (.long vj0), .second, .val (.int vi2), .val (.int vi3), .val (.int vi4), .val (.ref va5), .val (.int vi6), .val (.long vj7), .second, .val (.long vj9), .second, .val (.long vj11), .second, .val (.int si0), .unset, .unset, .unset, .unset, .unset] [(.int si0)])) (fun _ hr => XS.iload X0.here hx rfl (hb hby at_193) rfl hr) ?_
  by_cases hc1 : si0 = (0 : Int32)
  · rw [if_pos hc1]
    refine Rch.step (st' := T.setTop (mkF m 204 #[.val (.long vj0), .second, .val (.int vi2), .val (.int vi3), .val (.int vi4), .val (.ref va5), .val (.int vi6), .val (.long vj7), .second, .val (.long vj9), .second, .val (.long vj11), .second, .val (.int si0), .unset, .unset, .unset, .unset, .unset] [])) (fun _ hr => XS.ifYes X0.here hx rfl (pc0 := 195) (pc' := 204) rfl (hb hby at_195) rfl ((if0 _ _).trans (teq hc1).1) (by decide) (by decide) hr) ?_
    refine Rch.step (st' := T.setTop (mkF m 206 #[.val (.long vj0), .second, .val (.int vi2), .val (.int vi3), .val (.int vi4), .val (.ref va5), .val (.int vi6), .val (.long vj7), .second, .val (.long vj9), .second, .val (.long vj11), .second, .val (.int si0), .unset, .unset, .unset, .unset, .unset] [(.long vj11)])) (fun _ hr => XS.lload X0.here hx rfl (hb hby at_204) rfl hr) ?_
    exact b0_206 ⟨X0, hx, hZ, hw, hby, hml, hown, hret, hlk, e0, Z0, N0⟩ vj0 vi2 vi3 vi4 va5 vi6 vj7 vj9 vj11 si0 vj11 n0v w0 Hf0 lw0
  · rw [if_neg hc1]
    refine Rch.step (st' := T.setTop (mkF m 198 #[.val (.long vj0), .second, .val (.int vi2), .val (.int vi3), .val (.int vi4), .val (.ref va5), .val (.int vi6), .val (.long vj7), .second, .val (.long vj9), .second, .val (.long vj11), .second, .val (.int si0), .unset, .unset, .unset, .unset, .unset] [])) (fun _ hr => XS.ifNo X0.here hx rfl (hb hby at_195) rfl ((if0 _ _).trans (feq hc1).1) hr) ?_
    refine Rch.step (st' := T.setTop (mkF m 200 #[.val (.long vj0), .second, .val (.int vi2), .val (.int vi3), .val (.int vi4), .val (.ref va5), .val (.int vi6), .val (.long vj7), .second, .val (.long vj9), .second, .val (.long vj11), .second, .val (.int si0), .unset, .unset, .unset, .unset, .unset] [(.long vj11)])) (fun _ hr => XS.lload X0.here hx rfl (hb hby at_198) rfl hr) ?_
    refine Rch.step (st' := T.setTop (mkF m 201 #[.val (.long vj0), .second, .val (.int vi2), .val (.int vi3), .val (.int vi4), .val (.ref va5), .val (.int vi6), .val (.long vj7), .second, .val (.long vj9), .second, .val (.long vj11), .second, .val (.int si0), .unset, .unset, .unset, .unset, .unset] [(.long (-vj11))])) (fun _ hr => XS.lneg X0.here hx rfl (hb hby at_200) rfl hr) ?_
    refine Rch.step (st' := T.setTop (mkF m 206 #[.val (.long vj0), .second, .val (.int vi2), .val (.int vi3), .val (.int vi4), .val (.ref va5), .val (.int vi6), .val (.long vj7), .second, .val (.long vj9), .second, .val (.long vj11), .second, .val (.int si0), .unset, .unset, .unset, .unset, .unset] [(.long (-vj11))])) (fun _ hr => XS.goto X0.here hx rfl (pc0 := 201) (pc' := 206) rfl (hb hby at_201) (by decide) (by decide) hr) ?_
    exact b0_206 ⟨X0, hx, hZ, hw, hby, hml, hown, hret, hlk, e0, Z0, N0⟩ vj0 vi2 vi3 vi4 va5 vi6 vj7 vj9 vj11 si0 (-vj11) n0v w0 Hf0 lw0
set_option maxRecDepth 65536 in
set_option maxHeartbeats 40000000 in
theorem b0_0 {p : Program} {l : Launch} {e : Env} {s : State} {m : MethodId} {args : Array Value} {below : List Frame} {meth : Method} {c : Code} {T : State} {locs : List Loc} {Z : State} {a0 : Array Value} {h0 : Heap} {n0 : Nat} (cx : Cx room_1 code 19 "org/lodestream/io/LineWriterDecimalLengthPinLaw" (some .boolean) p l e s m args below meth c T locs 0 0 Z a0 h0 n0) (vj0 : Int64) (vi2 : Int32) (vi3 : Int32) (vi4 : Int32) :
    Rch p e below s 16 128 (T.setTop (mkF m 0 #[.val (.long vj0), .second, .val (.int vi2), .val (.int vi3), .val (.int vi4), .unset, .unset, .unset, .unset, .unset, .unset, .unset, .unset, .unset, .unset, .unset, .unset, .unset, .unset] [])) (PL (f0_0 vj0 vi2 vi3 vi4) n0) := by
  obtain ⟨X0, hx, hZ, hw, hby, hml, hown, hret, hlk, e0, Z0, N0⟩ := cx
  unfold f0_0
  refine Rch.step (st' := T.setTop (mkF m 2 #[.val (.long vj0), .second, .val (.int vi2), .val (.int vi3), .val (.int vi4), .unset, .unset, .unset, .unset, .unset, .unset, .unset, .unset, .unset, .unset, .unset, .unset, .unset, .unset] [(.int (19 : Int32))])) (fun _ hr => XS.bipush X0.here hx rfl (hb hby at_0) hr) ?_
  obtain ⟨T1, h1, k1, X1, e1, E1, A1, st1⟩ := newP X0 hx hZ (hw _ (List.mem_of_getElem? (i := 0) rfl)) e0 (g := (mkF m 2 #[.val (.long vj0), .second, .val (.int vi2), .val (.int vi3), .val (.int vi4), .unset, .unset, .unset, .unset, .unset, .unset, .unset, .unset, .unset, .unset, .unset, .unset, .unset, .unset] [(.int (19 : Int32))])) rfl (hb hby at_2) rfl (by decide) (cap := 19) (by decide) (by decide) (by decide) (by decide)
  obtain ⟨b1, g1⟩ : ∃ z, z = h0.size := ⟨_, rfl⟩
  rw [← g1] at A1 st1
  have low_b1 : n0 ≤ b1 := Nat.le_trans Z0 (Nat.le_of_eq g1.symm)
  have Z1 : n0 ≤ h1.size := Nat.le_trans Z0 E1.1
  have V_b1 : ArJ Z h1 b1 (19 : Int32) [(0 : Int64), (0 : Int64), (0 : Int64), (0 : Int64), (0 : Int64), (0 : Int64), (0 : Int64), (0 : Int64), (0 : Int64), (0 : Int64), (0 : Int64), (0 : Int64), (0 : Int64), (0 : Int64), (0 : Int64), (0 : Int64), (0 : Int64), (0 : Int64), (0 : Int64)] := Ars.fresh rfl A1 (by decide)
  refine Rch.step (st' := T1.setTop (mkF m 4 #[.val (.long vj0), .second, .val (.int vi2), .val (.int vi3), .val (.int vi4), .unset, .unset, .unset, .unset, .unset, .unset, .unset, .unset, .unset, .unset, .unset, .unset, .unset, .unset] [(.ref b1)])) (fun _ hr => st1 _ hr) ?_
  refine Rch.step (st' := T1.setTop (mkF m 5 #[.val (.long vj0), .second, .val (.int vi2), .val (.int vi3), .val (.int vi4), .unset, .unset, .unset, .unset, .unset, .unset, .unset, .unset, .unset, .unset, .unset, .unset, .unset, .unset] [(.ref b1), (.ref b1)])) (fun _ hr => XS.dup X1.here hx rfl (hb hby at_4) rfl rfl hr) ?_
  refine Rch.step (st' := T1.setTop (mkF m 6 #[.val (.long vj0), .second, .val (.int vi2), .val (.int vi3), .val (.int vi4), .unset, .unset, .unset, .unset, .unset, .unset, .unset, .unset, .unset, .unset, .unset, .unset, .unset, .unset] [(.int (0 : Int32)), (.ref b1), (.ref b1)])) (fun _ hr => XS.iconst X1.here hx rfl (hb hby at_5) hr) ?_
  refine Rch.step (st' := T1.setTop (mkF m 7 #[.val (.long vj0), .second, .val (.int vi2), .val (.int vi3), .val (.int vi4), .unset, .unset, .unset, .unset, .unset, .unset, .unset, .unset, .unset, .unset, .unset, .unset, .unset, .unset] [(.long (1 : Int64)), (.int (0 : Int32)), (.ref b1), (.ref b1)])) (fun _ hr => XS.lconst X1.here hx rfl (hb hby at_6) hr) ?_
  obtain ⟨T2, h2, X2, e2, W2, Vq2, st2⟩ := putJ X1 hx hZ e1 V_b1 (j := (0 : Int32)) (by decide) (by decide) (g := (mkF m 7 #[.val (.long vj0), .second, .val (.int vi2), .val (.int vi3), .val (.int vi4), .unset, .unset, .unset, .unset, .unset, .unset, .unset, .unset, .unset, .unset, .unset, .unset, .unset, .unset] [(.long (1 : Int64)), (.int (0 : Int32)), (.ref b1), (.ref b1)])) rfl rfl (hb hby at_7)
  have V_b1_2 : ArJ Z h2 b1 (19 : Int32) [(1 : Int64), (0 : Int64), (0 : Int64), (0 : Int64), (0 : Int64), (0 : Int64), (0 : Int64), (0 : Int64), (0 : Int64), (0 : Int64), (0 : Int64), (0 : Int64), (0 : Int64), (0 : Int64), (0 : Int64), (0 : Int64), (0 : Int64), (0 : Int64), (0 : Int64)] := Vq2
  have N2 := Fr.snoc X2 N0 low_b1
  have Z2 : n0 ≤ h2.size := by rw [W2.size]; exact Z1
  refine Rch.step (st' := T2.setTop (mkF m 8 #[.val (.long vj0), .second, .val (.int vi2), .val (.int vi3), .val (.int vi4), .unset, .unset, .unset, .unset, .unset, .unset, .unset, .unset, .unset, .unset, .unset, .unset, .unset, .unset] [(.ref b1)])) (fun _ hr => st2 _ hr) ?_
  refine Rch.step (st' := T2.setTop (mkF m 9 #[.val (.long vj0), .second, .val (.int vi2), .val (.int vi3), .val (.int vi4), .unset, .unset, .unset, .unset, .unset, .unset, .unset, .unset, .unset, .unset, .unset, .unset, .unset, .unset] [(.ref b1), (.ref b1)])) (fun _ hr => XS.dup X2.here hx rfl (hb hby at_8) rfl rfl hr) ?_
  refine Rch.step (st' := T2.setTop (mkF m 10 #[.val (.long vj0), .second, .val (.int vi2), .val (.int vi3), .val (.int vi4), .unset, .unset, .unset, .unset, .unset, .unset, .unset, .unset, .unset, .unset, .unset, .unset, .unset, .unset] [(.int (1 : Int32)), (.ref b1), (.ref b1)])) (fun _ hr => XS.iconst X2.here hx rfl (hb hby at_9) hr) ?_
  refine Rch.step (st' := T2.setTop (mkF m 13 #[.val (.long vj0), .second, .val (.int vi2), .val (.int vi3), .val (.int vi4), .unset, .unset, .unset, .unset, .unset, .unset, .unset, .unset, .unset, .unset, .unset, .unset, .unset, .unset] [(.long (10 : Int64)), (.int (1 : Int32)), (.ref b1), (.ref b1)])) (fun _ hr => X2.ldc2Long hx hown (mvT hZ (hw _ (List.mem_of_getElem? (i := 1) rfl))) (g := (mkF m 10 #[.val (.long vj0), .second, .val (.int vi2), .val (.int vi3), .val (.int vi4), .unset, .unset, .unset, .unset, .unset, .unset, .unset, .unset, .unset, .unset, .unset, .unset, .unset, .unset] [(.int (1 : Int32)), (.ref b1), (.ref b1)])) rfl (hb hby at_10) _ hr) ?_
  obtain ⟨T3, h3, X3, e3, W3, Vq3, st3⟩ := putJ X2 hx hZ e2 V_b1_2 (j := (1 : Int32)) (by decide) (by decide) (g := (mkF m 13 #[.val (.long vj0), .second, .val (.int vi2), .val (.int vi3), .val (.int vi4), .unset, .unset, .unset, .unset, .unset, .unset, .unset, .unset, .unset, .unset, .unset, .unset, .unset, .unset] [(.long (10 : Int64)), (.int (1 : Int32)), (.ref b1), (.ref b1)])) rfl rfl (hb hby at_13)
  have V_b1_3 : ArJ Z h3 b1 (19 : Int32) [(1 : Int64), (10 : Int64), (0 : Int64), (0 : Int64), (0 : Int64), (0 : Int64), (0 : Int64), (0 : Int64), (0 : Int64), (0 : Int64), (0 : Int64), (0 : Int64), (0 : Int64), (0 : Int64), (0 : Int64), (0 : Int64), (0 : Int64), (0 : Int64), (0 : Int64)] := Vq3
  have N3 := Fr.snoc X3 N2 low_b1
  have Z3 : n0 ≤ h3.size := by rw [W3.size]; exact Z2
  refine Rch.step (st' := T3.setTop (mkF m 14 #[.val (.long vj0), .second, .val (.int vi2), .val (.int vi3), .val (.int vi4), .unset, .unset, .unset, .unset, .unset, .unset, .unset, .unset, .unset, .unset, .unset, .unset, .unset, .unset] [(.ref b1)])) (fun _ hr => st3 _ hr) ?_
  refine Rch.step (st' := T3.setTop (mkF m 15 #[.val (.long vj0), .second, .val (.int vi2), .val (.int vi3), .val (.int vi4), .unset, .unset, .unset, .unset, .unset, .unset, .unset, .unset, .unset, .unset, .unset, .unset, .unset, .unset] [(.ref b1), (.ref b1)])) (fun _ hr => XS.dup X3.here hx rfl (hb hby at_14) rfl rfl hr) ?_
  refine Rch.step (st' := T3.setTop (mkF m 16 #[.val (.long vj0), .second, .val (.int vi2), .val (.int vi3), .val (.int vi4), .unset, .unset, .unset, .unset, .unset, .unset, .unset, .unset, .unset, .unset, .unset, .unset, .unset, .unset] [(.int (2 : Int32)), (.ref b1), (.ref b1)])) (fun _ hr => XS.iconst X3.here hx rfl (hb hby at_15) hr) ?_
  refine Rch.step (st' := T3.setTop (mkF m 19 #[.val (.long vj0), .second, .val (.int vi2), .val (.int vi3), .val (.int vi4), .unset, .unset, .unset, .unset, .unset, .unset, .unset, .unset, .unset, .unset, .unset, .unset, .unset, .unset] [(.long (100 : Int64)), (.int (2 : Int32)), (.ref b1), (.ref b1)])) (fun _ hr => X3.ldc2Long hx hown (mvT hZ (hw _ (List.mem_of_getElem? (i := 2) rfl))) (g := (mkF m 16 #[.val (.long vj0), .second, .val (.int vi2), .val (.int vi3), .val (.int vi4), .unset, .unset, .unset, .unset, .unset, .unset, .unset, .unset, .unset, .unset, .unset, .unset, .unset, .unset] [(.int (2 : Int32)), (.ref b1), (.ref b1)])) rfl (hb hby at_16) _ hr) ?_
  obtain ⟨T4, h4, X4, e4, W4, Vq4, st4⟩ := putJ X3 hx hZ e3 V_b1_3 (j := (2 : Int32)) (by decide) (by decide) (g := (mkF m 19 #[.val (.long vj0), .second, .val (.int vi2), .val (.int vi3), .val (.int vi4), .unset, .unset, .unset, .unset, .unset, .unset, .unset, .unset, .unset, .unset, .unset, .unset, .unset, .unset] [(.long (100 : Int64)), (.int (2 : Int32)), (.ref b1), (.ref b1)])) rfl rfl (hb hby at_19)
  have V_b1_4 : ArJ Z h4 b1 (19 : Int32) [(1 : Int64), (10 : Int64), (100 : Int64), (0 : Int64), (0 : Int64), (0 : Int64), (0 : Int64), (0 : Int64), (0 : Int64), (0 : Int64), (0 : Int64), (0 : Int64), (0 : Int64), (0 : Int64), (0 : Int64), (0 : Int64), (0 : Int64), (0 : Int64), (0 : Int64)] := Vq4
  have N4 := Fr.snoc X4 N3 low_b1
  have Z4 : n0 ≤ h4.size := by rw [W4.size]; exact Z3
  refine Rch.step (st' := T4.setTop (mkF m 20 #[.val (.long vj0), .second, .val (.int vi2), .val (.int vi3), .val (.int vi4), .unset, .unset, .unset, .unset, .unset, .unset, .unset, .unset, .unset, .unset, .unset, .unset, .unset, .unset] [(.ref b1)])) (fun _ hr => st4 _ hr) ?_
  refine Rch.step (st' := T4.setTop (mkF m 21 #[.val (.long vj0), .second, .val (.int vi2), .val (.int vi3), .val (.int vi4), .unset, .unset, .unset, .unset, .unset, .unset, .unset, .unset, .unset, .unset, .unset, .unset, .unset, .unset] [(.ref b1), (.ref b1)])) (fun _ hr => XS.dup X4.here hx rfl (hb hby at_20) rfl rfl hr) ?_
  refine Rch.step (st' := T4.setTop (mkF m 22 #[.val (.long vj0), .second, .val (.int vi2), .val (.int vi3), .val (.int vi4), .unset, .unset, .unset, .unset, .unset, .unset, .unset, .unset, .unset, .unset, .unset, .unset, .unset, .unset] [(.int (3 : Int32)), (.ref b1), (.ref b1)])) (fun _ hr => XS.iconst X4.here hx rfl (hb hby at_21) hr) ?_
  refine Rch.step (st' := T4.setTop (mkF m 25 #[.val (.long vj0), .second, .val (.int vi2), .val (.int vi3), .val (.int vi4), .unset, .unset, .unset, .unset, .unset, .unset, .unset, .unset, .unset, .unset, .unset, .unset, .unset, .unset] [(.long (1000 : Int64)), (.int (3 : Int32)), (.ref b1), (.ref b1)])) (fun _ hr => X4.ldc2Long hx hown (mvT hZ (hw _ (List.mem_of_getElem? (i := 3) rfl))) (g := (mkF m 22 #[.val (.long vj0), .second, .val (.int vi2), .val (.int vi3), .val (.int vi4), .unset, .unset, .unset, .unset, .unset, .unset, .unset, .unset, .unset, .unset, .unset, .unset, .unset, .unset] [(.int (3 : Int32)), (.ref b1), (.ref b1)])) rfl (hb hby at_22) _ hr) ?_
  obtain ⟨T5, h5, X5, e5, W5, Vq5, st5⟩ := putJ X4 hx hZ e4 V_b1_4 (j := (3 : Int32)) (by decide) (by decide) (g := (mkF m 25 #[.val (.long vj0), .second, .val (.int vi2), .val (.int vi3), .val (.int vi4), .unset, .unset, .unset, .unset, .unset, .unset, .unset, .unset, .unset, .unset, .unset, .unset, .unset, .unset] [(.long (1000 : Int64)), (.int (3 : Int32)), (.ref b1), (.ref b1)])) rfl rfl (hb hby at_25)
  have V_b1_5 : ArJ Z h5 b1 (19 : Int32) [(1 : Int64), (10 : Int64), (100 : Int64), (1000 : Int64), (0 : Int64), (0 : Int64), (0 : Int64), (0 : Int64), (0 : Int64), (0 : Int64), (0 : Int64), (0 : Int64), (0 : Int64), (0 : Int64), (0 : Int64), (0 : Int64), (0 : Int64), (0 : Int64), (0 : Int64)] := Vq5
  have N5 := Fr.snoc X5 N4 low_b1
  have Z5 : n0 ≤ h5.size := by rw [W5.size]; exact Z4
  refine Rch.step (st' := T5.setTop (mkF m 26 #[.val (.long vj0), .second, .val (.int vi2), .val (.int vi3), .val (.int vi4), .unset, .unset, .unset, .unset, .unset, .unset, .unset, .unset, .unset, .unset, .unset, .unset, .unset, .unset] [(.ref b1)])) (fun _ hr => st5 _ hr) ?_
  refine Rch.step (st' := T5.setTop (mkF m 27 #[.val (.long vj0), .second, .val (.int vi2), .val (.int vi3), .val (.int vi4), .unset, .unset, .unset, .unset, .unset, .unset, .unset, .unset, .unset, .unset, .unset, .unset, .unset, .unset] [(.ref b1), (.ref b1)])) (fun _ hr => XS.dup X5.here hx rfl (hb hby at_26) rfl rfl hr) ?_
  refine Rch.step (st' := T5.setTop (mkF m 28 #[.val (.long vj0), .second, .val (.int vi2), .val (.int vi3), .val (.int vi4), .unset, .unset, .unset, .unset, .unset, .unset, .unset, .unset, .unset, .unset, .unset, .unset, .unset, .unset] [(.int (4 : Int32)), (.ref b1), (.ref b1)])) (fun _ hr => XS.iconst X5.here hx rfl (hb hby at_27) hr) ?_
  refine Rch.step (st' := T5.setTop (mkF m 31 #[.val (.long vj0), .second, .val (.int vi2), .val (.int vi3), .val (.int vi4), .unset, .unset, .unset, .unset, .unset, .unset, .unset, .unset, .unset, .unset, .unset, .unset, .unset, .unset] [(.long (10000 : Int64)), (.int (4 : Int32)), (.ref b1), (.ref b1)])) (fun _ hr => X5.ldc2Long hx hown (mvT hZ (hw _ (List.mem_of_getElem? (i := 4) rfl))) (g := (mkF m 28 #[.val (.long vj0), .second, .val (.int vi2), .val (.int vi3), .val (.int vi4), .unset, .unset, .unset, .unset, .unset, .unset, .unset, .unset, .unset, .unset, .unset, .unset, .unset, .unset] [(.int (4 : Int32)), (.ref b1), (.ref b1)])) rfl (hb hby at_28) _ hr) ?_
  obtain ⟨T6, h6, X6, e6, W6, Vq6, st6⟩ := putJ X5 hx hZ e5 V_b1_5 (j := (4 : Int32)) (by decide) (by decide) (g := (mkF m 31 #[.val (.long vj0), .second, .val (.int vi2), .val (.int vi3), .val (.int vi4), .unset, .unset, .unset, .unset, .unset, .unset, .unset, .unset, .unset, .unset, .unset, .unset, .unset, .unset] [(.long (10000 : Int64)), (.int (4 : Int32)), (.ref b1), (.ref b1)])) rfl rfl (hb hby at_31)
  have V_b1_6 : ArJ Z h6 b1 (19 : Int32) [(1 : Int64), (10 : Int64), (100 : Int64), (1000 : Int64), (10000 : Int64), (0 : Int64), (0 : Int64), (0 : Int64), (0 : Int64), (0 : Int64), (0 : Int64), (0 : Int64), (0 : Int64), (0 : Int64), (0 : Int64), (0 : Int64), (0 : Int64), (0 : Int64), (0 : Int64)] := Vq6
  have N6 := Fr.snoc X6 N5 low_b1
  have Z6 : n0 ≤ h6.size := by rw [W6.size]; exact Z5
  refine Rch.step (st' := T6.setTop (mkF m 32 #[.val (.long vj0), .second, .val (.int vi2), .val (.int vi3), .val (.int vi4), .unset, .unset, .unset, .unset, .unset, .unset, .unset, .unset, .unset, .unset, .unset, .unset, .unset, .unset] [(.ref b1)])) (fun _ hr => st6 _ hr) ?_
  refine Rch.step (st' := T6.setTop (mkF m 33 #[.val (.long vj0), .second, .val (.int vi2), .val (.int vi3), .val (.int vi4), .unset, .unset, .unset, .unset, .unset, .unset, .unset, .unset, .unset, .unset, .unset, .unset, .unset, .unset] [(.ref b1), (.ref b1)])) (fun _ hr => XS.dup X6.here hx rfl (hb hby at_32) rfl rfl hr) ?_
  refine Rch.step (st' := T6.setTop (mkF m 34 #[.val (.long vj0), .second, .val (.int vi2), .val (.int vi3), .val (.int vi4), .unset, .unset, .unset, .unset, .unset, .unset, .unset, .unset, .unset, .unset, .unset, .unset, .unset, .unset] [(.int (5 : Int32)), (.ref b1), (.ref b1)])) (fun _ hr => XS.iconst X6.here hx rfl (hb hby at_33) hr) ?_
  refine Rch.step (st' := T6.setTop (mkF m 37 #[.val (.long vj0), .second, .val (.int vi2), .val (.int vi3), .val (.int vi4), .unset, .unset, .unset, .unset, .unset, .unset, .unset, .unset, .unset, .unset, .unset, .unset, .unset, .unset] [(.long (100000 : Int64)), (.int (5 : Int32)), (.ref b1), (.ref b1)])) (fun _ hr => X6.ldc2Long hx hown (mvT hZ (hw _ (List.mem_of_getElem? (i := 5) rfl))) (g := (mkF m 34 #[.val (.long vj0), .second, .val (.int vi2), .val (.int vi3), .val (.int vi4), .unset, .unset, .unset, .unset, .unset, .unset, .unset, .unset, .unset, .unset, .unset, .unset, .unset, .unset] [(.int (5 : Int32)), (.ref b1), (.ref b1)])) rfl (hb hby at_34) _ hr) ?_
  obtain ⟨T7, h7, X7, e7, W7, Vq7, st7⟩ := putJ X6 hx hZ e6 V_b1_6 (j := (5 : Int32)) (by decide) (by decide) (g := (mkF m 37 #[.val (.long vj0), .second, .val (.int vi2), .val (.int vi3), .val (.int vi4), .unset, .unset, .unset, .unset, .unset, .unset, .unset, .unset, .unset, .unset, .unset, .unset, .unset, .unset] [(.long (100000 : Int64)), (.int (5 : Int32)), (.ref b1), (.ref b1)])) rfl rfl (hb hby at_37)
  have V_b1_7 : ArJ Z h7 b1 (19 : Int32) [(1 : Int64), (10 : Int64), (100 : Int64), (1000 : Int64), (10000 : Int64), (100000 : Int64), (0 : Int64), (0 : Int64), (0 : Int64), (0 : Int64), (0 : Int64), (0 : Int64), (0 : Int64), (0 : Int64), (0 : Int64), (0 : Int64), (0 : Int64), (0 : Int64), (0 : Int64)] := Vq7
  have N7 := Fr.snoc X7 N6 low_b1
  have Z7 : n0 ≤ h7.size := by rw [W7.size]; exact Z6
  refine Rch.step (st' := T7.setTop (mkF m 38 #[.val (.long vj0), .second, .val (.int vi2), .val (.int vi3), .val (.int vi4), .unset, .unset, .unset, .unset, .unset, .unset, .unset, .unset, .unset, .unset, .unset, .unset, .unset, .unset] [(.ref b1)])) (fun _ hr => st7 _ hr) ?_
  refine Rch.step (st' := T7.setTop (mkF m 39 #[.val (.long vj0), .second, .val (.int vi2), .val (.int vi3), .val (.int vi4), .unset, .unset, .unset, .unset, .unset, .unset, .unset, .unset, .unset, .unset, .unset, .unset, .unset, .unset] [(.ref b1), (.ref b1)])) (fun _ hr => XS.dup X7.here hx rfl (hb hby at_38) rfl rfl hr) ?_
  refine Rch.step (st' := T7.setTop (mkF m 41 #[.val (.long vj0), .second, .val (.int vi2), .val (.int vi3), .val (.int vi4), .unset, .unset, .unset, .unset, .unset, .unset, .unset, .unset, .unset, .unset, .unset, .unset, .unset, .unset] [(.int (6 : Int32)), (.ref b1), (.ref b1)])) (fun _ hr => XS.bipush X7.here hx rfl (hb hby at_39) hr) ?_
  refine Rch.step (st' := T7.setTop (mkF m 44 #[.val (.long vj0), .second, .val (.int vi2), .val (.int vi3), .val (.int vi4), .unset, .unset, .unset, .unset, .unset, .unset, .unset, .unset, .unset, .unset, .unset, .unset, .unset, .unset] [(.long (1000000 : Int64)), (.int (6 : Int32)), (.ref b1), (.ref b1)])) (fun _ hr => X7.ldc2Long hx hown (mvT hZ (hw _ (List.mem_of_getElem? (i := 6) rfl))) (g := (mkF m 41 #[.val (.long vj0), .second, .val (.int vi2), .val (.int vi3), .val (.int vi4), .unset, .unset, .unset, .unset, .unset, .unset, .unset, .unset, .unset, .unset, .unset, .unset, .unset, .unset] [(.int (6 : Int32)), (.ref b1), (.ref b1)])) rfl (hb hby at_41) _ hr) ?_
  obtain ⟨T8, h8, X8, e8, W8, Vq8, st8⟩ := putJ X7 hx hZ e7 V_b1_7 (j := (6 : Int32)) (by decide) (by decide) (g := (mkF m 44 #[.val (.long vj0), .second, .val (.int vi2), .val (.int vi3), .val (.int vi4), .unset, .unset, .unset, .unset, .unset, .unset, .unset, .unset, .unset, .unset, .unset, .unset, .unset, .unset] [(.long (1000000 : Int64)), (.int (6 : Int32)), (.ref b1), (.ref b1)])) rfl rfl (hb hby at_44)
  have V_b1_8 : ArJ Z h8 b1 (19 : Int32) [(1 : Int64), (10 : Int64), (100 : Int64), (1000 : Int64), (10000 : Int64), (100000 : Int64), (1000000 : Int64), (0 : Int64), (0 : Int64), (0 : Int64), (0 : Int64), (0 : Int64), (0 : Int64), (0 : Int64), (0 : Int64), (0 : Int64), (0 : Int64), (0 : Int64), (0 : Int64)] := Vq8
  have N8 := Fr.snoc X8 N7 low_b1
  have Z8 : n0 ≤ h8.size := by rw [W8.size]; exact Z7
  refine Rch.step (st' := T8.setTop (mkF m 45 #[.val (.long vj0), .second, .val (.int vi2), .val (.int vi3), .val (.int vi4), .unset, .unset, .unset, .unset, .unset, .unset, .unset, .unset, .unset, .unset, .unset, .unset, .unset, .unset] [(.ref b1)])) (fun _ hr => st8 _ hr) ?_
  refine Rch.step (st' := T8.setTop (mkF m 46 #[.val (.long vj0), .second, .val (.int vi2), .val (.int vi3), .val (.int vi4), .unset, .unset, .unset, .unset, .unset, .unset, .unset, .unset, .unset, .unset, .unset, .unset, .unset, .unset] [(.ref b1), (.ref b1)])) (fun _ hr => XS.dup X8.here hx rfl (hb hby at_45) rfl rfl hr) ?_
  refine Rch.step (st' := T8.setTop (mkF m 48 #[.val (.long vj0), .second, .val (.int vi2), .val (.int vi3), .val (.int vi4), .unset, .unset, .unset, .unset, .unset, .unset, .unset, .unset, .unset, .unset, .unset, .unset, .unset, .unset] [(.int (7 : Int32)), (.ref b1), (.ref b1)])) (fun _ hr => XS.bipush X8.here hx rfl (hb hby at_46) hr) ?_
  refine Rch.step (st' := T8.setTop (mkF m 51 #[.val (.long vj0), .second, .val (.int vi2), .val (.int vi3), .val (.int vi4), .unset, .unset, .unset, .unset, .unset, .unset, .unset, .unset, .unset, .unset, .unset, .unset, .unset, .unset] [(.long (10000000 : Int64)), (.int (7 : Int32)), (.ref b1), (.ref b1)])) (fun _ hr => X8.ldc2Long hx hown (mvT hZ (hw _ (List.mem_of_getElem? (i := 7) rfl))) (g := (mkF m 48 #[.val (.long vj0), .second, .val (.int vi2), .val (.int vi3), .val (.int vi4), .unset, .unset, .unset, .unset, .unset, .unset, .unset, .unset, .unset, .unset, .unset, .unset, .unset, .unset] [(.int (7 : Int32)), (.ref b1), (.ref b1)])) rfl (hb hby at_48) _ hr) ?_
  obtain ⟨T9, h9, X9, e9, W9, Vq9, st9⟩ := putJ X8 hx hZ e8 V_b1_8 (j := (7 : Int32)) (by decide) (by decide) (g := (mkF m 51 #[.val (.long vj0), .second, .val (.int vi2), .val (.int vi3), .val (.int vi4), .unset, .unset, .unset, .unset, .unset, .unset, .unset, .unset, .unset, .unset, .unset, .unset, .unset, .unset] [(.long (10000000 : Int64)), (.int (7 : Int32)), (.ref b1), (.ref b1)])) rfl rfl (hb hby at_51)
  have V_b1_9 : ArJ Z h9 b1 (19 : Int32) [(1 : Int64), (10 : Int64), (100 : Int64), (1000 : Int64), (10000 : Int64), (100000 : Int64), (1000000 : Int64), (10000000 : Int64), (0 : Int64), (0 : Int64), (0 : Int64), (0 : Int64), (0 : Int64), (0 : Int64), (0 : Int64), (0 : Int64), (0 : Int64), (0 : Int64), (0 : Int64)] := Vq9
  have N9 := Fr.snoc X9 N8 low_b1
  have Z9 : n0 ≤ h9.size := by rw [W9.size]; exact Z8
  refine Rch.step (st' := T9.setTop (mkF m 52 #[.val (.long vj0), .second, .val (.int vi2), .val (.int vi3), .val (.int vi4), .unset, .unset, .unset, .unset, .unset, .unset, .unset, .unset, .unset, .unset, .unset, .unset, .unset, .unset] [(.ref b1)])) (fun _ hr => st9 _ hr) ?_
  refine Rch.step (st' := T9.setTop (mkF m 53 #[.val (.long vj0), .second, .val (.int vi2), .val (.int vi3), .val (.int vi4), .unset, .unset, .unset, .unset, .unset, .unset, .unset, .unset, .unset, .unset, .unset, .unset, .unset, .unset] [(.ref b1), (.ref b1)])) (fun _ hr => XS.dup X9.here hx rfl (hb hby at_52) rfl rfl hr) ?_
  refine Rch.step (st' := T9.setTop (mkF m 55 #[.val (.long vj0), .second, .val (.int vi2), .val (.int vi3), .val (.int vi4), .unset, .unset, .unset, .unset, .unset, .unset, .unset, .unset, .unset, .unset, .unset, .unset, .unset, .unset] [(.int (8 : Int32)), (.ref b1), (.ref b1)])) (fun _ hr => XS.bipush X9.here hx rfl (hb hby at_53) hr) ?_
  refine Rch.step (st' := T9.setTop (mkF m 58 #[.val (.long vj0), .second, .val (.int vi2), .val (.int vi3), .val (.int vi4), .unset, .unset, .unset, .unset, .unset, .unset, .unset, .unset, .unset, .unset, .unset, .unset, .unset, .unset] [(.long (100000000 : Int64)), (.int (8 : Int32)), (.ref b1), (.ref b1)])) (fun _ hr => X9.ldc2Long hx hown (mvT hZ (hw _ (List.mem_of_getElem? (i := 8) rfl))) (g := (mkF m 55 #[.val (.long vj0), .second, .val (.int vi2), .val (.int vi3), .val (.int vi4), .unset, .unset, .unset, .unset, .unset, .unset, .unset, .unset, .unset, .unset, .unset, .unset, .unset, .unset] [(.int (8 : Int32)), (.ref b1), (.ref b1)])) rfl (hb hby at_55) _ hr) ?_
  obtain ⟨T10, h10, X10, e10, W10, Vq10, st10⟩ := putJ X9 hx hZ e9 V_b1_9 (j := (8 : Int32)) (by decide) (by decide) (g := (mkF m 58 #[.val (.long vj0), .second, .val (.int vi2), .val (.int vi3), .val (.int vi4), .unset, .unset, .unset, .unset, .unset, .unset, .unset, .unset, .unset, .unset, .unset, .unset, .unset, .unset] [(.long (100000000 : Int64)), (.int (8 : Int32)), (.ref b1), (.ref b1)])) rfl rfl (hb hby at_58)
  have V_b1_10 : ArJ Z h10 b1 (19 : Int32) [(1 : Int64), (10 : Int64), (100 : Int64), (1000 : Int64), (10000 : Int64), (100000 : Int64), (1000000 : Int64), (10000000 : Int64), (100000000 : Int64), (0 : Int64), (0 : Int64), (0 : Int64), (0 : Int64), (0 : Int64), (0 : Int64), (0 : Int64), (0 : Int64), (0 : Int64), (0 : Int64)] := Vq10
  have N10 := Fr.snoc X10 N9 low_b1
  have Z10 : n0 ≤ h10.size := by rw [W10.size]; exact Z9
  refine Rch.step (st' := T10.setTop (mkF m 59 #[.val (.long vj0), .second, .val (.int vi2), .val (.int vi3), .val (.int vi4), .unset, .unset, .unset, .unset, .unset, .unset, .unset, .unset, .unset, .unset, .unset, .unset, .unset, .unset] [(.ref b1)])) (fun _ hr => st10 _ hr) ?_
  refine Rch.step (st' := T10.setTop (mkF m 60 #[.val (.long vj0), .second, .val (.int vi2), .val (.int vi3), .val (.int vi4), .unset, .unset, .unset, .unset, .unset, .unset, .unset, .unset, .unset, .unset, .unset, .unset, .unset, .unset] [(.ref b1), (.ref b1)])) (fun _ hr => XS.dup X10.here hx rfl (hb hby at_59) rfl rfl hr) ?_
  refine Rch.step (st' := T10.setTop (mkF m 62 #[.val (.long vj0), .second, .val (.int vi2), .val (.int vi3), .val (.int vi4), .unset, .unset, .unset, .unset, .unset, .unset, .unset, .unset, .unset, .unset, .unset, .unset, .unset, .unset] [(.int (9 : Int32)), (.ref b1), (.ref b1)])) (fun _ hr => XS.bipush X10.here hx rfl (hb hby at_60) hr) ?_
  refine Rch.step (st' := T10.setTop (mkF m 65 #[.val (.long vj0), .second, .val (.int vi2), .val (.int vi3), .val (.int vi4), .unset, .unset, .unset, .unset, .unset, .unset, .unset, .unset, .unset, .unset, .unset, .unset, .unset, .unset] [(.long (1000000000 : Int64)), (.int (9 : Int32)), (.ref b1), (.ref b1)])) (fun _ hr => X10.ldc2Long hx hown (mvT hZ (hw _ (List.mem_of_getElem? (i := 9) rfl))) (g := (mkF m 62 #[.val (.long vj0), .second, .val (.int vi2), .val (.int vi3), .val (.int vi4), .unset, .unset, .unset, .unset, .unset, .unset, .unset, .unset, .unset, .unset, .unset, .unset, .unset, .unset] [(.int (9 : Int32)), (.ref b1), (.ref b1)])) rfl (hb hby at_62) _ hr) ?_
  obtain ⟨T11, h11, X11, e11, W11, Vq11, st11⟩ := putJ X10 hx hZ e10 V_b1_10 (j := (9 : Int32)) (by decide) (by decide) (g := (mkF m 65 #[.val (.long vj0), .second, .val (.int vi2), .val (.int vi3), .val (.int vi4), .unset, .unset, .unset, .unset, .unset, .unset, .unset, .unset, .unset, .unset, .unset, .unset, .unset, .unset] [(.long (1000000000 : Int64)), (.int (9 : Int32)), (.ref b1), (.ref b1)])) rfl rfl (hb hby at_65)
  have V_b1_11 : ArJ Z h11 b1 (19 : Int32) [(1 : Int64), (10 : Int64), (100 : Int64), (1000 : Int64), (10000 : Int64), (100000 : Int64), (1000000 : Int64), (10000000 : Int64), (100000000 : Int64), (1000000000 : Int64), (0 : Int64), (0 : Int64), (0 : Int64), (0 : Int64), (0 : Int64), (0 : Int64), (0 : Int64), (0 : Int64), (0 : Int64)] := Vq11
  have N11 := Fr.snoc X11 N10 low_b1
  have Z11 : n0 ≤ h11.size := by rw [W11.size]; exact Z10
  refine Rch.step (st' := T11.setTop (mkF m 66 #[.val (.long vj0), .second, .val (.int vi2), .val (.int vi3), .val (.int vi4), .unset, .unset, .unset, .unset, .unset, .unset, .unset, .unset, .unset, .unset, .unset, .unset, .unset, .unset] [(.ref b1)])) (fun _ hr => st11 _ hr) ?_
  refine Rch.step (st' := T11.setTop (mkF m 67 #[.val (.long vj0), .second, .val (.int vi2), .val (.int vi3), .val (.int vi4), .unset, .unset, .unset, .unset, .unset, .unset, .unset, .unset, .unset, .unset, .unset, .unset, .unset, .unset] [(.ref b1), (.ref b1)])) (fun _ hr => XS.dup X11.here hx rfl (hb hby at_66) rfl rfl hr) ?_
  refine Rch.step (st' := T11.setTop (mkF m 69 #[.val (.long vj0), .second, .val (.int vi2), .val (.int vi3), .val (.int vi4), .unset, .unset, .unset, .unset, .unset, .unset, .unset, .unset, .unset, .unset, .unset, .unset, .unset, .unset] [(.int (10 : Int32)), (.ref b1), (.ref b1)])) (fun _ hr => XS.bipush X11.here hx rfl (hb hby at_67) hr) ?_
  refine Rch.step (st' := T11.setTop (mkF m 72 #[.val (.long vj0), .second, .val (.int vi2), .val (.int vi3), .val (.int vi4), .unset, .unset, .unset, .unset, .unset, .unset, .unset, .unset, .unset, .unset, .unset, .unset, .unset, .unset] [(.long (10000000000 : Int64)), (.int (10 : Int32)), (.ref b1), (.ref b1)])) (fun _ hr => X11.ldc2Long hx hown (mvT hZ (hw _ (List.mem_of_getElem? (i := 10) rfl))) (g := (mkF m 69 #[.val (.long vj0), .second, .val (.int vi2), .val (.int vi3), .val (.int vi4), .unset, .unset, .unset, .unset, .unset, .unset, .unset, .unset, .unset, .unset, .unset, .unset, .unset, .unset] [(.int (10 : Int32)), (.ref b1), (.ref b1)])) rfl (hb hby at_69) _ hr) ?_
  obtain ⟨T12, h12, X12, e12, W12, Vq12, st12⟩ := putJ X11 hx hZ e11 V_b1_11 (j := (10 : Int32)) (by decide) (by decide) (g := (mkF m 72 #[.val (.long vj0), .second, .val (.int vi2), .val (.int vi3), .val (.int vi4), .unset, .unset, .unset, .unset, .unset, .unset, .unset, .unset, .unset, .unset, .unset, .unset, .unset, .unset] [(.long (10000000000 : Int64)), (.int (10 : Int32)), (.ref b1), (.ref b1)])) rfl rfl (hb hby at_72)
  have V_b1_12 : ArJ Z h12 b1 (19 : Int32) [(1 : Int64), (10 : Int64), (100 : Int64), (1000 : Int64), (10000 : Int64), (100000 : Int64), (1000000 : Int64), (10000000 : Int64), (100000000 : Int64), (1000000000 : Int64), (10000000000 : Int64), (0 : Int64), (0 : Int64), (0 : Int64), (0 : Int64), (0 : Int64), (0 : Int64), (0 : Int64), (0 : Int64)] := Vq12
  have N12 := Fr.snoc X12 N11 low_b1
  have Z12 : n0 ≤ h12.size := by rw [W12.size]; exact Z11
  refine Rch.step (st' := T12.setTop (mkF m 73 #[.val (.long vj0), .second, .val (.int vi2), .val (.int vi3), .val (.int vi4), .unset, .unset, .unset, .unset, .unset, .unset, .unset, .unset, .unset, .unset, .unset, .unset, .unset, .unset] [(.ref b1)])) (fun _ hr => st12 _ hr) ?_
  refine Rch.step (st' := T12.setTop (mkF m 74 #[.val (.long vj0), .second, .val (.int vi2), .val (.int vi3), .val (.int vi4), .unset, .unset, .unset, .unset, .unset, .unset, .unset, .unset, .unset, .unset, .unset, .unset, .unset, .unset] [(.ref b1), (.ref b1)])) (fun _ hr => XS.dup X12.here hx rfl (hb hby at_73) rfl rfl hr) ?_
  refine Rch.step (st' := T12.setTop (mkF m 76 #[.val (.long vj0), .second, .val (.int vi2), .val (.int vi3), .val (.int vi4), .unset, .unset, .unset, .unset, .unset, .unset, .unset, .unset, .unset, .unset, .unset, .unset, .unset, .unset] [(.int (11 : Int32)), (.ref b1), (.ref b1)])) (fun _ hr => XS.bipush X12.here hx rfl (hb hby at_74) hr) ?_
  refine Rch.step (st' := T12.setTop (mkF m 79 #[.val (.long vj0), .second, .val (.int vi2), .val (.int vi3), .val (.int vi4), .unset, .unset, .unset, .unset, .unset, .unset, .unset, .unset, .unset, .unset, .unset, .unset, .unset, .unset] [(.long (100000000000 : Int64)), (.int (11 : Int32)), (.ref b1), (.ref b1)])) (fun _ hr => X12.ldc2Long hx hown (mvT hZ (hw _ (List.mem_of_getElem? (i := 11) rfl))) (g := (mkF m 76 #[.val (.long vj0), .second, .val (.int vi2), .val (.int vi3), .val (.int vi4), .unset, .unset, .unset, .unset, .unset, .unset, .unset, .unset, .unset, .unset, .unset, .unset, .unset, .unset] [(.int (11 : Int32)), (.ref b1), (.ref b1)])) rfl (hb hby at_76) _ hr) ?_
  obtain ⟨T13, h13, X13, e13, W13, Vq13, st13⟩ := putJ X12 hx hZ e12 V_b1_12 (j := (11 : Int32)) (by decide) (by decide) (g := (mkF m 79 #[.val (.long vj0), .second, .val (.int vi2), .val (.int vi3), .val (.int vi4), .unset, .unset, .unset, .unset, .unset, .unset, .unset, .unset, .unset, .unset, .unset, .unset, .unset, .unset] [(.long (100000000000 : Int64)), (.int (11 : Int32)), (.ref b1), (.ref b1)])) rfl rfl (hb hby at_79)
  have V_b1_13 : ArJ Z h13 b1 (19 : Int32) [(1 : Int64), (10 : Int64), (100 : Int64), (1000 : Int64), (10000 : Int64), (100000 : Int64), (1000000 : Int64), (10000000 : Int64), (100000000 : Int64), (1000000000 : Int64), (10000000000 : Int64), (100000000000 : Int64), (0 : Int64), (0 : Int64), (0 : Int64), (0 : Int64), (0 : Int64), (0 : Int64), (0 : Int64)] := Vq13
  have N13 := Fr.snoc X13 N12 low_b1
  have Z13 : n0 ≤ h13.size := by rw [W13.size]; exact Z12
  refine Rch.step (st' := T13.setTop (mkF m 80 #[.val (.long vj0), .second, .val (.int vi2), .val (.int vi3), .val (.int vi4), .unset, .unset, .unset, .unset, .unset, .unset, .unset, .unset, .unset, .unset, .unset, .unset, .unset, .unset] [(.ref b1)])) (fun _ hr => st13 _ hr) ?_
  refine Rch.step (st' := T13.setTop (mkF m 81 #[.val (.long vj0), .second, .val (.int vi2), .val (.int vi3), .val (.int vi4), .unset, .unset, .unset, .unset, .unset, .unset, .unset, .unset, .unset, .unset, .unset, .unset, .unset, .unset] [(.ref b1), (.ref b1)])) (fun _ hr => XS.dup X13.here hx rfl (hb hby at_80) rfl rfl hr) ?_
  refine Rch.step (st' := T13.setTop (mkF m 83 #[.val (.long vj0), .second, .val (.int vi2), .val (.int vi3), .val (.int vi4), .unset, .unset, .unset, .unset, .unset, .unset, .unset, .unset, .unset, .unset, .unset, .unset, .unset, .unset] [(.int (12 : Int32)), (.ref b1), (.ref b1)])) (fun _ hr => XS.bipush X13.here hx rfl (hb hby at_81) hr) ?_
  refine Rch.step (st' := T13.setTop (mkF m 86 #[.val (.long vj0), .second, .val (.int vi2), .val (.int vi3), .val (.int vi4), .unset, .unset, .unset, .unset, .unset, .unset, .unset, .unset, .unset, .unset, .unset, .unset, .unset, .unset] [(.long (1000000000000 : Int64)), (.int (12 : Int32)), (.ref b1), (.ref b1)])) (fun _ hr => X13.ldc2Long hx hown (mvT hZ (hw _ (List.mem_of_getElem? (i := 12) rfl))) (g := (mkF m 83 #[.val (.long vj0), .second, .val (.int vi2), .val (.int vi3), .val (.int vi4), .unset, .unset, .unset, .unset, .unset, .unset, .unset, .unset, .unset, .unset, .unset, .unset, .unset, .unset] [(.int (12 : Int32)), (.ref b1), (.ref b1)])) rfl (hb hby at_83) _ hr) ?_
  obtain ⟨T14, h14, X14, e14, W14, Vq14, st14⟩ := putJ X13 hx hZ e13 V_b1_13 (j := (12 : Int32)) (by decide) (by decide) (g := (mkF m 86 #[.val (.long vj0), .second, .val (.int vi2), .val (.int vi3), .val (.int vi4), .unset, .unset, .unset, .unset, .unset, .unset, .unset, .unset, .unset, .unset, .unset, .unset, .unset, .unset] [(.long (1000000000000 : Int64)), (.int (12 : Int32)), (.ref b1), (.ref b1)])) rfl rfl (hb hby at_86)
  have V_b1_14 : ArJ Z h14 b1 (19 : Int32) [(1 : Int64), (10 : Int64), (100 : Int64), (1000 : Int64), (10000 : Int64), (100000 : Int64), (1000000 : Int64), (10000000 : Int64), (100000000 : Int64), (1000000000 : Int64), (10000000000 : Int64), (100000000000 : Int64), (1000000000000 : Int64), (0 : Int64), (0 : Int64), (0 : Int64), (0 : Int64), (0 : Int64), (0 : Int64)] := Vq14
  have N14 := Fr.snoc X14 N13 low_b1
  have Z14 : n0 ≤ h14.size := by rw [W14.size]; exact Z13
  refine Rch.step (st' := T14.setTop (mkF m 87 #[.val (.long vj0), .second, .val (.int vi2), .val (.int vi3), .val (.int vi4), .unset, .unset, .unset, .unset, .unset, .unset, .unset, .unset, .unset, .unset, .unset, .unset, .unset, .unset] [(.ref b1)])) (fun _ hr => st14 _ hr) ?_
  refine Rch.step (st' := T14.setTop (mkF m 88 #[.val (.long vj0), .second, .val (.int vi2), .val (.int vi3), .val (.int vi4), .unset, .unset, .unset, .unset, .unset, .unset, .unset, .unset, .unset, .unset, .unset, .unset, .unset, .unset] [(.ref b1), (.ref b1)])) (fun _ hr => XS.dup X14.here hx rfl (hb hby at_87) rfl rfl hr) ?_
  refine Rch.step (st' := T14.setTop (mkF m 90 #[.val (.long vj0), .second, .val (.int vi2), .val (.int vi3), .val (.int vi4), .unset, .unset, .unset, .unset, .unset, .unset, .unset, .unset, .unset, .unset, .unset, .unset, .unset, .unset] [(.int (13 : Int32)), (.ref b1), (.ref b1)])) (fun _ hr => XS.bipush X14.here hx rfl (hb hby at_88) hr) ?_
  refine Rch.step (st' := T14.setTop (mkF m 93 #[.val (.long vj0), .second, .val (.int vi2), .val (.int vi3), .val (.int vi4), .unset, .unset, .unset, .unset, .unset, .unset, .unset, .unset, .unset, .unset, .unset, .unset, .unset, .unset] [(.long (10000000000000 : Int64)), (.int (13 : Int32)), (.ref b1), (.ref b1)])) (fun _ hr => X14.ldc2Long hx hown (mvT hZ (hw _ (List.mem_of_getElem? (i := 13) rfl))) (g := (mkF m 90 #[.val (.long vj0), .second, .val (.int vi2), .val (.int vi3), .val (.int vi4), .unset, .unset, .unset, .unset, .unset, .unset, .unset, .unset, .unset, .unset, .unset, .unset, .unset, .unset] [(.int (13 : Int32)), (.ref b1), (.ref b1)])) rfl (hb hby at_90) _ hr) ?_
  obtain ⟨T15, h15, X15, e15, W15, Vq15, st15⟩ := putJ X14 hx hZ e14 V_b1_14 (j := (13 : Int32)) (by decide) (by decide) (g := (mkF m 93 #[.val (.long vj0), .second, .val (.int vi2), .val (.int vi3), .val (.int vi4), .unset, .unset, .unset, .unset, .unset, .unset, .unset, .unset, .unset, .unset, .unset, .unset, .unset, .unset] [(.long (10000000000000 : Int64)), (.int (13 : Int32)), (.ref b1), (.ref b1)])) rfl rfl (hb hby at_93)
  have V_b1_15 : ArJ Z h15 b1 (19 : Int32) [(1 : Int64), (10 : Int64), (100 : Int64), (1000 : Int64), (10000 : Int64), (100000 : Int64), (1000000 : Int64), (10000000 : Int64), (100000000 : Int64), (1000000000 : Int64), (10000000000 : Int64), (100000000000 : Int64), (1000000000000 : Int64), (10000000000000 : Int64), (0 : Int64), (0 : Int64), (0 : Int64), (0 : Int64), (0 : Int64)] := Vq15
  have N15 := Fr.snoc X15 N14 low_b1
  have Z15 : n0 ≤ h15.size := by rw [W15.size]; exact Z14
  refine Rch.step (st' := T15.setTop (mkF m 94 #[.val (.long vj0), .second, .val (.int vi2), .val (.int vi3), .val (.int vi4), .unset, .unset, .unset, .unset, .unset, .unset, .unset, .unset, .unset, .unset, .unset, .unset, .unset, .unset] [(.ref b1)])) (fun _ hr => st15 _ hr) ?_
  refine Rch.step (st' := T15.setTop (mkF m 95 #[.val (.long vj0), .second, .val (.int vi2), .val (.int vi3), .val (.int vi4), .unset, .unset, .unset, .unset, .unset, .unset, .unset, .unset, .unset, .unset, .unset, .unset, .unset, .unset] [(.ref b1), (.ref b1)])) (fun _ hr => XS.dup X15.here hx rfl (hb hby at_94) rfl rfl hr) ?_
  refine Rch.step (st' := T15.setTop (mkF m 97 #[.val (.long vj0), .second, .val (.int vi2), .val (.int vi3), .val (.int vi4), .unset, .unset, .unset, .unset, .unset, .unset, .unset, .unset, .unset, .unset, .unset, .unset, .unset, .unset] [(.int (14 : Int32)), (.ref b1), (.ref b1)])) (fun _ hr => XS.bipush X15.here hx rfl (hb hby at_95) hr) ?_
  refine Rch.step (st' := T15.setTop (mkF m 100 #[.val (.long vj0), .second, .val (.int vi2), .val (.int vi3), .val (.int vi4), .unset, .unset, .unset, .unset, .unset, .unset, .unset, .unset, .unset, .unset, .unset, .unset, .unset, .unset] [(.long (100000000000000 : Int64)), (.int (14 : Int32)), (.ref b1), (.ref b1)])) (fun _ hr => X15.ldc2Long hx hown (mvT hZ (hw _ (List.mem_of_getElem? (i := 14) rfl))) (g := (mkF m 97 #[.val (.long vj0), .second, .val (.int vi2), .val (.int vi3), .val (.int vi4), .unset, .unset, .unset, .unset, .unset, .unset, .unset, .unset, .unset, .unset, .unset, .unset, .unset, .unset] [(.int (14 : Int32)), (.ref b1), (.ref b1)])) rfl (hb hby at_97) _ hr) ?_
  obtain ⟨T16, h16, X16, e16, W16, Vq16, st16⟩ := putJ X15 hx hZ e15 V_b1_15 (j := (14 : Int32)) (by decide) (by decide) (g := (mkF m 100 #[.val (.long vj0), .second, .val (.int vi2), .val (.int vi3), .val (.int vi4), .unset, .unset, .unset, .unset, .unset, .unset, .unset, .unset, .unset, .unset, .unset, .unset, .unset, .unset] [(.long (100000000000000 : Int64)), (.int (14 : Int32)), (.ref b1), (.ref b1)])) rfl rfl (hb hby at_100)
  have V_b1_16 : ArJ Z h16 b1 (19 : Int32) [(1 : Int64), (10 : Int64), (100 : Int64), (1000 : Int64), (10000 : Int64), (100000 : Int64), (1000000 : Int64), (10000000 : Int64), (100000000 : Int64), (1000000000 : Int64), (10000000000 : Int64), (100000000000 : Int64), (1000000000000 : Int64), (10000000000000 : Int64), (100000000000000 : Int64), (0 : Int64), (0 : Int64), (0 : Int64), (0 : Int64)] := Vq16
  have N16 := Fr.snoc X16 N15 low_b1
  have Z16 : n0 ≤ h16.size := by rw [W16.size]; exact Z15
  refine Rch.step (st' := T16.setTop (mkF m 101 #[.val (.long vj0), .second, .val (.int vi2), .val (.int vi3), .val (.int vi4), .unset, .unset, .unset, .unset, .unset, .unset, .unset, .unset, .unset, .unset, .unset, .unset, .unset, .unset] [(.ref b1)])) (fun _ hr => st16 _ hr) ?_
  refine Rch.step (st' := T16.setTop (mkF m 102 #[.val (.long vj0), .second, .val (.int vi2), .val (.int vi3), .val (.int vi4), .unset, .unset, .unset, .unset, .unset, .unset, .unset, .unset, .unset, .unset, .unset, .unset, .unset, .unset] [(.ref b1), (.ref b1)])) (fun _ hr => XS.dup X16.here hx rfl (hb hby at_101) rfl rfl hr) ?_
  refine Rch.step (st' := T16.setTop (mkF m 104 #[.val (.long vj0), .second, .val (.int vi2), .val (.int vi3), .val (.int vi4), .unset, .unset, .unset, .unset, .unset, .unset, .unset, .unset, .unset, .unset, .unset, .unset, .unset, .unset] [(.int (15 : Int32)), (.ref b1), (.ref b1)])) (fun _ hr => XS.bipush X16.here hx rfl (hb hby at_102) hr) ?_
  refine Rch.step (st' := T16.setTop (mkF m 107 #[.val (.long vj0), .second, .val (.int vi2), .val (.int vi3), .val (.int vi4), .unset, .unset, .unset, .unset, .unset, .unset, .unset, .unset, .unset, .unset, .unset, .unset, .unset, .unset] [(.long (1000000000000000 : Int64)), (.int (15 : Int32)), (.ref b1), (.ref b1)])) (fun _ hr => X16.ldc2Long hx hown (mvT hZ (hw _ (List.mem_of_getElem? (i := 15) rfl))) (g := (mkF m 104 #[.val (.long vj0), .second, .val (.int vi2), .val (.int vi3), .val (.int vi4), .unset, .unset, .unset, .unset, .unset, .unset, .unset, .unset, .unset, .unset, .unset, .unset, .unset, .unset] [(.int (15 : Int32)), (.ref b1), (.ref b1)])) rfl (hb hby at_104) _ hr) ?_
  obtain ⟨T17, h17, X17, e17, W17, Vq17, st17⟩ := putJ X16 hx hZ e16 V_b1_16 (j := (15 : Int32)) (by decide) (by decide) (g := (mkF m 107 #[.val (.long vj0), .second, .val (.int vi2), .val (.int vi3), .val (.int vi4), .unset, .unset, .unset, .unset, .unset, .unset, .unset, .unset, .unset, .unset, .unset, .unset, .unset, .unset] [(.long (1000000000000000 : Int64)), (.int (15 : Int32)), (.ref b1), (.ref b1)])) rfl rfl (hb hby at_107)
  have V_b1_17 : ArJ Z h17 b1 (19 : Int32) [(1 : Int64), (10 : Int64), (100 : Int64), (1000 : Int64), (10000 : Int64), (100000 : Int64), (1000000 : Int64), (10000000 : Int64), (100000000 : Int64), (1000000000 : Int64), (10000000000 : Int64), (100000000000 : Int64), (1000000000000 : Int64), (10000000000000 : Int64), (100000000000000 : Int64), (1000000000000000 : Int64), (0 : Int64), (0 : Int64), (0 : Int64)] := Vq17
  have N17 := Fr.snoc X17 N16 low_b1
  have Z17 : n0 ≤ h17.size := by rw [W17.size]; exact Z16
  refine Rch.step (st' := T17.setTop (mkF m 108 #[.val (.long vj0), .second, .val (.int vi2), .val (.int vi3), .val (.int vi4), .unset, .unset, .unset, .unset, .unset, .unset, .unset, .unset, .unset, .unset, .unset, .unset, .unset, .unset] [(.ref b1)])) (fun _ hr => st17 _ hr) ?_
  refine Rch.step (st' := T17.setTop (mkF m 109 #[.val (.long vj0), .second, .val (.int vi2), .val (.int vi3), .val (.int vi4), .unset, .unset, .unset, .unset, .unset, .unset, .unset, .unset, .unset, .unset, .unset, .unset, .unset, .unset] [(.ref b1), (.ref b1)])) (fun _ hr => XS.dup X17.here hx rfl (hb hby at_108) rfl rfl hr) ?_
  refine Rch.step (st' := T17.setTop (mkF m 111 #[.val (.long vj0), .second, .val (.int vi2), .val (.int vi3), .val (.int vi4), .unset, .unset, .unset, .unset, .unset, .unset, .unset, .unset, .unset, .unset, .unset, .unset, .unset, .unset] [(.int (16 : Int32)), (.ref b1), (.ref b1)])) (fun _ hr => XS.bipush X17.here hx rfl (hb hby at_109) hr) ?_
  refine Rch.step (st' := T17.setTop (mkF m 114 #[.val (.long vj0), .second, .val (.int vi2), .val (.int vi3), .val (.int vi4), .unset, .unset, .unset, .unset, .unset, .unset, .unset, .unset, .unset, .unset, .unset, .unset, .unset, .unset] [(.long (10000000000000000 : Int64)), (.int (16 : Int32)), (.ref b1), (.ref b1)])) (fun _ hr => X17.ldc2Long hx hown (mvT hZ (hw _ (List.mem_of_getElem? (i := 16) rfl))) (g := (mkF m 111 #[.val (.long vj0), .second, .val (.int vi2), .val (.int vi3), .val (.int vi4), .unset, .unset, .unset, .unset, .unset, .unset, .unset, .unset, .unset, .unset, .unset, .unset, .unset, .unset] [(.int (16 : Int32)), (.ref b1), (.ref b1)])) rfl (hb hby at_111) _ hr) ?_
  obtain ⟨T18, h18, X18, e18, W18, Vq18, st18⟩ := putJ X17 hx hZ e17 V_b1_17 (j := (16 : Int32)) (by decide) (by decide) (g := (mkF m 114 #[.val (.long vj0), .second, .val (.int vi2), .val (.int vi3), .val (.int vi4), .unset, .unset, .unset, .unset, .unset, .unset, .unset, .unset, .unset, .unset, .unset, .unset, .unset, .unset] [(.long (10000000000000000 : Int64)), (.int (16 : Int32)), (.ref b1), (.ref b1)])) rfl rfl (hb hby at_114)
  have V_b1_18 : ArJ Z h18 b1 (19 : Int32) [(1 : Int64), (10 : Int64), (100 : Int64), (1000 : Int64), (10000 : Int64), (100000 : Int64), (1000000 : Int64), (10000000 : Int64), (100000000 : Int64), (1000000000 : Int64), (10000000000 : Int64), (100000000000 : Int64), (1000000000000 : Int64), (10000000000000 : Int64), (100000000000000 : Int64), (1000000000000000 : Int64), (10000000000000000 : Int64), (0 : Int64), (0 : Int64)] := Vq18
  have N18 := Fr.snoc X18 N17 low_b1
  have Z18 : n0 ≤ h18.size := by rw [W18.size]; exact Z17
  refine Rch.step (st' := T18.setTop (mkF m 115 #[.val (.long vj0), .second, .val (.int vi2), .val (.int vi3), .val (.int vi4), .unset, .unset, .unset, .unset, .unset, .unset, .unset, .unset, .unset, .unset, .unset, .unset, .unset, .unset] [(.ref b1)])) (fun _ hr => st18 _ hr) ?_
  refine Rch.step (st' := T18.setTop (mkF m 116 #[.val (.long vj0), .second, .val (.int vi2), .val (.int vi3), .val (.int vi4), .unset, .unset, .unset, .unset, .unset, .unset, .unset, .unset, .unset, .unset, .unset, .unset, .unset, .unset] [(.ref b1), (.ref b1)])) (fun _ hr => XS.dup X18.here hx rfl (hb hby at_115) rfl rfl hr) ?_
  refine Rch.step (st' := T18.setTop (mkF m 118 #[.val (.long vj0), .second, .val (.int vi2), .val (.int vi3), .val (.int vi4), .unset, .unset, .unset, .unset, .unset, .unset, .unset, .unset, .unset, .unset, .unset, .unset, .unset, .unset] [(.int (17 : Int32)), (.ref b1), (.ref b1)])) (fun _ hr => XS.bipush X18.here hx rfl (hb hby at_116) hr) ?_
  refine Rch.step (st' := T18.setTop (mkF m 121 #[.val (.long vj0), .second, .val (.int vi2), .val (.int vi3), .val (.int vi4), .unset, .unset, .unset, .unset, .unset, .unset, .unset, .unset, .unset, .unset, .unset, .unset, .unset, .unset] [(.long (100000000000000000 : Int64)), (.int (17 : Int32)), (.ref b1), (.ref b1)])) (fun _ hr => X18.ldc2Long hx hown (mvT hZ (hw _ (List.mem_of_getElem? (i := 17) rfl))) (g := (mkF m 118 #[.val (.long vj0), .second, .val (.int vi2), .val (.int vi3), .val (.int vi4), .unset, .unset, .unset, .unset, .unset, .unset, .unset, .unset, .unset, .unset, .unset, .unset, .unset, .unset] [(.int (17 : Int32)), (.ref b1), (.ref b1)])) rfl (hb hby at_118) _ hr) ?_
  obtain ⟨T19, h19, X19, e19, W19, Vq19, st19⟩ := putJ X18 hx hZ e18 V_b1_18 (j := (17 : Int32)) (by decide) (by decide) (g := (mkF m 121 #[.val (.long vj0), .second, .val (.int vi2), .val (.int vi3), .val (.int vi4), .unset, .unset, .unset, .unset, .unset, .unset, .unset, .unset, .unset, .unset, .unset, .unset, .unset, .unset] [(.long (100000000000000000 : Int64)), (.int (17 : Int32)), (.ref b1), (.ref b1)])) rfl rfl (hb hby at_121)
  have V_b1_19 : ArJ Z h19 b1 (19 : Int32) [(1 : Int64), (10 : Int64), (100 : Int64), (1000 : Int64), (10000 : Int64), (100000 : Int64), (1000000 : Int64), (10000000 : Int64), (100000000 : Int64), (1000000000 : Int64), (10000000000 : Int64), (100000000000 : Int64), (1000000000000 : Int64), (10000000000000 : Int64), (100000000000000 : Int64), (1000000000000000 : Int64), (10000000000000000 : Int64), (100000000000000000 : Int64), (0 : Int64)] := Vq19
  have N19 := Fr.snoc X19 N18 low_b1
  have Z19 : n0 ≤ h19.size := by rw [W19.size]; exact Z18
  refine Rch.step (st' := T19.setTop (mkF m 122 #[.val (.long vj0), .second, .val (.int vi2), .val (.int vi3), .val (.int vi4), .unset, .unset, .unset, .unset, .unset, .unset, .unset, .unset, .unset, .unset, .unset, .unset, .unset, .unset] [(.ref b1)])) (fun _ hr => st19 _ hr) ?_
  refine Rch.step (st' := T19.setTop (mkF m 123 #[.val (.long vj0), .second, .val (.int vi2), .val (.int vi3), .val (.int vi4), .unset, .unset, .unset, .unset, .unset, .unset, .unset, .unset, .unset, .unset, .unset, .unset, .unset, .unset] [(.ref b1), (.ref b1)])) (fun _ hr => XS.dup X19.here hx rfl (hb hby at_122) rfl rfl hr) ?_
  refine Rch.step (st' := T19.setTop (mkF m 125 #[.val (.long vj0), .second, .val (.int vi2), .val (.int vi3), .val (.int vi4), .unset, .unset, .unset, .unset, .unset, .unset, .unset, .unset, .unset, .unset, .unset, .unset, .unset, .unset] [(.int (18 : Int32)), (.ref b1), (.ref b1)])) (fun _ hr => XS.bipush X19.here hx rfl (hb hby at_123) hr) ?_
  refine Rch.step (st' := T19.setTop (mkF m 128 #[.val (.long vj0), .second, .val (.int vi2), .val (.int vi3), .val (.int vi4), .unset, .unset, .unset, .unset, .unset, .unset, .unset, .unset, .unset, .unset, .unset, .unset, .unset, .unset] [(.long (1000000000000000000 : Int64)), (.int (18 : Int32)), (.ref b1), (.ref b1)])) (fun _ hr => X19.ldc2Long hx hown (mvT hZ (hw _ (List.mem_of_getElem? (i := 18) rfl))) (g := (mkF m 125 #[.val (.long vj0), .second, .val (.int vi2), .val (.int vi3), .val (.int vi4), .unset, .unset, .unset, .unset, .unset, .unset, .unset, .unset, .unset, .unset, .unset, .unset, .unset, .unset] [(.int (18 : Int32)), (.ref b1), (.ref b1)])) rfl (hb hby at_125) _ hr) ?_
  obtain ⟨T20, h20, X20, e20, W20, Vq20, st20⟩ := putJ X19 hx hZ e19 V_b1_19 (j := (18 : Int32)) (by decide) (by decide) (g := (mkF m 128 #[.val (.long vj0), .second, .val (.int vi2), .val (.int vi3), .val (.int vi4), .unset, .unset, .unset, .unset, .unset, .unset, .unset, .unset, .unset, .unset, .unset, .unset, .unset, .unset] [(.long (1000000000000000000 : Int64)), (.int (18 : Int32)), (.ref b1), (.ref b1)])) rfl rfl (hb hby at_128)
  have V_b1_20 : ArJ Z h20 b1 (19 : Int32) [(1 : Int64), (10 : Int64), (100 : Int64), (1000 : Int64), (10000 : Int64), (100000 : Int64), (1000000 : Int64), (10000000 : Int64), (100000000 : Int64), (1000000000 : Int64), (10000000000 : Int64), (100000000000 : Int64), (1000000000000 : Int64), (10000000000000 : Int64), (100000000000000 : Int64), (1000000000000000 : Int64), (10000000000000000 : Int64), (100000000000000000 : Int64), (1000000000000000000 : Int64)] := Vq20
  have N20 := Fr.snoc X20 N19 low_b1
  have Z20 : n0 ≤ h20.size := by rw [W20.size]; exact Z19
  refine Rch.step (st' := T20.setTop (mkF m 129 #[.val (.long vj0), .second, .val (.int vi2), .val (.int vi3), .val (.int vi4), .unset, .unset, .unset, .unset, .unset, .unset, .unset, .unset, .unset, .unset, .unset, .unset, .unset, .unset] [(.ref b1)])) (fun _ hr => st20 _ hr) ?_
  refine Rch.step (st' := T20.setTop (mkF m 131 #[.val (.long vj0), .second, .val (.int vi2), .val (.int vi3), .val (.int vi4), .val (.ref b1), .unset, .unset, .unset, .unset, .unset, .unset, .unset, .unset, .unset, .unset, .unset, .unset, .unset] [])) (fun _ hr => XS.astore X20.here hx rfl (hb hby at_129) rfl rfl (l' := #[.val (.long vj0), .second, .val (.int vi2), .val (.int vi3), .val (.int vi4), .val (.ref b1), .unset, .unset, .unset, .unset, .unset, .unset, .unset, .unset, .unset, .unset, .unset, .unset, .unset]) rfl hr) ?_
  refine Rch.step (st' := T20.setTop (mkF m 132 #[.val (.long vj0), .second, .val (.int vi2), .val (.int vi3), .val (.int vi4), .val (.ref b1), .unset, .unset, .unset, .unset, .unset, .unset, .unset, .unset, .unset, .unset, .unset, .unset, .unset] [(.int vi2)])) (fun _ hr => XS.iloadN X20.here hx rfl (hb hby at_131) rfl hr) ?_
  refine Rch.step (st' := T20.setTop (mkF m 134 #[.val (.long vj0), .second, .val (.int vi2), .val (.int vi3), .val (.int vi4), .val (.ref b1), .unset, .unset, .unset, .unset, .unset, .unset, .unset, .unset, .unset, .unset, .unset, .unset, .unset] [(.int (2147483647 : Int32)), (.int vi2)])) (fun _ hr => X20.ldcInt hx hown (mvT hZ (hw _ (List.mem_of_getElem? (i := 19) rfl))) (g := (mkF m 132 #[.val (.long vj0), .second, .val (.int vi2), .val (.int vi3), .val (.int vi4), .val (.ref b1), .unset, .unset, .unset, .unset, .unset, .unset, .unset, .unset, .unset, .unset, .unset, .unset, .unset] [(.int vi2)])) rfl (hb hby at_132) _ hr) ?_
  refine Rch.step (st' := T20.setTop (mkF m 135 #[.val (.long vj0), .second, .val (.int vi2), .val (.int vi3), .val (.int vi4), .val (.ref b1), .unset, .unset, .unset, .unset, .unset, .unset, .unset, .unset, .unset, .unset, .unset, .unset, .unset] [(.int (vi2 &&& (2147483647 : Int32)))])) (fun _ hr => XS.iand X20.here hx rfl (hb hby at_134) rfl hr) ?_
  refine Rch.step (st' := T20.setTop (mkF m 137 #[.val (.long vj0), .second, .val (.int vi2), .val (.int vi3), .val (.int vi4), .val (.ref b1), .unset, .unset, .unset, .unset, .unset, .unset, .unset, .unset, .unset, .unset, .unset, .unset, .unset] [(.int (19 : Int32)), (.int (vi2 &&& (2147483647 : Int32)))])) (fun _ hr => XS.bipush X20.here hx rfl (hb hby at_135) hr) ?_
  refine Rch.step (st' := T20.setTop (mkF m 138 #[.val (.long vj0), .second, .val (.int vi2), .val (.int vi3), .val (.int vi4), .val (.ref b1), .unset, .unset, .unset, .unset, .unset, .unset, .unset, .unset, .unset, .unset, .unset, .unset, .unset] [(.int ((vi2 &&& (2147483647 : Int32)) - ((vi2 &&& (2147483647 : Int32)) / (19 : Int32)) * (19 : Int32)))])) (fun _ hr => XS.irem X20.here hx rfl (hb hby at_137) rfl (by decide) hr) ?_
  refine Rch.step (st' := T20.setTop (mkF m 140 #[.val (.long vj0), .second, .val (.int vi2), .val (.int vi3), .val (.int vi4), .val (.ref b1), .val (.int ((vi2 &&& (2147483647 : Int32)) - ((vi2 &&& (2147483647 : Int32)) / (19 : Int32)) * (19 : Int32))), .unset, .unset, .unset, .unset, .unset, .unset, .unset, .unset, .unset, .unset, .unset, .unset] [])) (fun _ hr => XS.istore X20.here hx rfl (hb hby at_138) rfl (l' := #[.val (.long vj0), .second, .val (.int vi2), .val (.int vi3), .val (.int vi4), .val (.ref b1), .val (.int ((vi2 &&& (2147483647 : Int32)) - ((vi2 &&& (2147483647 : Int32)) / (19 : Int32)) * (19 : Int32))), .unset, .unset, .unset, .unset, .unset, .unset, .unset, .unset, .unset, .unset, .unset, .unset]) rfl hr) ?_
  refine Rch.step (st' := T20.setTop (mkF m 142 #[.val (.long vj0), .second, .val (.int vi2), .val (.int vi3), .val (.int vi4), .val (.ref b1), .val (.int ((vi2 &&& (2147483647 : Int32)) - ((vi2 &&& (2147483647 : Int32)) / (19 : Int32)) * (19 : Int32))), .unset, .unset, .unset, .unset, .unset, .unset, .unset, .unset, .unset, .unset, .unset, .unset] [(.int vi4)])) (fun _ hr => XS.iload X20.here hx rfl (hb hby at_140) rfl hr) ?_
  refine Rch.step (st' := T20.setTop (mkF m 143 #[.val (.long vj0), .second, .val (.int vi2), .val (.int vi3), .val (.int vi4), .val (.ref b1), .val (.int ((vi2 &&& (2147483647 : Int32)) - ((vi2 &&& (2147483647 : Int32)) / (19 : Int32)) * (19 : Int32))), .unset, .unset, .unset, .unset, .unset, .unset, .unset, .unset, .unset, .unset, .unset, .unset] [(.int (2 : Int32)), (.int vi4)])) (fun _ hr => XS.iconst X20.here hx rfl (hb hby at_142) hr) ?_
  refine Rch.step (st' := T20.setTop (mkF m 144 #[.val (.long vj0), .second, .val (.int vi2), .val (.int vi3), .val (.int vi4), .val (.ref b1), .val (.int ((vi2 &&& (2147483647 : Int32)) - ((vi2 &&& (2147483647 : Int32)) / (19 : Int32)) * (19 : Int32))), .unset, .unset, .unset, .unset, .unset, .unset, .unset, .unset, .unset, .unset, .unset, .unset] [(.int ((vi4.toUInt32 >>> ((2 : Int32) &&& 31).toUInt32).toInt32))])) (fun _ hr => XS.iushr X20.here hx rfl (hb hby at_143) rfl hr) ?_
  refine Rch.step (st' := T20.setTop (mkF m 146 #[.val (.long vj0), .second, .val (.int vi2), .val (.int vi3), .val (.int vi4), .val (.ref b1), .val (.int ((vi2 &&& (2147483647 : Int32)) - ((vi2 &&& (2147483647 : Int32)) / (19 : Int32)) * (19 : Int32))), .unset, .unset, .unset, .unset, .unset, .unset, .unset, .unset, .unset, .unset, .unset, .unset] [(.int (1073741823 : Int32)), (.int ((vi4.toUInt32 >>> ((2 : Int32) &&& 31).toUInt32).toInt32))])) (fun _ hr => X20.ldcInt hx hown (mvT hZ (hw _ (List.mem_of_getElem? (i := 20) rfl))) (g := (mkF m 144 #[.val (.long vj0), .second, .val (.int vi2), .val (.int vi3), .val (.int vi4), .val (.ref b1), .val (.int ((vi2 &&& (2147483647 : Int32)) - ((vi2 &&& (2147483647 : Int32)) / (19 : Int32)) * (19 : Int32))), .unset, .unset, .unset, .unset, .unset, .unset, .unset, .unset, .unset, .unset, .unset, .unset] [(.int ((vi4.toUInt32 >>> ((2 : Int32) &&& 31).toUInt32).toInt32))])) rfl (hb hby at_144) _ hr) ?_
  refine Rch.step (st' := T20.setTop (mkF m 147 #[.val (.long vj0), .second, .val (.int vi2), .val (.int vi3), .val (.int vi4), .val (.ref b1), .val (.int ((vi2 &&& (2147483647 : Int32)) - ((vi2 &&& (2147483647 : Int32)) / (19 : Int32)) * (19 : Int32))), .unset, .unset, .unset, .unset, .unset, .unset, .unset, .unset, .unset, .unset, .unset, .unset] [(.int (((vi4.toUInt32 >>> ((2 : Int32) &&& 31).toUInt32).toInt32) &&& (1073741823 : Int32)))])) (fun _ hr => XS.iand X20.here hx rfl (hb hby at_146) rfl hr) ?_
  refine Rch.step (st' := T20.setTop (mkF m 149 #[.val (.long vj0), .second, .val (.int vi2), .val (.int vi3), .val (.int vi4), .val (.ref b1), .val (.int ((vi2 &&& (2147483647 : Int32)) - ((vi2 &&& (2147483647 : Int32)) / (19 : Int32)) * (19 : Int32))), .unset, .unset, .unset, .unset, .unset, .unset, .unset, .unset, .unset, .unset, .unset, .unset] [(.int (9 : Int32)), (.int (((vi4.toUInt32 >>> ((2 : Int32) &&& 31).toUInt32).toInt32) &&& (1073741823 : Int32)))])) (fun _ hr => XS.bipush X20.here hx rfl (hb hby at_147) hr) ?_
  refine Rch.step (st' := T20.setTop (mkF m 150 #[.val (.long vj0), .second, .val (.int vi2), .val (.int vi3), .val (.int vi4), .val (.ref b1), .val (.int ((vi2 &&& (2147483647 : Int32)) - ((vi2 &&& (2147483647 : Int32)) / (19 : Int32)) * (19 : Int32))), .unset, .unset, .unset, .unset, .unset, .unset, .unset, .unset, .unset, .unset, .unset, .unset] [(.int ((((vi4.toUInt32 >>> ((2 : Int32) &&& 31).toUInt32).toInt32) &&& (1073741823 : Int32)) - ((((vi4.toUInt32 >>> ((2 : Int32) &&& 31).toUInt32).toInt32) &&& (1073741823 : Int32)) / (9 : Int32)) * (9 : Int32)))])) (fun _ hr => XS.irem X20.here hx rfl (hb hby at_149) rfl (by decide) hr) ?_
  refine Rch.step (st' := T20.setTop (mkF m 151 #[.val (.long vj0), .second, .val (.int vi2), .val (.int vi3), .val (.int vi4), .val (.ref b1), .val (.int ((vi2 &&& (2147483647 : Int32)) - ((vi2 &&& (2147483647 : Int32)) / (19 : Int32)) * (19 : Int32))), .unset, .unset, .unset, .unset, .unset, .unset, .unset, .unset, .unset, .unset, .unset, .unset] [(.int (1 : Int32)), (.int ((((vi4.toUInt32 >>> ((2 : Int32) &&& 31).toUInt32).toInt32) &&& (1073741823 : Int32)) - ((((vi4.toUInt32 >>> ((2 : Int32) &&& 31).toUInt32).toInt32) &&& (1073741823 : Int32)) / (9 : Int32)) * (9 : Int32)))])) (fun _ hr => XS.iconst X20.here hx rfl (hb hby at_150) hr) ?_
  refine Rch.step (st' := T20.setTop (mkF m 152 #[.val (.long vj0), .second, .val (.int vi2), .val (.int vi3), .val (.int vi4), .val (.ref b1), .val (.int ((vi2 &&& (2147483647 : Int32)) - ((vi2 &&& (2147483647 : Int32)) / (19 : Int32)) * (19 : Int32))), .unset, .unset, .unset, .unset, .unset, .unset, .unset, .unset, .unset, .unset, .unset, .unset] [(.int (((((vi4.toUInt32 >>> ((2 : Int32) &&& 31).toUInt32).toInt32) &&& (1073741823 : Int32)) - ((((vi4.toUInt32 >>> ((2 : Int32) &&& 31).toUInt32).toInt32) &&& (1073741823 : Int32)) / (9 : Int32)) * (9 : Int32)) + (1 : Int32)))])) (fun _ hr => XS.iadd X20.here hx rfl (hb hby at_151) rfl hr) ?_
  refine Rch.step (st' := T20.setTop (mkF m 153 #[.val (.long vj0), .second, .val (.int vi2), .val (.int vi3), .val (.int vi4), .val (.ref b1), .val (.int ((vi2 &&& (2147483647 : Int32)) - ((vi2 &&& (2147483647 : Int32)) / (19 : Int32)) * (19 : Int32))), .unset, .unset, .unset, .unset, .unset, .unset, .unset, .unset, .unset, .unset, .unset, .unset] [(.long ((((((vi4.toUInt32 >>> ((2 : Int32) &&& 31).toUInt32).toInt32) &&& (1073741823 : Int32)) - ((((vi4.toUInt32 >>> ((2 : Int32) &&& 31).toUInt32).toInt32) &&& (1073741823 : Int32)) / (9 : Int32)) * (9 : Int32)) + (1 : Int32)).toInt64))])) (fun _ hr => XS.i2l X20.here hx rfl (hb hby at_152) rfl hr) ?_
  refine Rch.step (st' := T20.setTop (mkF m 155 #[.val (.long vj0), .second, .val (.int vi2), .val (.int vi3), .val (.int vi4), .val (.ref b1), .val (.int ((vi2 &&& (2147483647 : Int32)) - ((vi2 &&& (2147483647 : Int32)) / (19 : Int32)) * (19 : Int32))), .val (.long ((((((vi4.toUInt32 >>> ((2 : Int32) &&& 31).toUInt32).toInt32) &&& (1073741823 : Int32)) - ((((vi4.toUInt32 >>> ((2 : Int32) &&& 31).toUInt32).toInt32) &&& (1073741823 : Int32)) / (9 : Int32)) * (9 : Int32)) + (1 : Int32)).toInt64)), .second, .unset, .unset, .unset, .unset, .unset, .unset, .unset, .unset, .unset, .unset] [])) (fun _ hr => XS.lstore X20.here hx rfl (hb hby at_153) rfl (l' := #[.val (.long vj0), .second, .val (.int vi2), .val (.int vi3), .val (.int vi4), .val (.ref b1), .val (.int ((vi2 &&& (2147483647 : Int32)) - ((vi2 &&& (2147483647 : Int32)) / (19 : Int32)) * (19 : Int32))), .val (.long ((((((vi4.toUInt32 >>> ((2 : Int32) &&& 31).toUInt32).toInt32) &&& (1073741823 : Int32)) - ((((vi4.toUInt32 >>> ((2 : Int32) &&& 31).toUInt32).toInt32) &&& (1073741823 : Int32)) / (9 : Int32)) * (9 : Int32)) + (1 : Int32)).toInt64)), .second, .unset, .unset, .unset, .unset, .unset, .unset, .unset, .unset, .unset, .unset]) rfl hr) ?_
  refine Rch.step (st' := T20.setTop (mkF m 156 #[.val (.long vj0), .second, .val (.int vi2), .val (.int vi3), .val (.int vi4), .val (.ref b1), .val (.int ((vi2 &&& (2147483647 : Int32)) - ((vi2 &&& (2147483647 : Int32)) / (19 : Int32)) * (19 : Int32))), .val (.long ((((((vi4.toUInt32 >>> ((2 : Int32) &&& 31).toUInt32).toInt32) &&& (1073741823 : Int32)) - ((((vi4.toUInt32 >>> ((2 : Int32) &&& 31).toUInt32).toInt32) &&& (1073741823 : Int32)) / (9 : Int32)) * (9 : Int32)) + (1 : Int32)).toInt64)), .second, .unset, .unset, .unset, .unset, .unset, .unset, .unset, .unset, .unset, .unset] [(.int vi3)])) (fun _ hr => XS.iloadN X20.here hx rfl (hb hby at_155) rfl hr) ?_
  refine Rch.step (st' := T20.setTop (mkF m 158 #[.val (.long vj0), .second, .val (.int vi2), .val (.int vi3), .val (.int vi4), .val (.ref b1), .val (.int ((vi2 &&& (2147483647 : Int32)) - ((vi2 &&& (2147483647 : Int32)) / (19 : Int32)) * (19 : Int32))), .val (.long ((((((vi4.toUInt32 >>> ((2 : Int32) &&& 31).toUInt32).toInt32) &&& (1073741823 : Int32)) - ((((vi4.toUInt32 >>> ((2 : Int32) &&& 31).toUInt32).toInt32) &&& (1073741823 : Int32)) / (9 : Int32)) * (9 : Int32)) + (1 : Int32)).toInt64)), .second, .unset, .unset, .unset, .unset, .unset, .unset, .unset, .unset, .unset, .unset] [(.int (2147483647 : Int32)), (.int vi3)])) (fun _ hr => X20.ldcInt hx hown (mvT hZ (hw _ (List.mem_of_getElem? (i := 19) rfl))) (g := (mkF m 156 #[.val (.long vj0), .second, .val (.int vi2), .val (.int vi3), .val (.int vi4), .val (.ref b1), .val (.int ((vi2 &&& (2147483647 : Int32)) - ((vi2 &&& (2147483647 : Int32)) / (19 : Int32)) * (19 : Int32))), .val (.long ((((((vi4.toUInt32 >>> ((2 : Int32) &&& 31).toUInt32).toInt32) &&& (1073741823 : Int32)) - ((((vi4.toUInt32 >>> ((2 : Int32) &&& 31).toUInt32).toInt32) &&& (1073741823 : Int32)) / (9 : Int32)) * (9 : Int32)) + (1 : Int32)).toInt64)), .second, .unset, .unset, .unset, .unset, .unset, .unset, .unset, .unset, .unset, .unset] [(.int vi3)])) rfl (hb hby at_156) _ hr) ?_
  refine Rch.step (st' := T20.setTop (mkF m 159 #[.val (.long vj0), .second, .val (.int vi2), .val (.int vi3), .val (.int vi4), .val (.ref b1), .val (.int ((vi2 &&& (2147483647 : Int32)) - ((vi2 &&& (2147483647 : Int32)) / (19 : Int32)) * (19 : Int32))), .val (.long ((((((vi4.toUInt32 >>> ((2 : Int32) &&& 31).toUInt32).toInt32) &&& (1073741823 : Int32)) - ((((vi4.toUInt32 >>> ((2 : Int32) &&& 31).toUInt32).toInt32) &&& (1073741823 : Int32)) / (9 : Int32)) * (9 : Int32)) + (1 : Int32)).toInt64)), .second, .unset, .unset, .unset, .unset, .unset, .unset, .unset, .unset, .unset, .unset] [(.int (vi3 &&& (2147483647 : Int32)))])) (fun _ hr => XS.iand X20.here hx rfl (hb hby at_158) rfl hr) ?_
  refine Rch.step (st' := T20.setTop (mkF m 160 #[.val (.long vj0), .second, .val (.int vi2), .val (.int vi3), .val (.int vi4), .val (.ref b1), .val (.int ((vi2 &&& (2147483647 : Int32)) - ((vi2 &&& (2147483647 : Int32)) / (19 : Int32)) * (19 : Int32))), .val (.long ((((((vi4.toUInt32 >>> ((2 : Int32) &&& 31).toUInt32).toInt32) &&& (1073741823 : Int32)) - ((((vi4.toUInt32 >>> ((2 : Int32) &&& 31).toUInt32).toInt32) &&& (1073741823 : Int32)) / (9 : Int32)) * (9 : Int32)) + (1 : Int32)).toInt64)), .second, .unset, .unset, .unset, .unset, .unset, .unset, .unset, .unset, .unset, .unset] [(.int (3 : Int32)), (.int (vi3 &&& (2147483647 : Int32)))])) (fun _ hr => XS.iconst X20.here hx rfl (hb hby at_159) hr) ?_
  refine Rch.step (st' := T20.setTop (mkF m 161 #[.val (.long vj0), .second, .val (.int vi2), .val (.int vi3), .val (.int vi4), .val (.ref b1), .val (.int ((vi2 &&& (2147483647 : Int32)) - ((vi2 &&& (2147483647 : Int32)) / (19 : Int32)) * (19 : Int32))), .val (.long ((((((vi4.toUInt32 >>> ((2 : Int32) &&& 31).toUInt32).toInt32) &&& (1073741823 : Int32)) - ((((vi4.toUInt32 >>> ((2 : Int32) &&& 31).toUInt32).toInt32) &&& (1073741823 : Int32)) / (9 : Int32)) * (9 : Int32)) + (1 : Int32)).toInt64)), .second, .unset, .unset, .unset, .unset, .unset, .unset, .unset, .unset, .unset, .unset] [(.int ((vi3 &&& (2147483647 : Int32)) - ((vi3 &&& (2147483647 : Int32)) / (3 : Int32)) * (3 : Int32)))])) (fun _ hr => XS.irem X20.here hx rfl (hb hby at_160) rfl (by decide) hr) ?_
  refine Rch.step (st' := T20.setTop (mkF m 162 #[.val (.long vj0), .second, .val (.int vi2), .val (.int vi3), .val (.int vi4), .val (.ref b1), .val (.int ((vi2 &&& (2147483647 : Int32)) - ((vi2 &&& (2147483647 : Int32)) / (19 : Int32)) * (19 : Int32))), .val (.long ((((((vi4.toUInt32 >>> ((2 : Int32) &&& 31).toUInt32).toInt32) &&& (1073741823 : Int32)) - ((((vi4.toUInt32 >>> ((2 : Int32) &&& 31).toUInt32).toInt32) &&& (1073741823 : Int32)) / (9 : Int32)) * (9 : Int32)) + (1 : Int32)).toInt64)), .second, .unset, .unset, .unset, .unset, .unset, .unset, .unset, .unset, .unset, .unset] [(.int (1 : Int32)), (.int ((vi3 &&& (2147483647 : Int32)) - ((vi3 &&& (2147483647 : Int32)) / (3 : Int32)) * (3 : Int32)))])) (fun _ hr => XS.iconst X20.here hx rfl (hb hby at_161) hr) ?_
  refine Rch.step (st' := T20.setTop (mkF m 163 #[.val (.long vj0), .second, .val (.int vi2), .val (.int vi3), .val (.int vi4), .val (.ref b1), .val (.int ((vi2 &&& (2147483647 : Int32)) - ((vi2 &&& (2147483647 : Int32)) / (19 : Int32)) * (19 : Int32))), .val (.long ((((((vi4.toUInt32 >>> ((2 : Int32) &&& 31).toUInt32).toInt32) &&& (1073741823 : Int32)) - ((((vi4.toUInt32 >>> ((2 : Int32) &&& 31).toUInt32).toInt32) &&& (1073741823 : Int32)) / (9 : Int32)) * (9 : Int32)) + (1 : Int32)).toInt64)), .second, .unset, .unset, .unset, .unset, .unset, .unset, .unset, .unset, .unset, .unset] [(.int (((vi3 &&& (2147483647 : Int32)) - ((vi3 &&& (2147483647 : Int32)) / (3 : Int32)) * (3 : Int32)) - (1 : Int32)))])) (fun _ hr => XS.isub X20.here hx rfl (hb hby at_162) rfl hr) ?_
  refine Rch.step (st' := T20.setTop (mkF m 164 #[.val (.long vj0), .second, .val (.int vi2), .val (.int vi3), .val (.int vi4), .val (.ref b1), .val (.int ((vi2 &&& (2147483647 : Int32)) - ((vi2 &&& (2147483647 : Int32)) / (19 : Int32)) * (19 : Int32))), .val (.long ((((((vi4.toUInt32 >>> ((2 : Int32) &&& 31).toUInt32).toInt32) &&& (1073741823 : Int32)) - ((((vi4.toUInt32 >>> ((2 : Int32) &&& 31).toUInt32).toInt32) &&& (1073741823 : Int32)) / (9 : Int32)) * (9 : Int32)) + (1 : Int32)).toInt64)), .second, .unset, .unset, .unset, .unset, .unset, .unset, .unset, .unset, .unset, .unset] [(.long ((((vi3 &&& (2147483647 : Int32)) - ((vi3 &&& (2147483647 : Int32)) / (3 : Int32)) * (3 : Int32)) - (1 : Int32)).toInt64))])) (fun _ hr => XS.i2l X20.here hx rfl (hb hby at_163) rfl hr) ?_
  refine Rch.step (st' := T20.setTop (mkF m 166 #[.val (.long vj0), .second, .val (.int vi2), .val (.int vi3), .val (.int vi4), .val (.ref b1), .val (.int ((vi2 &&& (2147483647 : Int32)) - ((vi2 &&& (2147483647 : Int32)) / (19 : Int32)) * (19 : Int32))), .val (.long ((((((vi4.toUInt32 >>> ((2 : Int32) &&& 31).toUInt32).toInt32) &&& (1073741823 : Int32)) - ((((vi4.toUInt32 >>> ((2 : Int32) &&& 31).toUInt32).toInt32) &&& (1073741823 : Int32)) / (9 : Int32)) * (9 : Int32)) + (1 : Int32)).toInt64)), .second, .val (.long ((((vi3 &&& (2147483647 : Int32)) - ((vi3 &&& (2147483647 : Int32)) / (3 : Int32)) * (3 : Int32)) - (1 : Int32)).toInt64)), .second, .unset, .unset, .unset, .unset, .unset, .unset, .unset, .unset] [])) (fun _ hr => XS.lstore X20.here hx rfl (hb hby at_164) rfl (l' := #[.val (.long vj0), .second, .val (.int vi2), .val (.int vi3), .val (.int vi4), .val (.ref b1), .val (.int ((vi2 &&& (2147483647 : Int32)) - ((vi2 &&& (2147483647 : Int32)) / (19 : Int32)) * (19 : Int32))), .val (.long ((((((vi4.toUInt32 >>> ((2 : Int32) &&& 31).toUInt32).toInt32) &&& (1073741823 : Int32)) - ((((vi4.toUInt32 >>> ((2 : Int32) &&& 31).toUInt32).toInt32) &&& (1073741823 : Int32)) / (9 : Int32)) * (9 : Int32)) + (1 : Int32)).toInt64)), .second, .val (.long ((((vi3 &&& (2147483647 : Int32)) - ((vi3 &&& (2147483647 : Int32)) / (3 : Int32)) * (3 : Int32)) - (1 : Int32)).toInt64)), .second, .unset, .unset, .unset, .unset, .unset, .unset, .unset, .unset]) rfl hr) ?_
  refine Rch.step (st' := T20.setTop (mkF m 168 #[.val (.long vj0), .second, .val (.int vi2), .val (.int vi3), .val (.int vi4), .val (.ref b1), .val (.int ((vi2 &&& (2147483647 : Int32)) - ((vi2 &&& (2147483647 : Int32)) / (19 : Int32)) * (19 : Int32))), .val (.long ((((((vi4.toUInt32 >>> ((2 : Int32) &&& 31).toUInt32).toInt32) &&& (1073741823 : Int32)) - ((((vi4.toUInt32 >>> ((2 : Int32) &&& 31).toUInt32).toInt32) &&& (1073741823 : Int32)) / (9 : Int32)) * (9 : Int32)) + (1 : Int32)).toInt64)), .second, .val (.long ((((vi3 &&& (2147483647 : Int32)) - ((vi3 &&& (2147483647 : Int32)) / (3 : Int32)) * (3 : Int32)) - (1 : Int32)).toInt64)), .second, .unset, .unset, .unset, .unset, .unset, .unset, .unset, .unset] [(.ref b1)])) (fun _ hr => XS.aload X20.here hx rfl (hb hby at_166) rfl rfl hr) ?_
  refine Rch.step (st' := T20.setTop (mkF m 170 #[.val (.long vj0), .second, .val (.int vi2), .val (.int vi3), .val (.int vi4), .val (.ref b1), .val (.int ((vi2 &&& (2147483647 : Int32)) - ((vi2 &&& (2147483647 : Int32)) / (19 : Int32)) * (19 : Int32))), .val (.long ((((((vi4.toUInt32 >>> ((2 : Int32) &&& 31).toUInt32).toInt32) &&& (1073741823 : Int32)) - ((((vi4.toUInt32 >>> ((2 : Int32) &&& 31).toUInt32).toInt32) &&& (1073741823 : Int32)) / (9 : Int32)) * (9 : Int32)) + (1 : Int32)).toInt64)), .second, .val (.long ((((vi3 &&& (2147483647 : Int32)) - ((vi3 &&& (2147483647 : Int32)) / (3 : Int32)) * (3 : Int32)) - (1 : Int32)).toInt64)), .second, .unset, .unset, .unset, .unset, .unset, .unset, .unset, .unset] [(.int ((vi2 &&& (2147483647 : Int32)) - ((vi2 &&& (2147483647 : Int32)) / (19 : Int32)) * (19 : Int32))), (.ref b1)])) (fun _ hr => XS.iload X20.here hx rfl (hb hby at_168) rfl hr) ?_
  refine Rch.step (st' := T20.setTop (mkF m 171 #[.val (.long vj0), .second, .val (.int vi2), .val (.int vi3), .val (.int vi4), .val (.ref b1), .val (.int ((vi2 &&& (2147483647 : Int32)) - ((vi2 &&& (2147483647 : Int32)) / (19 : Int32)) * (19 : Int32))), .val (.long ((((((vi4.toUInt32 >>> ((2 : Int32) &&& 31).toUInt32).toInt32) &&& (1073741823 : Int32)) - ((((vi4.toUInt32 >>> ((2 : Int32) &&& 31).toUInt32).toInt32) &&& (1073741823 : Int32)) / (9 : Int32)) * (9 : Int32)) + (1 : Int32)).toInt64)), .second, .val (.long ((((vi3 &&& (2147483647 : Int32)) - ((vi3 &&& (2147483647 : Int32)) / (3 : Int32)) * (3 : Int32)) - (1 : Int32)).toInt64)), .second, .unset, .unset, .unset, .unset, .unset, .unset, .unset, .unset] [(.long ([(1 : Int64), (10 : Int64), (100 : Int64), (1000 : Int64), (10000 : Int64), (100000 : Int64), (1000000 : Int64), (10000000 : Int64), (100000000 : Int64), (1000000000 : Int64), (10000000000 : Int64), (100000000000 : Int64), (1000000000000 : Int64), (10000000000000 : Int64), (100000000000000 : Int64), (1000000000000000 : Int64), (10000000000000000 : Int64), (100000000000000000 : Int64), (1000000000000000000 : Int64)].getD (((vi2 &&& (2147483647 : Int32)) - ((vi2 &&& (2147483647 : Int32)) / (19 : Int32)) * (19 : Int32))).toNatClampNeg 0))])) (fun _ hr => ldJ X20 hx hZ e20 V_b1_20 (j := ((vi2 &&& (2147483647 : Int32)) - ((vi2 &&& (2147483647 : Int32)) / (19 : Int32)) * (19 : Int32))) (own_e _).1 (own_e _).2 (g := (mkF m 170 #[.val (.long vj0), .second, .val (.int vi2), .val (.int vi3), .val (.int vi4), .val (.ref b1), .val (.int ((vi2 &&& (2147483647 : Int32)) - ((vi2 &&& (2147483647 : Int32)) / (19 : Int32)) * (19 : Int32))), .val (.long ((((((vi4.toUInt32 >>> ((2 : Int32) &&& 31).toUInt32).toInt32) &&& (1073741823 : Int32)) - ((((vi4.toUInt32 >>> ((2 : Int32) &&& 31).toUInt32).toInt32) &&& (1073741823 : Int32)) / (9 : Int32)) * (9 : Int32)) + (1 : Int32)).toInt64)), .second, .val (.long ((((vi3 &&& (2147483647 : Int32)) - ((vi3 &&& (2147483647 : Int32)) / (3 : Int32)) * (3 : Int32)) - (1 : Int32)).toInt64)), .second, .unset, .unset, .unset, .unset, .unset, .unset, .unset, .unset] [(.int ((vi2 &&& (2147483647 : Int32)) - ((vi2 &&& (2147483647 : Int32)) / (19 : Int32)) * (19 : Int32))), (.ref b1)])) rfl rfl (hb hby at_170) _ hr) ?_
  refine Rch.step (st' := T20.setTop (mkF m 173 #[.val (.long vj0), .second, .val (.int vi2), .val (.int vi3), .val (.int vi4), .val (.ref b1), .val (.int ((vi2 &&& (2147483647 : Int32)) - ((vi2 &&& (2147483647 : Int32)) / (19 : Int32)) * (19 : Int32))), .val (.long ((((((vi4.toUInt32 >>> ((2 : Int32) &&& 31).toUInt32).toInt32) &&& (1073741823 : Int32)) - ((((vi4.toUInt32 >>> ((2 : Int32) &&& 31).toUInt32).toInt32) &&& (1073741823 : Int32)) / (9 : Int32)) * (9 : Int32)) + (1 : Int32)).toInt64)), .second, .val (.long ((((vi3 &&& (2147483647 : Int32)) - ((vi3 &&& (2147483647 : Int32)) / (3 : Int32)) * (3 : Int32)) - (1 : Int32)).toInt64)), .second, .unset, .unset, .unset, .unset, .unset, .unset, .unset, .unset] [(.long ((((((vi4.toUInt32 >>> ((2 : Int32) &&& 31).toUInt32).toInt32) &&& (1073741823 : Int32)) - ((((vi4.toUInt32 >>> ((2 : Int32) &&& 31).toUInt32).toInt32) &&& (1073741823 : Int32)) / (9 : Int32)) * (9 : Int32)) + (1 : Int32)).toInt64)), (.long ([(1 : Int64), (10 : Int64), (100 : Int64), (1000 : Int64), (10000 : Int64), (100000 : Int64), (1000000 : Int64), (10000000 : Int64), (100000000 : Int64), (1000000000 : Int64), (10000000000 : Int64), (100000000000 : Int64), (1000000000000 : Int64), (10000000000000 : Int64), (100000000000000 : Int64), (1000000000000000 : Int64), (10000000000000000 : Int64), (100000000000000000 : Int64), (1000000000000000000 : Int64)].getD (((vi2 &&& (2147483647 : Int32)) - ((vi2 &&& (2147483647 : Int32)) / (19 : Int32)) * (19 : Int32))).toNatClampNeg 0))])) (fun _ hr => XS.lload X20.here hx rfl (hb hby at_171) rfl hr) ?_
  refine Rch.step (st' := T20.setTop (mkF m 174 #[.val (.long vj0), .second, .val (.int vi2), .val (.int vi3), .val (.int vi4), .val (.ref b1), .val (.int ((vi2 &&& (2147483647 : Int32)) - ((vi2 &&& (2147483647 : Int32)) / (19 : Int32)) * (19 : Int32))), .val (.long ((((((vi4.toUInt32 >>> ((2 : Int32) &&& 31).toUInt32).toInt32) &&& (1073741823 : Int32)) - ((((vi4.toUInt32 >>> ((2 : Int32) &&& 31).toUInt32).toInt32) &&& (1073741823 : Int32)) / (9 : Int32)) * (9 : Int32)) + (1 : Int32)).toInt64)), .second, .val (.long ((((vi3 &&& (2147483647 : Int32)) - ((vi3 &&& (2147483647 : Int32)) / (3 : Int32)) * (3 : Int32)) - (1 : Int32)).toInt64)), .second, .unset, .unset, .unset, .unset, .unset, .unset, .unset, .unset] [(.long (([(1 : Int64), (10 : Int64), (100 : Int64), (1000 : Int64), (10000 : Int64), (100000 : Int64), (1000000 : Int64), (10000000 : Int64), (100000000 : Int64), (1000000000 : Int64), (10000000000 : Int64), (100000000000 : Int64), (1000000000000 : Int64), (10000000000000 : Int64), (100000000000000 : Int64), (1000000000000000 : Int64), (10000000000000000 : Int64), (100000000000000000 : Int64), (1000000000000000000 : Int64)].getD (((vi2 &&& (2147483647 : Int32)) - ((vi2 &&& (2147483647 : Int32)) / (19 : Int32)) * (19 : Int32))).toNatClampNeg 0) * ((((((vi4.toUInt32 >>> ((2 : Int32) &&& 31).toUInt32).toInt32) &&& (1073741823 : Int32)) - ((((vi4.toUInt32 >>> ((2 : Int32) &&& 31).toUInt32).toInt32) &&& (1073741823 : Int32)) / (9 : Int32)) * (9 : Int32)) + (1 : Int32)).toInt64)))])) (fun _ hr => XS.lmul X20.here hx rfl (hb hby at_173) rfl hr) ?_
  refine Rch.step (st' := T20.setTop (mkF m 176 #[.val (.long vj0), .second, .val (.int vi2), .val (.int vi3), .val (.int vi4), .val (.ref b1), .val (.int ((vi2 &&& (2147483647 : Int32)) - ((vi2 &&& (2147483647 : Int32)) / (19 : Int32)) * (19 : Int32))), .val (.long ((((((vi4.toUInt32 >>> ((2 : Int32) &&& 31).toUInt32).toInt32) &&& (1073741823 : Int32)) - ((((vi4.toUInt32 >>> ((2 : Int32) &&& 31).toUInt32).toInt32) &&& (1073741823 : Int32)) / (9 : Int32)) * (9 : Int32)) + (1 : Int32)).toInt64)), .second, .val (.long ((((vi3 &&& (2147483647 : Int32)) - ((vi3 &&& (2147483647 : Int32)) / (3 : Int32)) * (3 : Int32)) - (1 : Int32)).toInt64)), .second, .unset, .unset, .unset, .unset, .unset, .unset, .unset, .unset] [(.long ((((vi3 &&& (2147483647 : Int32)) - ((vi3 &&& (2147483647 : Int32)) / (3 : Int32)) * (3 : Int32)) - (1 : Int32)).toInt64)), (.long (([(1 : Int64), (10 : Int64), (100 : Int64), (1000 : Int64), (10000 : Int64), (100000 : Int64), (1000000 : Int64), (10000000 : Int64), (100000000 : Int64), (1000000000 : Int64), (10000000000 : Int64), (100000000000 : Int64), (1000000000000 : Int64), (10000000000000 : Int64), (100000000000000 : Int64), (1000000000000000 : Int64), (10000000000000000 : Int64), (100000000000000000 : Int64), (1000000000000000000 : Int64)].getD (((vi2 &&& (2147483647 : Int32)) - ((vi2 &&& (2147483647 : Int32)) / (19 : Int32)) * (19 : Int32))).toNatClampNeg 0) * ((((((vi4.toUInt32 >>> ((2 : Int32) &&& 31).toUInt32).toInt32) &&& (1073741823 : Int32)) - ((((vi4.toUInt32 >>> ((2 : Int32) &&& 31).toUInt32).toInt32) &&& (1073741823 : Int32)) / (9 : Int32)) * (9 : Int32)) + (1 : Int32)).toInt64)))])) (fun _ hr => XS.lload X20.here hx rfl (hb hby at_174) rfl hr) ?_
  refine Rch.step (st' := T20.setTop (mkF m 177 #[.val (.long vj0), .second, .val (.int vi2), .val (.int vi3), .val (.int vi4), .val (.ref b1), .val (.int ((vi2 &&& (2147483647 : Int32)) - ((vi2 &&& (2147483647 : Int32)) / (19 : Int32)) * (19 : Int32))), .val (.long ((((((vi4.toUInt32 >>> ((2 : Int32) &&& 31).toUInt32).toInt32) &&& (1073741823 : Int32)) - ((((vi4.toUInt32 >>> ((2 : Int32) &&& 31).toUInt32).toInt32) &&& (1073741823 : Int32)) / (9 : Int32)) * (9 : Int32)) + (1 : Int32)).toInt64)), .second, .val (.long ((((vi3 &&& (2147483647 : Int32)) - ((vi3 &&& (2147483647 : Int32)) / (3 : Int32)) * (3 : Int32)) - (1 : Int32)).toInt64)), .second, .unset, .unset, .unset, .unset, .unset, .unset, .unset, .unset] [(.long ((([(1 : Int64), (10 : Int64), (100 : Int64), (1000 : Int64), (10000 : Int64), (100000 : Int64), (1000000 : Int64), (10000000 : Int64), (100000000 : Int64), (1000000000 : Int64), (10000000000 : Int64), (100000000000 : Int64), (1000000000000 : Int64), (10000000000000 : Int64), (100000000000000 : Int64), (1000000000000000 : Int64), (10000000000000000 : Int64), (100000000000000000 : Int64), (1000000000000000000 : Int64)].getD (((vi2 &&& (2147483647 : Int32)) - ((vi2 &&& (2147483647 : Int32)) / (19 : Int32)) * (19 : Int32))).toNatClampNeg 0) * ((((((vi4.toUInt32 >>> ((2 : Int32) &&& 31).toUInt32).toInt32) &&& (1073741823 : Int32)) - ((((vi4.toUInt32 >>> ((2 : Int32) &&& 31).toUInt32).toInt32) &&& (1073741823 : Int32)) / (9 : Int32)) * (9 : Int32)) + (1 : Int32)).toInt64)) + ((((vi3 &&& (2147483647 : Int32)) - ((vi3 &&& (2147483647 : Int32)) / (3 : Int32)) * (3 : Int32)) - (1 : Int32)).toInt64)))])) (fun _ hr => XS.ladd X20.here hx rfl (hb hby at_176) rfl hr) ?_
  refine Rch.step (st' := T20.setTop (mkF m 179 #[.val (.long vj0), .second, .val (.int vi2), .val (.int vi3), .val (.int vi4), .val (.ref b1), .val (.int ((vi2 &&& (2147483647 : Int32)) - ((vi2 &&& (2147483647 : Int32)) / (19 : Int32)) * (19 : Int32))), .val (.long ((((((vi4.toUInt32 >>> ((2 : Int32) &&& 31).toUInt32).toInt32) &&& (1073741823 : Int32)) - ((((vi4.toUInt32 >>> ((2 : Int32) &&& 31).toUInt32).toInt32) &&& (1073741823 : Int32)) / (9 : Int32)) * (9 : Int32)) + (1 : Int32)).toInt64)), .second, .val (.long ((((vi3 &&& (2147483647 : Int32)) - ((vi3 &&& (2147483647 : Int32)) / (3 : Int32)) * (3 : Int32)) - (1 : Int32)).toInt64)), .second, .val (.long ((([(1 : Int64), (10 : Int64), (100 : Int64), (1000 : Int64), (10000 : Int64), (100000 : Int64), (1000000 : Int64), (10000000 : Int64), (100000000 : Int64), (1000000000 : Int64), (10000000000 : Int64), (100000000000 : Int64), (1000000000000 : Int64), (10000000000000 : Int64), (100000000000000 : Int64), (1000000000000000 : Int64), (10000000000000000 : Int64), (100000000000000000 : Int64), (1000000000000000000 : Int64)].getD (((vi2 &&& (2147483647 : Int32)) - ((vi2 &&& (2147483647 : Int32)) / (19 : Int32)) * (19 : Int32))).toNatClampNeg 0) * ((((((vi4.toUInt32 >>> ((2 : Int32) &&& 31).toUInt32).toInt32) &&& (1073741823 : Int32)) - ((((vi4.toUInt32 >>> ((2 : Int32) &&& 31).toUInt32).toInt32) &&& (1073741823 : Int32)) / (9 : Int32)) * (9 : Int32)) + (1 : Int32)).toInt64)) + ((((vi3 &&& (2147483647 : Int32)) - ((vi3 &&& (2147483647 : Int32)) / (3 : Int32)) * (3 : Int32)) - (1 : Int32)).toInt64))), .second, .unset, .unset, .unset, .unset, .unset, .unset] [])) (fun _ hr => XS.lstore X20.here hx rfl (hb hby at_177) rfl (l' := #[.val (.long vj0), .second, .val (.int vi2), .val (.int vi3), .val (.int vi4), .val (.ref b1), .val (.int ((vi2 &&& (2147483647 : Int32)) - ((vi2 &&& (2147483647 : Int32)) / (19 : Int32)) * (19 : Int32))), .val (.long ((((((vi4.toUInt32 >>> ((2 : Int32) &&& 31).toUInt32).toInt32) &&& (1073741823 : Int32)) - ((((vi4.toUInt32 >>> ((2 : Int32) &&& 31).toUInt32).toInt32) &&& (1073741823 : Int32)) / (9 : Int32)) * (9 : Int32)) + (1 : Int32)).toInt64)), .second, .val (.long ((((vi3 &&& (2147483647 : Int32)) - ((vi3 &&& (2147483647 : Int32)) / (3 : Int32)) * (3 : Int32)) - (1 : Int32)).toInt64)), .second, .val (.long ((([(1 : Int64), (10 : Int64), (100 : Int64), (1000 : Int64), (10000 : Int64), (100000 : Int64), (1000000 : Int64), (10000000 : Int64), (100000000 : Int64), (1000000000 : Int64), (10000000000 : Int64), (100000000000 : Int64), (1000000000000 : Int64), (10000000000000 : Int64), (100000000000000 : Int64), (1000000000000000 : Int64), (10000000000000000 : Int64), (100000000000000000 : Int64), (1000000000000000000 : Int64)].getD (((vi2 &&& (2147483647 : Int32)) - ((vi2 &&& (2147483647 : Int32)) / (19 : Int32)) * (19 : Int32))).toNatClampNeg 0) * ((((((vi4.toUInt32 >>> ((2 : Int32) &&& 31).toUInt32).toInt32) &&& (1073741823 : Int32)) - ((((vi4.toUInt32 >>> ((2 : Int32) &&& 31).toUInt32).toInt32) &&& (1073741823 : Int32)) / (9 : Int32)) * (9 : Int32)) + (1 : Int32)).toInt64)) + ((((vi3 &&& (2147483647 : Int32)) - ((vi3 &&& (2147483647 : Int32)) / (3 : Int32)) * (3 : Int32)) - (1 : Int32)).toInt64))), .second, .unset, .unset, .unset, .unset, .unset, .unset]) rfl hr) ?_
  refine Rch.step (st' := T20.setTop (mkF m 181 #[.val (.long vj0), .second, .val (.int vi2), .val (.int vi3), .val (.int vi4), .val (.ref b1), .val (.int ((vi2 &&& (2147483647 : Int32)) - ((vi2 &&& (2147483647 : Int32)) / (19 : Int32)) * (19 : Int32))), .val (.long ((((((vi4.toUInt32 >>> ((2 : Int32) &&& 31).toUInt32).toInt32) &&& (1073741823 : Int32)) - ((((vi4.toUInt32 >>> ((2 : Int32) &&& 31).toUInt32).toInt32) &&& (1073741823 : Int32)) / (9 : Int32)) * (9 : Int32)) + (1 : Int32)).toInt64)), .second, .val (.long ((((vi3 &&& (2147483647 : Int32)) - ((vi3 &&& (2147483647 : Int32)) / (3 : Int32)) * (3 : Int32)) - (1 : Int32)).toInt64)), .second, .val (.long ((([(1 : Int64), (10 : Int64), (100 : Int64), (1000 : Int64), (10000 : Int64), (100000 : Int64), (1000000 : Int64), (10000000 : Int64), (100000000 : Int64), (1000000000 : Int64), (10000000000 : Int64), (100000000000 : Int64), (1000000000000 : Int64), (10000000000000 : Int64), (100000000000000 : Int64), (1000000000000000 : Int64), (10000000000000000 : Int64), (100000000000000000 : Int64), (1000000000000000000 : Int64)].getD (((vi2 &&& (2147483647 : Int32)) - ((vi2 &&& (2147483647 : Int32)) / (19 : Int32)) * (19 : Int32))).toNatClampNeg 0) * ((((((vi4.toUInt32 >>> ((2 : Int32) &&& 31).toUInt32).toInt32) &&& (1073741823 : Int32)) - ((((vi4.toUInt32 >>> ((2 : Int32) &&& 31).toUInt32).toInt32) &&& (1073741823 : Int32)) / (9 : Int32)) * (9 : Int32)) + (1 : Int32)).toInt64)) + ((((vi3 &&& (2147483647 : Int32)) - ((vi3 &&& (2147483647 : Int32)) / (3 : Int32)) * (3 : Int32)) - (1 : Int32)).toInt64))), .second, .unset, .unset, .unset, .unset, .unset, .unset] [(.int vi4)])) (fun _ hr => XS.iload X20.here hx rfl (hb hby at_179) rfl hr) ?_
  refine Rch.step (st' := T20.setTop (mkF m 182 #[.val (.long vj0), .second, .val (.int vi2), .val (.int vi3), .val (.int vi4), .val (.ref b1), .val (.int ((vi2 &&& (2147483647 : Int32)) - ((vi2 &&& (2147483647 : Int32)) / (19 : Int32)) * (19 : Int32))), .val (.long ((((((vi4.toUInt32 >>> ((2 : Int32) &&& 31).toUInt32).toInt32) &&& (1073741823 : Int32)) - ((((vi4.toUInt32 >>> ((2 : Int32) &&& 31).toUInt32).toInt32) &&& (1073741823 : Int32)) / (9 : Int32)) * (9 : Int32)) + (1 : Int32)).toInt64)), .second, .val (.long ((((vi3 &&& (2147483647 : Int32)) - ((vi3 &&& (2147483647 : Int32)) / (3 : Int32)) * (3 : Int32)) - (1 : Int32)).toInt64)), .second, .val (.long ((([(1 : Int64), (10 : Int64), (100 : Int64), (1000 : Int64), (10000 : Int64), (100000 : Int64), (1000000 : Int64), (10000000 : Int64), (100000000 : Int64), (1000000000 : Int64), (10000000000 : Int64), (100000000000 : Int64), (1000000000000 : Int64), (10000000000000 : Int64), (100000000000000 : Int64), (1000000000000000 : Int64), (10000000000000000 : Int64), (100000000000000000 : Int64), (1000000000000000000 : Int64)].getD (((vi2 &&& (2147483647 : Int32)) - ((vi2 &&& (2147483647 : Int32)) / (19 : Int32)) * (19 : Int32))).toNatClampNeg 0) * ((((((vi4.toUInt32 >>> ((2 : Int32) &&& 31).toUInt32).toInt32) &&& (1073741823 : Int32)) - ((((vi4.toUInt32 >>> ((2 : Int32) &&& 31).toUInt32).toInt32) &&& (1073741823 : Int32)) / (9 : Int32)) * (9 : Int32)) + (1 : Int32)).toInt64)) + ((((vi3 &&& (2147483647 : Int32)) - ((vi3 &&& (2147483647 : Int32)) / (3 : Int32)) * (3 : Int32)) - (1 : Int32)).toInt64))), .second, .unset, .unset, .unset, .unset, .unset, .unset] [(.int (1 : Int32)), (.int vi4)])) (fun _ hr => XS.iconst X20.here hx rfl (hb hby at_181) hr) ?_
  refine Rch.step (st' := T20.setTop (mkF m 183 #[.val (.long vj0), .second, .val (.int vi2), .val (.int vi3), .val (.int vi4), .val (.ref b1), .val (.int ((vi2 &&& (2147483647 : Int32)) - ((vi2 &&& (2147483647 : Int32)) / (19 : Int32)) * (19 : Int32))), .val (.long ((((((vi4.toUInt32 >>> ((2 : Int32) &&& 31).toUInt32).toInt32) &&& (1073741823 : Int32)) - ((((vi4.toUInt32 >>> ((2 : Int32) &&& 31).toUInt32).toInt32) &&& (1073741823 : Int32)) / (9 : Int32)) * (9 : Int32)) + (1 : Int32)).toInt64)), .second, .val (.long ((((vi3 &&& (2147483647 : Int32)) - ((vi3 &&& (2147483647 : Int32)) / (3 : Int32)) * (3 : Int32)) - (1 : Int32)).toInt64)), .second, .val (.long ((([(1 : Int64), (10 : Int64), (100 : Int64), (1000 : Int64), (10000 : Int64), (100000 : Int64), (1000000 : Int64), (10000000 : Int64), (100000000 : Int64), (1000000000 : Int64), (10000000000 : Int64), (100000000000 : Int64), (1000000000000 : Int64), (10000000000000 : Int64), (100000000000000 : Int64), (1000000000000000 : Int64), (10000000000000000 : Int64), (100000000000000000 : Int64), (1000000000000000000 : Int64)].getD (((vi2 &&& (2147483647 : Int32)) - ((vi2 &&& (2147483647 : Int32)) / (19 : Int32)) * (19 : Int32))).toNatClampNeg 0) * ((((((vi4.toUInt32 >>> ((2 : Int32) &&& 31).toUInt32).toInt32) &&& (1073741823 : Int32)) - ((((vi4.toUInt32 >>> ((2 : Int32) &&& 31).toUInt32).toInt32) &&& (1073741823 : Int32)) / (9 : Int32)) * (9 : Int32)) + (1 : Int32)).toInt64)) + ((((vi3 &&& (2147483647 : Int32)) - ((vi3 &&& (2147483647 : Int32)) / (3 : Int32)) * (3 : Int32)) - (1 : Int32)).toInt64))), .second, .unset, .unset, .unset, .unset, .unset, .unset] [(.int (vi4 &&& (1 : Int32)))])) (fun _ hr => XS.iand X20.here hx rfl (hb hby at_182) rfl hr) ?_
  by_cases hc21 : (vi4 &&& (1 : Int32)) = (0 : Int32)
  · rw [if_pos hc21]
    refine Rch.step (st' := T20.setTop (mkF m 190 #[.val (.long vj0), .second, .val (.int vi2), .val (.int vi3), .val (.int vi4), .val (.ref b1), .val (.int ((vi2 &&& (2147483647 : Int32)) - ((vi2 &&& (2147483647 : Int32)) / (19 : Int32)) * (19 : Int32))), .val (.long ((((((vi4.toUInt32 >>> ((2 : Int32) &&& 31).toUInt32).toInt32) &&& (1073741823 : Int32)) - ((((vi4.toUInt32 >>> ((2 : Int32) &&& 31).toUInt32).toInt32) &&& (1073741823 : Int32)) / (9 : Int32)) * (9 : Int32)) + (1 : Int32)).toInt64)), .second, .val (.long ((((vi3 &&& (2147483647 : Int32)) - ((vi3 &&& (2147483647 : Int32)) / (3 : Int32)) * (3 : Int32)) - (1 : Int32)).toInt64)), .second, .val (.long ((([(1 : Int64), (10 : Int64), (100 : Int64), (1000 : Int64), (10000 : Int64), (100000 : Int64), (1000000 : Int64), (10000000 : Int64), (100000000 : Int64), (1000000000 : Int64), (10000000000 : Int64), (100000000000 : Int64), (1000000000000 : Int64), (10000000000000 : Int64), (100000000000000 : Int64), (1000000000000000 : Int64), (10000000000000000 : Int64), (100000000000000000 : Int64), (1000000000000000000 : Int64)].getD (((vi2 &&& (2147483647 : Int32)) - ((vi2 &&& (2147483647 : Int32)) / (19 : Int32)) * (19 : Int32))).toNatClampNeg 0) * ((((((vi4.toUInt32 >>> ((2 : Int32) &&& 31).toUInt32).toInt32) &&& (1073741823 : Int32)) - ((((vi4.toUInt32 >>> ((2 : Int32) &&& 31).toUInt32).toInt32) &&& (1073741823 : Int32)) / (9 : Int32)) * (9 : Int32)) + (1 : Int32)).toInt64)) + ((((vi3 &&& (2147483647 : Int32)) - ((vi3 &&& (2147483647 : Int32)) / (3 : Int32)) * (3 : Int32)) - (1 : Int32)).toInt64))), .second, .unset, .unset, .unset, .unset, .unset, .unset] [])) (fun _ hr => XS.ifYes X20.here hx rfl (pc0 := 183) (pc' := 190) rfl (hb hby at_183) rfl ((if0 _ _).trans (teq hc21).1) (by decide) (by decide) hr) ?_
    refine Rch.step (st' := T20.setTop (mkF m 191 #[.val (.long vj0), .second, .val (.int vi2), .val (.int vi3), .val (.int vi4), .val (.ref b1), .val (.int ((vi2 &&& (2147483647 : Int32)) - ((vi2 &&& (2147483647 : Int32)) / (19 : Int32)) * (19 : Int32))), .val (.long ((((((vi4.toUInt32 >>> ((2 : Int32) &&& 31).toUInt32).toInt32) &&& (1073741823 : Int32)) - ((((vi4.toUInt32 >>> ((2 : Int32) &&& 31).toUInt32).toInt32) &&& (1073741823 : Int32)) / (9 : Int32)) * (9 : Int32)) + (1 : Int32)).toInt64)), .second, .val (.long ((((vi3 &&& (2147483647 : Int32)) - ((vi3 &&& (2147483647 : Int32)) / (3 : Int32)) * (3 : Int32)) - (1 : Int32)).toInt64)), .second, .val (.long ((([(1 : Int64), (10 : Int64), (100 : Int64), (1000 : Int64), (10000 : Int64), (100000 : Int64), (1000000 : Int64), (10000000 : Int64), (100000000 : Int64), (1000000000 : Int64), (10000000000 : Int64), (100000000000 : Int64), (1000000000000 : Int64), (10000000000000 : Int64), (100000000000000 : Int64), (1000000000000000 : Int64), (10000000000000000 : Int64), (100000000000000000 : Int64), (1000000000000000000 : Int64)].getD (((vi2 &&& (2147483647 : Int32)) - ((vi2 &&& (2147483647 : Int32)) / (19 : Int32)) * (19 : Int32))).toNatClampNeg 0) * ((((((vi4.toUInt32 >>> ((2 : Int32) &&& 31).toUInt32).toInt32) &&& (1073741823 : Int32)) - ((((vi4.toUInt32 >>> ((2 : Int32) &&& 31).toUInt32).toInt32) &&& (1073741823 : Int32)) / (9 : Int32)) * (9 : Int32)) + (1 : Int32)).toInt64)) + ((((vi3 &&& (2147483647 : Int32)) - ((vi3 &&& (2147483647 : Int32)) / (3 : Int32)) * (3 : Int32)) - (1 : Int32)).toInt64))), .second, .unset, .unset, .unset, .unset, .unset, .unset] [(.int (0 : Int32))])) (fun _ hr => XS.iconst X20.here hx rfl (hb hby at_190) hr) ?_
    exact b0_191 ⟨X20, hx, hZ, hw, hby, hml, hown, hret, hlk, e20, Z20, N20⟩ vj0 vi2 vi3 vi4 b1 ((vi2 &&& (2147483647 : Int32)) - ((vi2 &&& (2147483647 : Int32)) / (19 : Int32)) * (19 : Int32)) ((((((vi4.toUInt32 >>> ((2 : Int32) &&& 31).toUInt32).toInt32) &&& (1073741823 : Int32)) - ((((vi4.toUInt32 >>> ((2 : Int32) &&& 31).toUInt32).toInt32) &&& (1073741823 : Int32)) / (9 : Int32)) * (9 : Int32)) + (1 : Int32)).toInt64) ((((vi3 &&& (2147483647 : Int32)) - ((vi3 &&& (2147483647 : Int32)) / (3 : Int32)) * (3 : Int32)) - (1 : Int32)).toInt64) ((([(1 : Int64), (10 : Int64), (100 : Int64), (1000 : Int64), (10000 : Int64), (100000 : Int64), (1000000 : Int64), (10000000 : Int64), (100000000 : Int64), (1000000000 : Int64), (10000000000 : Int64), (100000000000 : Int64), (1000000000000 : Int64), (10000000000000 : Int64), (100000000000000 : Int64), (1000000000000000 : Int64), (10000000000000000 : Int64), (100000000000000000 : Int64), (1000000000000000000 : Int64)].getD (((vi2 &&& (2147483647 : Int32)) - ((vi2 &&& (2147483647 : Int32)) / (19 : Int32)) * (19 : Int32))).toNatClampNeg 0) * ((((((vi4.toUInt32 >>> ((2 : Int32) &&& 31).toUInt32).toInt32) &&& (1073741823 : Int32)) - ((((vi4.toUInt32 >>> ((2 : Int32) &&& 31).toUInt32).toInt32) &&& (1073741823 : Int32)) / (9 : Int32)) * (9 : Int32)) + (1 : Int32)).toInt64)) + ((((vi3 &&& (2147483647 : Int32)) - ((vi3 &&& (2147483647 : Int32)) / (3 : Int32)) * (3 : Int32)) - (1 : Int32)).toInt64)) (0 : Int32) (19 : Int32) [(1 : Int64), (10 : Int64), (100 : Int64), (1000 : Int64), (10000 : Int64), (100000 : Int64), (1000000 : Int64), (10000000 : Int64), (100000000 : Int64), (1000000000 : Int64), (10000000000 : Int64), (100000000000 : Int64), (1000000000000 : Int64), (10000000000000 : Int64), (100000000000000 : Int64), (1000000000000000 : Int64), (10000000000000000 : Int64), (100000000000000000 : Int64), (1000000000000000000 : Int64)] V_b1_20 low_b1
  · rw [if_neg hc21]
    refine Rch.step (st' := T20.setTop (mkF m 186 #[.val (.long vj0), .second, .val (.int vi2), .val (.int vi3), .val (.int vi4), .val (.ref b1), .val (.int ((vi2 &&& (2147483647 : Int32)) - ((vi2 &&& (2147483647 : Int32)) / (19 : Int32)) * (19 : Int32))), .val (.long ((((((vi4.toUInt32 >>> ((2 : Int32) &&& 31).toUInt32).toInt32) &&& (1073741823 : Int32)) - ((((vi4.toUInt32 >>> ((2 : Int32) &&& 31).toUInt32).toInt32) &&& (1073741823 : Int32)) / (9 : Int32)) * (9 : Int32)) + (1 : Int32)).toInt64)), .second, .val (.long ((((vi3 &&& (2147483647 : Int32)) - ((vi3 &&& (2147483647 : Int32)) / (3 : Int32)) * (3 : Int32)) - (1 : Int32)).toInt64)), .second, .val (.long ((([(1 : Int64), (10 : Int64), (100 : Int64), (1000 : Int64), (10000 : Int64), (100000 : Int64), (1000000 : Int64), (10000000 : Int64), (100000000 : Int64), (1000000000 : Int64), (10000000000 : Int64), (100000000000 : Int64), (1000000000000 : Int64), (10000000000000 : Int64), (100000000000000 : Int64), (1000000000000000 : Int64), (10000000000000000 : Int64), (100000000000000000 : Int64), (1000000000000000000 : Int64)].getD (((vi2 &&& (2147483647 : Int32)) - ((vi2 &&& (2147483647 : Int32)) / (19 : Int32)) * (19 : Int32))).toNatClampNeg 0) * ((((((vi4.toUInt32 >>> ((2 : Int32) &&& 31).toUInt32).toInt32) &&& (1073741823 : Int32)) - ((((vi4.toUInt32 >>> ((2 : Int32) &&& 31).toUInt32).toInt32) &&& (1073741823 : Int32)) / (9 : Int32)) * (9 : Int32)) + (1 : Int32)).toInt64)) + ((((vi3 &&& (2147483647 : Int32)) - ((vi3 &&& (2147483647 : Int32)) / (3 : Int32)) * (3 : Int32)) - (1 : Int32)).toInt64))), .second, .unset, .unset, .unset, .unset, .unset, .unset] [])) (fun _ hr => XS.ifNo X20.here hx rfl (hb hby at_183) rfl ((if0 _ _).trans (feq hc21).1) hr) ?_
    refine Rch.step (st' := T20.setTop (mkF m 187 #[.val (.long vj0), .second, .val (.int vi2), .val (.int vi3), .val (.int vi4), .val (.ref b1), .val (.int ((vi2 &&& (2147483647 : Int32)) - ((vi2 &&& (2147483647 : Int32)) / (19 : Int32)) * (19 : Int32))), .val (.long ((((((vi4.toUInt32 >>> ((2 : Int32) &&& 31).toUInt32).toInt32) &&& (1073741823 : Int32)) - ((((vi4.toUInt32 >>> ((2 : Int32) &&& 31).toUInt32).toInt32) &&& (1073741823 : Int32)) / (9 : Int32)) * (9 : Int32)) + (1 : Int32)).toInt64)), .second, .val (.long ((((vi3 &&& (2147483647 : Int32)) - ((vi3 &&& (2147483647 : Int32)) / (3 : Int32)) * (3 : Int32)) - (1 : Int32)).toInt64)), .second, .val (.long ((([(1 : Int64), (10 : Int64), (100 : Int64), (1000 : Int64), (10000 : Int64), (100000 : Int64), (1000000 : Int64), (10000000 : Int64), (100000000 : Int64), (1000000000 : Int64), (10000000000 : Int64), (100000000000 : Int64), (1000000000000 : Int64), (10000000000000 : Int64), (100000000000000 : Int64), (1000000000000000 : Int64), (10000000000000000 : Int64), (100000000000000000 : Int64), (1000000000000000000 : Int64)].getD (((vi2 &&& (2147483647 : Int32)) - ((vi2 &&& (2147483647 : Int32)) / (19 : Int32)) * (19 : Int32))).toNatClampNeg 0) * ((((((vi4.toUInt32 >>> ((2 : Int32) &&& 31).toUInt32).toInt32) &&& (1073741823 : Int32)) - ((((vi4.toUInt32 >>> ((2 : Int32) &&& 31).toUInt32).toInt32) &&& (1073741823 : Int32)) / (9 : Int32)) * (9 : Int32)) + (1 : Int32)).toInt64)) + ((((vi3 &&& (2147483647 : Int32)) - ((vi3 &&& (2147483647 : Int32)) / (3 : Int32)) * (3 : Int32)) - (1 : Int32)).toInt64))), .second, .unset, .unset, .unset, .unset, .unset, .unset] [(.int (1 : Int32))])) (fun _ hr => XS.iconst X20.here hx rfl (hb hby at_186) hr) ?_
    refine Rch.step (st' := T20.setTop (mkF m 191 #[.val (.long vj0), .second, .val (.int vi2), .val (.int vi3), .val (.int vi4), .val (.ref b1), .val (.int ((vi2 &&& (2147483647 : Int32)) - ((vi2 &&& (2147483647 : Int32)) / (19 : Int32)) * (19 : Int32))), .val (.long ((((((vi4.toUInt32 >>> ((2 : Int32) &&& 31).toUInt32).toInt32) &&& (1073741823 : Int32)) - ((((vi4.toUInt32 >>> ((2 : Int32) &&& 31).toUInt32).toInt32) &&& (1073741823 : Int32)) / (9 : Int32)) * (9 : Int32)) + (1 : Int32)).toInt64)), .second, .val (.long ((((vi3 &&& (2147483647 : Int32)) - ((vi3 &&& (2147483647 : Int32)) / (3 : Int32)) * (3 : Int32)) - (1 : Int32)).toInt64)), .second, .val (.long ((([(1 : Int64), (10 : Int64), (100 : Int64), (1000 : Int64), (10000 : Int64), (100000 : Int64), (1000000 : Int64), (10000000 : Int64), (100000000 : Int64), (1000000000 : Int64), (10000000000 : Int64), (100000000000 : Int64), (1000000000000 : Int64), (10000000000000 : Int64), (100000000000000 : Int64), (1000000000000000 : Int64), (10000000000000000 : Int64), (100000000000000000 : Int64), (1000000000000000000 : Int64)].getD (((vi2 &&& (2147483647 : Int32)) - ((vi2 &&& (2147483647 : Int32)) / (19 : Int32)) * (19 : Int32))).toNatClampNeg 0) * ((((((vi4.toUInt32 >>> ((2 : Int32) &&& 31).toUInt32).toInt32) &&& (1073741823 : Int32)) - ((((vi4.toUInt32 >>> ((2 : Int32) &&& 31).toUInt32).toInt32) &&& (1073741823 : Int32)) / (9 : Int32)) * (9 : Int32)) + (1 : Int32)).toInt64)) + ((((vi3 &&& (2147483647 : Int32)) - ((vi3 &&& (2147483647 : Int32)) / (3 : Int32)) * (3 : Int32)) - (1 : Int32)).toInt64))), .second, .unset, .unset, .unset, .unset, .unset, .unset] [(.int (1 : Int32))])) (fun _ hr => XS.goto X20.here hx rfl (pc0 := 187) (pc' := 191) rfl (hb hby at_187) (by decide) (by decide) hr) ?_
    exact b0_191 ⟨X20, hx, hZ, hw, hby, hml, hown, hret, hlk, e20, Z20, N20⟩ vj0 vi2 vi3 vi4 b1 ((vi2 &&& (2147483647 : Int32)) - ((vi2 &&& (2147483647 : Int32)) / (19 : Int32)) * (19 : Int32)) ((((((vi4.toUInt32 >>> ((2 : Int32) &&& 31).toUInt32).toInt32) &&& (1073741823 : Int32)) - ((((vi4.toUInt32 >>> ((2 : Int32) &&& 31).toUInt32).toInt32) &&& (1073741823 : Int32)) / (9 : Int32)) * (9 : Int32)) + (1 : Int32)).toInt64) ((((vi3 &&& (2147483647 : Int32)) - ((vi3 &&& (2147483647 : Int32)) / (3 : Int32)) * (3 : Int32)) - (1 : Int32)).toInt64) ((([(1 : Int64), (10 : Int64), (100 : Int64), (1000 : Int64), (10000 : Int64), (100000 : Int64), (1000000 : Int64), (10000000 : Int64), (100000000 : Int64), (1000000000 : Int64), (10000000000 : Int64), (100000000000 : Int64), (1000000000000 : Int64), (10000000000000 : Int64), (100000000000000 : Int64), (1000000000000000 : Int64), (10000000000000000 : Int64), (100000000000000000 : Int64), (1000000000000000000 : Int64)].getD (((vi2 &&& (2147483647 : Int32)) - ((vi2 &&& (2147483647 : Int32)) / (19 : Int32)) * (19 : Int32))).toNatClampNeg 0) * ((((((vi4.toUInt32 >>> ((2 : Int32) &&& 31).toUInt32).toInt32) &&& (1073741823 : Int32)) - ((((vi4.toUInt32 >>> ((2 : Int32) &&& 31).toUInt32).toInt32) &&& (1073741823 : Int32)) / (9 : Int32)) * (9 : Int32)) + (1 : Int32)).toInt64)) + ((((vi3 &&& (2147483647 : Int32)) - ((vi3 &&& (2147483647 : Int32)) / (3 : Int32)) * (3 : Int32)) - (1 : Int32)).toInt64)) (1 : Int32) (19 : Int32) [(1 : Int64), (10 : Int64), (100 : Int64), (1000 : Int64), (10000 : Int64), (100000 : Int64), (1000000 : Int64), (10000000 : Int64), (100000000 : Int64), (1000000000 : Int64), (10000000000 : Int64), (100000000000 : Int64), (1000000000000 : Int64), (10000000000000 : Int64), (100000000000000 : Int64), (1000000000000000 : Int64), (10000000000000000 : Int64), (100000000000000000 : Int64), (1000000000000000000 : Int64)] V_b1_20 low_b1
theorem ef0 (m : MethodId) (x0 : Int64) (x1 : Int32) (x2 : Int32) (x3 : Int32) : entryFrame m #[(.long x0), (.int x1), (.int x2), (.int x3)] maxLocals = mkF m 0 #[.val (.long x0), .second, .val (.int x1), .val (.int x2), .val (.int x3), .unset, .unset, .unset, .unset, .unset, .unset, .unset, .unset, .unset, .unset, .unset, .unset, .unset, .unset] [] := by first | (simp [entryFrame, mkF, argsToLocals, Value.category, maxLocals]; done) | rfl
set_option maxRecDepth 65536 in
set_option maxHeartbeats 40000000 in
theorem rm0 (l : Launch) (Z : State) (a0 : Array Value) (hw : ∀ d ∈ tables_1, d.before a0 Z = true) (ws : List Jvm.Cond) (x0 : Int64) (x1 : Int32) (x2 : Int32) (x3 : Int32) (h0 : Heap) (n0 : Nat) (Z0 : n0 ≤ h0.size)  :
    MetFree l x (head1 (Jvm.Cond.code x code maxLocals ret :: ws) room_1) (fun a U => a = #[(.long x0), (.int x1), (.int x2), (.int x3)] ∧ Z.Warmed39 U.vm ∧ U.heap = h0) (fun _ _ _ _ _ => True) (fun _ U o U' => ∃ v L, o = .returned v ∧ PL (f0_0 x0 x1 x2 x3) n0 v U'.heap L ∧ FrameEnd U o U' L room_1.cells room_1.slots) := by
  refine MetFree.of_bodySF (plainFor_of_name pn0) hisR ?_
  intro p e s m args below meth c s₁ Bd hml0 hP hK
  obtain ⟨rfl, hZ, hh⟩ := hP
  have hown : s.vm.findClass "org/lodestream/io/LineWriterDecimalLengthPinLaw" = some m.cls := findClass_of_methodNamed Bd.named
  have e0 : s₁.heap = h0 := by rw [← hh, Bd.state]; rfl
  obtain ⟨s₂, v, L, h1, h2, h3, h4, h5⟩ := b0_0 (T := s₁) ⟨Stand.of_body Bd, Bd.exec, hZ, hw, Bd.bytes, hml0, hown, Bd.returns, BodyLoose.notSynchronized Bd, e0, Z0, Fr.nil n0⟩ x0 x1 x2 x3
  exact ⟨s₂, .returned v, castTop (ef0 m x0 x1 x2 x3) h1, h2, h3, v, L, rfl, h4, h5⟩
theorem own_chain (v L m : Int64) (h : m.toInt = -L.toInt) : f1_12 v L = f1_49 v (f3_0 m) := by
  unfold f1_12 f3_0
  simp only [Int64.lt_iff_toInt_lt, Int64.reduceToInt]
  by_cases h1 : m.toInt < 10
  · rw [if_pos (show (-10 : Int) < L.toInt by omega), if_pos h1]
  rw [if_neg (show ¬ (-10 : Int) < L.toInt by omega), if_neg h1]
  by_cases h2 : m.toInt < 100
  · rw [if_pos (show (-100 : Int) < L.toInt by omega), if_pos h2]
  rw [if_neg (show ¬ (-100 : Int) < L.toInt by omega), if_neg h2]
  by_cases h3 : m.toInt < 1000
  · rw [if_pos (show (-1000 : Int) < L.toInt by omega), if_pos h3]
  rw [if_neg (show ¬ (-1000 : Int) < L.toInt by omega), if_neg h3]
  by_cases h4 : m.toInt < 10000
  · rw [if_pos (show (-10000 : Int) < L.toInt by omega), if_pos h4]
  rw [if_neg (show ¬ (-10000 : Int) < L.toInt by omega), if_neg h4]
  by_cases h5 : m.toInt < 100000
  · rw [if_pos (show (-100000 : Int) < L.toInt by omega), if_pos h5]
  rw [if_neg (show ¬ (-100000 : Int) < L.toInt by omega), if_neg h5]
  by_cases h6 : m.toInt < 1000000
  · rw [if_pos (show (-1000000 : Int) < L.toInt by omega), if_pos h6]
  rw [if_neg (show ¬ (-1000000 : Int) < L.toInt by omega), if_neg h6]
  by_cases h7 : m.toInt < 10000000
  · rw [if_pos (show (-10000000 : Int) < L.toInt by omega), if_pos h7]
  rw [if_neg (show ¬ (-10000000 : Int) < L.toInt by omega), if_neg h7]
  by_cases h8 : m.toInt < 100000000
  · rw [if_pos (show (-100000000 : Int) < L.toInt by omega), if_pos h8]
  rw [if_neg (show ¬ (-100000000 : Int) < L.toInt by omega), if_neg h8]
  by_cases h9 : m.toInt < 1000000000
  · rw [if_pos (show (-1000000000 : Int) < L.toInt by omega), if_pos h9]
  rw [if_neg (show ¬ (-1000000000 : Int) < L.toInt by omega), if_neg h9]
  by_cases h10 : m.toInt < 10000000000
  · rw [if_pos (show (-10000000000 : Int) < L.toInt by omega), if_pos h10]
  rw [if_neg (show ¬ (-10000000000 : Int) < L.toInt by omega), if_neg h10]
  by_cases h11 : m.toInt < 100000000000
  · rw [if_pos (show (-100000000000 : Int) < L.toInt by omega), if_pos h11]
  rw [if_neg (show ¬ (-100000000000 : Int) < L.toInt by omega), if_neg h11]
  by_cases h12 : m.toInt < 1000000000000
  · rw [if_pos (show (-1000000000000 : Int) < L.toInt by omega), if_pos h12]
  rw [if_neg (show ¬ (-1000000000000 : Int) < L.toInt by omega), if_neg h12]
  by_cases h13 : m.toInt < 10000000000000
  · rw [if_pos (show (-10000000000000 : Int) < L.toInt by omega), if_pos h13]
  rw [if_neg (show ¬ (-10000000000000 : Int) < L.toInt by omega), if_neg h13]
  by_cases h14 : m.toInt < 100000000000000
  · rw [if_pos (show (-100000000000000 : Int) < L.toInt by omega), if_pos h14]
  rw [if_neg (show ¬ (-100000000000000 : Int) < L.toInt by omega), if_neg h14]
  by_cases h15 : m.toInt < 1000000000000000
  · rw [if_pos (show (-1000000000000000 : Int) < L.toInt by omega), if_pos h15]
  rw [if_neg (show ¬ (-1000000000000000 : Int) < L.toInt by omega), if_neg h15]
  by_cases h16 : m.toInt < 10000000000000000
  · rw [if_pos (show (-10000000000000000 : Int) < L.toInt by omega), if_pos h16]
  rw [if_neg (show ¬ (-10000000000000000 : Int) < L.toInt by omega), if_neg h16]
  by_cases h17 : m.toInt < 100000000000000000
  · rw [if_pos (show (-100000000000000000 : Int) < L.toInt by omega), if_pos h17]
  rw [if_neg (show ¬ (-100000000000000000 : Int) < L.toInt by omega), if_neg h17]
  by_cases h18 : m.toInt < 1000000000000000000
  · rw [if_pos (show (-1000000000000000000 : Int) < L.toInt by omega), if_pos h18]
  rw [if_neg (show ¬ (-1000000000000000000 : Int) < L.toInt by omega), if_neg h18]
theorem own_eqv (v : Int64) : f1_0 v = f2_0 v := by
  by_cases hm : v = (-9223372036854775808 : Int64)
  · subst hm; decide +kernel
  have hm' : v.toInt ≠ -9223372036854775808 := fun q => hm (Int64.toInt_inj.mp (by rw [q]; rfl))
  have hr := rng64 v
  have hn := c_lneg v
  have hnr := rng64 (-v)
  unfold f1_0 f2_0
  rw [if_neg hm]
  by_cases h0 : v < 0
  · rw [if_pos h0, if_pos h0]
    rw [Int64.lt_iff_toInt_lt] at h0
    simp only [Int64.reduceToInt] at h0
    rw [own_chain v v (-v) (by omega)]
    unfold f1_49
    rw [if_pos (by rw [Int64.lt_iff_toInt_lt]; simp only [Int64.reduceToInt]; exact h0)]
  · rw [if_neg h0, if_neg h0]
    have h0' := h0
    rw [Int64.lt_iff_toInt_lt] at h0
    simp only [Int64.reduceToInt] at h0
    rw [own_chain v (-v) v (by omega)]
    unfold f1_49
    rw [if_neg h0']
theorem own_max : f1_0 (9223372036854775807 : Int64) = 19 := by decide +kernel
theorem own_min : f1_0 (-9223372036854775808 : Int64) = 20 := by decide +kernel
theorem own_206 (a b : Int64) (n : Int32) (ws : List Int64) : f0_206 a b n ws = 1 := by
  unfold f0_206
  rw [own_eqv b, if_pos rfl]
  unfold f0_226
  rw [own_eqv a, if_pos rfl]
  unfold f0_244
  rw [own_min, if_pos rfl, own_max, if_pos rfl]
  rfl
theorem own_law (a : Int64) (b c d : Int32) : f0_0 a b c d = 1 := by
  unfold f0_0 f0_191
  simp [own_206]
set_option maxRecDepth 65536 in
set_option maxHeartbeats 40000000 in
theorem comes_1 {Post : Tables → Env → Array Value → State → Outcome → State → Prop} (hpost : ∀ tb e args s v u, (limb_1_1.after args s (.returned v) u = true ∧ limb_1_2.after args s (.returned v) u = true ∧ True) → FrameEnd s (.returned v) u (Jvm.fieldLocs frame_1_writes args s ++ Jvm.arrayLocs frame_1_arrays args s ++ Jvm.staticLocs frame_1_statics s) 16 128 → Post tb e args s (.returned v) u) :
    ArmFor flags0 classFile x code maxLocals ret World_1 tables_1 room_1 Calls_1 rest_1 Pre_1 Post := by
  intro l hfl _ _ p e ha hc hk s m args below hf hA hF happ hP
  obtain ⟨hcalls, hrest, hpre⟩ := hP
  obtain ⟨-, -, -, hnamed, -, -, -, hat⟩ := (Spec.applies_iff hf).mp happ
  obtain ⟨hg, hn⟩ := and_e (Cond.before_iff.mp (show (Jvm.Cond.and given_1 narrow_1).before args s = true from hpre))
  obtain ⟨g1, g2⟩ := and_e hg
  obtain ⟨g3, g4⟩ := and_e g2
  obtain ⟨g5, g6⟩ := and_e g4
  obtain ⟨g7, g8⟩ := and_e g6
  obtain ⟨w0, w1, w2, w3, rfl⟩ : ∃ w0 w1 w2 w3 : Value, args = #[w0, w1, w2, w3] := by
    have hs : args.size = 4 := by simpa [Cond.value, given_1] using g1
    obtain ⟨L⟩ := args
    match L, hs with
    | [w0, w1, w2, w3], _ => exact ⟨w0, w1, w2, w3, rfl⟩
  have hw := fun d (hd : d ∈ tables_1) => atoms_spec (ws := Jvm.Cond.code x code maxLocals ret :: tables_1) hat d (List.mem_cons_of_mem _ hd)
  obtain ⟨i0, ei0⟩ := isL_v g3
  obtain rfl : w0 = (.long i0) := Option.some.inj ei0
  obtain ⟨i1, ei1⟩ := is_v g5
  obtain rfl : w1 = (.int i1) := Option.some.inj ei1
  obtain ⟨i2, ei2⟩ := is_v g7
  obtain rfl : w2 = (.int i2) := Option.some.inj ei2
  obtain ⟨i3, ei3⟩ := is_v g8
  obtain rfl : w3 = (.int i3) := Option.some.inj ei3
  obtain ⟨n, o, h1, h2, h3, _, L, rfl, ⟨rfl, N⟩, hq⟩ := rm0 l s _ hw tables_1 i0 i1 i2 i3 s.heap s.heap.size (Nat.le_refl _) p e ha hc hk s m _ below hf ((Spec.applies_iff_loose hf).mp happ).1 ⟨rfl, State.Warmed39.refl s, rfl⟩ trivial
  have hlaw := own_law i0 i1 i2 i3
  refine ⟨n, _, h1, h2, h3, hpost _ _ _ _ _ _ ⟨Cond.after_iff.mpr rfl, Cond.after_iff.mpr (eq_i res_at (Term.int_eval (1)) (by rw [hlaw])), trivial⟩ ⟨hq.1, hq.2.1, (hq.2.2.sift fun y hy => Or.inr (N y hy)).mono (by decide) (by decide)⟩⟩
theorem main_1_1 : Claimed_1_1 := comes_1 fun _ _ _ _ _ _ h hF => ⟨h.1, hF⟩
theorem main_1_2 : Claimed_1_2 := comes_1 fun _ _ _ _ _ _ h hF => ⟨h.2.1, hF⟩
end Jvm.Pilot.@@N@@
namespace Jvm.Pilot.@@N@@
open Jvm Jvm.ClassFile Sem Op Lib Jvm.Free Jvm.Stand Jvm.Pilot.@@N@@.Jvm.D
/-! MADE BY PROGRAM (witnessworld.py) out of the Statement's table words and the real class files: 16 classes; the members and pool entries that the words name. The judged class is class 1, her method 3. -/
namespace start1
open Jvm.ClassFile
def u (s : String) : CpInfo := .utf8 (stringToUtf16 s)
/-- a pool by its gaps: so many unusable entries, then the entry; so many at the end -/
def gap : Nat → List CpInfo → List CpInfo
  | 0, r => r
  | n + 1, r => .unusable :: gap n r
def poolList (es : List (Nat × CpInfo)) (last : Nat) : List CpInfo := es.foldr (fun e r => gap e.1 (e.2 :: r)) (gap last [])
def pool (es : List (Nat × CpInfo)) (last : Nat) : Array CpInfo := ⟨poolList es last⟩
def fileOf (pool : Array CpInfo) (this : Nat) (attrs : Array Attribute := #[]) (ms : Array MethodInfo := #[]) (fl : Nat := 33) (sup : Nat := 0) (ifs : Array Nat := #[]) (fds : Array FieldInfo := #[]) : ClassFile where
  minorVersion := 0
  majorVersion := 65
  constantPool := pool
  accessFlags := fl
  thisClass := this
  superClass := sup
  interfaces := ifs
  fields := fds
  methods := ms
  attributes := attrs
def plain (name : String) (sup : Option ClassId) : Class where
  name := name
  kind := .ordinary
  loader := none
  accessFlags := 33
  super := sup
  interfaces := #[]
  cf := none
  fields := #[]
  methods := #[]
  instanceTypes := #[]
  staticTypes := #[]
  resolved := #[]
  callSites := []
  init := .initialized
  statics := none
  mirror := none

def pool0 : Array CpInfo := pool [(5, u "<init>"), (0, u "()V"), (1, .class_ 10), (1, u "java/lang/Object")] 113

def k0m0 : Method := { name := "<init>", desc := "()V", sig := { parameters := [], returnType := none }, accessFlags := 1, code := none }
/-- java/lang/Object -/
def k0 : Class := { plain "java/lang/Object" none with
  accessFlags := 33
  interfaces := #[]
  cf := some (fileOf pool0 8 #[] #[{ accessFlags := 1, nameIndex := 5, descriptorIndex := 6, attributes := #[] }] 33 0 #[] #[])
  fields := #[]
  methods := #[k0m0]
  instanceTypes := #[]
  staticTypes := #[]
  resolved := Array.replicate 124 none
  statics := none }

def pool1 : Array CpInfo := pool [(2, .class_ 4), (1, u "java/lang/Object"), (0, u "<init>"), (0, u "()V"), (0, .long 10), (1, .long 100), (1, .long 1000), (1, .long 10000), (1, .long 100000), (1, .long 1000000), (1, .long 10000000), (1, .long 100000000), (1, .long 1000000000), (1, .long 10000000000), (1, .long 100000000000), (1, .long 1000000000000), (1, .long 10000000000000), (1, .long 100000000000000), (1, .long 1000000000000000), (1, .long 10000000000000000), (1, .long 100000000000000000), (1, .long 1000000000000000000), (3, .long 9223372036854775808), (1, .methodref 48 49), (0, .class_ 50), (0, .nameAndType 51 52), (0, u "org/lodestream/io/LineWriterDecimalLengthPinLaw"), (0, u "digitsOf"), (0, u "(J)I"), (0, .integer 2147483647), (0, .integer 1073741823), (0, .methodref 56 57), (0, .class_ 58), (0, .nameAndType 59 52), (0, u "org/lodestream/io/LineWriter"), (0, u "decimalLength"), (0, .methodref 48 61), (0, .nameAndType 62 52), (0, u "ref"), (0, .long 9223372036854775807), (4, u "law"), (0, u "(JIII)Z")] 4

def k1m0 : Method := { name := "<init>", desc := "()V", sig := { parameters := [], returnType := none }, accessFlags := 2, code := none }
def k1c1 : Code := { maxStack := 4, maxLocals := 2, code := method_2_code, exceptionTable := #[], attributes := #[] }
def k1m1 : Method := { name := "digitsOf", desc := "(J)I", sig := { parameters := [.long], returnType := some .int }, accessFlags := 10, code := some k1c1 }
def k1c2 : Code := { maxStack := 4, maxLocals := 2, code := method_3_code, exceptionTable := #[], attributes := #[] }
def k1m2 : Method := { name := "ref", desc := "(J)I", sig := { parameters := [.long], returnType := some .int }, accessFlags := 10, code := some k1c2 }
def k1c3 : Code := { maxStack := 5, maxLocals := 19, code := code, exceptionTable := #[], attributes := #[] }
def k1m3 : Method := { name := "law", desc := "(JIII)Z", sig := { parameters := [.long, .int, .int, .int], returnType := some .boolean }, accessFlags := 9, code := some k1c3 }
/-- org/lodestream/io/LineWriterDecimalLengthPinLaw -/
def k1 : Class := { plain "org/lodestream/io/LineWriterDecimalLengthPinLaw" (some 0) with
  accessFlags := 49
  interfaces := #[]
  cf := some (fileOf pool1 48 #[] #[{ accessFlags := 2, nameIndex := 5, descriptorIndex := 6, attributes := #[] }, { accessFlags := 10, nameIndex := 51, descriptorIndex := 52, attributes := #[] }, { accessFlags := 10, nameIndex := 62, descriptorIndex := 52, attributes := #[] }, { accessFlags := 9, nameIndex := 68, descriptorIndex := 69, attributes := #[] }] 49 2 #[] #[])
  fields := #[]
  methods := #[k1m0, k1m1, k1m2, k1m3]
  instanceTypes := #[]
  staticTypes := #[]
  resolved := Array.replicate 74 none
  statics := none }

def pool2 : Array CpInfo := pool [(1, .class_ 2), (0, u "java/io/Flushable"), (0, .class_ 4), (0, u "java/lang/Object")] 7

/-- java/io/Flushable -/
def k2 : Class := { plain "java/io/Flushable" (some 0) with
  accessFlags := 1537
  interfaces := #[]
  cf := some (fileOf pool2 1 #[] #[] 1537 3 #[] #[])
  fields := #[]
  methods := #[]
  instanceTypes := #[]
  staticTypes := #[]
  resolved := Array.replicate 12 none
  statics := none }

def pool3 : Array CpInfo := pool [(1, .class_ 2), (0, u "org/lodestream/operator/Sink"), (0, .class_ 4), (0, u "java/lang/Object"), (0, .class_ 6), (0, u "java/io/Flushable")] 12

/-- org/lodestream/operator/Sink -/
def k3 : Class := { plain "org/lodestream/operator/Sink" (some 0) with
  accessFlags := 1537
  interfaces := #[2]
  cf := some (fileOf pool3 1 #[] #[] 1537 3 #[5] #[])
  fields := #[]
  methods := #[]
  instanceTypes := #[]
  staticTypes := #[]
  resolved := Array.replicate 19 none
  statics := none }

def pool4 : Array CpInfo := pool [(1, .class_ 2), (0, u "org/lodestream/io/Output"), (0, .class_ 4), (0, u "java/lang/Object"), (0, .class_ 6), (0, u "org/lodestream/operator/Sink"), (20, .class_ 28), (0, u "org/lodestream/io/Output$Lines"), (0, .class_ 30), (0, u "org/lodestream/io/Output$Prefix")] 3

/-- org/lodestream/io/Output -/
def k4 : Class := { plain "org/lodestream/io/Output" (some 0) with
  accessFlags := 1537
  interfaces := #[3]
  cf := some (fileOf pool4 1 #[.nestMembers #[27, 29]] #[] 1537 3 #[5] #[])
  fields := #[]
  methods := #[]
  instanceTypes := #[]
  staticTypes := #[]
  resolved := Array.replicate 34 none
  statics := none }

def pool5 : Array CpInfo := pool [(1, .class_ 2), (0, u "java/lang/AutoCloseable"), (0, .class_ 4), (0, u "java/lang/Object")] 7

/-- java/lang/AutoCloseable -/
def k5 : Class := { plain "java/lang/AutoCloseable" (some 0) with
  accessFlags := 1537
  interfaces := #[]
  cf := some (fileOf pool5 1 #[] #[] 1537 3 #[] #[])
  fields := #[]
  methods := #[]
  instanceTypes := #[]
  staticTypes := #[]
  resolved := Array.replicate 12 none
  statics := none }

def pool6 : Array CpInfo := pool [(1, .class_ 2), (0, u "java/io/Closeable"), (0, .class_ 4), (0, u "java/lang/Object"), (0, .class_ 6), (0, u "java/lang/AutoCloseable")] 7

/-- java/io/Closeable -/
def k6 : Class := { plain "java/io/Closeable" (some 0) with
  accessFlags := 1537
  interfaces := #[5]
  cf := some (fileOf pool6 1 #[] #[] 1537 3 #[5] #[])
  fields := #[]
  methods := #[]
  instanceTypes := #[]
  staticTypes := #[]
  resolved := Array.replicate 14 none
  statics := none }

def pool7 : Array CpInfo := pool [(2, .class_ 4), (1, u "java/lang/Object"), (2, .class_ 8), (0, u "org/lodestream/io/LineWriter"), (3, u "lines"), (0, u "[B"), (2, u "digits"), (5, u "rows"), (0, u "Ljava/util/concurrent/atomic/AtomicLong;"), (5, u "crc"), (0, u "Ljava/util/zip/CRC32C;"), (1, u "[[Ljava/lang/String;"), (2, u "texts"), (1, u "[[[B"), (2, u "forms"), (2, u "place"), (0, u "Lorg/lodestream/io/Place;"), (10, u "where"), (0, u "Ljava/lang/String;"), (4, u "file"), (0, u "Lorg/lodestream/io/Place$File;"), (7, u "header"), (6, u "headerEnds"), (0, u "I"), (2, u "opening"), (2, u "openingNamed"), (6, u "channel"), (0, u "Ljava/nio/channels/FileChannel;"), (10, u "out"), (0, u "Ljava/io/OutputStream;"), (14, u "started"), (0, u "Z"), (16, u "apart"), (14, u "written"), (0, u "J"), (6, u "lineEnds"), (5, .class_ 168), (1, u "org/lodestream/io/LineWriter$Kept"), (39, .class_ 209), (0, u "org/lodestream/io/LineWriter$Walked"), (42, u "summed"), (2, u "held"), (5, u "rejected"), (0, u "Lorg/lodestream/io/RejectedLines;"), (79, .long 18446744073709551606), (1, .long 10), (131, .class_ 477), (0, u "org/lodestream/io/Output"), (0, .class_ 479), (0, u "java/io/Closeable"), (0, u "BUFFER_SIZE"), (1, u "MAX_LONG_DIGITS"), (1, u "REMEMBERED"), (1, u "KEPT"), (23, u "decimalLength"), (0, u "(J)I")] 46

def k7c0 : Code := { maxStack := 4, maxLocals := 7, code := prog_48_method_34_code, exceptionTable := #[], attributes := #[] }
def k7m0 : Method := { name := "decimalLength", desc := "(J)I", sig := { parameters := [.long], returnType := some .int }, accessFlags := 8, code := some k7c0 }
/-- org/lodestream/io/LineWriter -/
def k7 : Class := { plain "org/lodestream/io/LineWriter" (some 0) with
  accessFlags := 1056
  interfaces := #[4, 6]
  cf := some (fileOf pool7 7 #[.nestMembers #[208, 166]] #[{ accessFlags := 8, nameIndex := 510, descriptorIndex := 511, attributes := #[] }] 1056 2 #[476, 478] #[{ accessFlags := 26, nameIndex := 480, descriptorIndex := 78, attributes := #[] }, { accessFlags := 24, nameIndex := 482, descriptorIndex := 78, attributes := #[] }, { accessFlags := 26, nameIndex := 484, descriptorIndex := 78, attributes := #[] }, { accessFlags := 26, nameIndex := 486, descriptorIndex := 78, attributes := #[] }, { accessFlags := 18, nameIndex := 43, descriptorIndex := 44, attributes := #[] }, { accessFlags := 18, nameIndex := 55, descriptorIndex := 56, attributes := #[] }, { accessFlags := 18, nameIndex := 61, descriptorIndex := 62, attributes := #[] }, { accessFlags := 18, nameIndex := 70, descriptorIndex := 13, attributes := #[] }, { accessFlags := 18, nameIndex := 77, descriptorIndex := 78, attributes := #[] }, { accessFlags := 18, nameIndex := 81, descriptorIndex := 13, attributes := #[] }, { accessFlags := 18, nameIndex := 84, descriptorIndex := 56, attributes := #[] }, { accessFlags := 2, nameIndex := 137, descriptorIndex := 120, attributes := #[] }, { accessFlags := 2, nameIndex := 91, descriptorIndex := 92, attributes := #[] }, { accessFlags := 2, nameIndex := 103, descriptorIndex := 104, attributes := #[] }, { accessFlags := 18, nameIndex := 12, descriptorIndex := 13, attributes := #[] }, { accessFlags := 2, nameIndex := 255, descriptorIndex := 78, attributes := #[] }, { accessFlags := 2, nameIndex := 252, descriptorIndex := 78, attributes := #[] }, { accessFlags := 18, nameIndex := 16, descriptorIndex := 13, attributes := #[] }, { accessFlags := 18, nameIndex := 35, descriptorIndex := 32, attributes := #[] }, { accessFlags := 18, nameIndex := 40, descriptorIndex := 37, attributes := #[] }, { accessFlags := 2, nameIndex := 261, descriptorIndex := 262, attributes := #[] }, { accessFlags := 2, nameIndex := 22, descriptorIndex := 23, attributes := #[] }, { accessFlags := 2, nameIndex := 119, descriptorIndex := 120, attributes := #[] }, { accessFlags := 2, nameIndex := 152, descriptorIndex := 153, attributes := #[] }, { accessFlags := 2, nameIndex := 160, descriptorIndex := 153, attributes := #[] }, { accessFlags := 2, nameIndex := 29, descriptorIndex := 30, attributes := #[] }])
  fields := #[{ name := "BUFFER_SIZE", type := .int, accessFlags := 26, slot := 0, constantValue := 0 }, { name := "MAX_LONG_DIGITS", type := .int, accessFlags := 24, slot := 1, constantValue := 0 }, { name := "REMEMBERED", type := .int, accessFlags := 26, slot := 2, constantValue := 0 }, { name := "KEPT", type := .int, accessFlags := 26, slot := 3, constantValue := 0 }, { name := "place", type := (.object "org/lodestream/io/Place"), accessFlags := 18, slot := 0, constantValue := 0 }, { name := "where", type := (.object "java/lang/String"), accessFlags := 18, slot := 1, constantValue := 0 }, { name := "file", type := (.object "org/lodestream/io/Place$File"), accessFlags := 18, slot := 2, constantValue := 0 }, { name := "header", type := (.array .byte), accessFlags := 18, slot := 3, constantValue := 0 }, { name := "headerEnds", type := .int, accessFlags := 18, slot := 4, constantValue := 0 }, { name := "opening", type := (.array .byte), accessFlags := 18, slot := 5, constantValue := 0 }, { name := "openingNamed", type := (.object "java/lang/String"), accessFlags := 18, slot := 6, constantValue := 0 }, { name := "apart", type := .boolean, accessFlags := 2, slot := 7, constantValue := 0 }, { name := "channel", type := (.object "java/nio/channels/FileChannel"), accessFlags := 2, slot := 8, constantValue := 0 }, { name := "out", type := (.object "java/io/OutputStream"), accessFlags := 2, slot := 9, constantValue := 0 }, { name := "lines", type := (.array .byte), accessFlags := 18, slot := 10, constantValue := 0 }, { name := "held", type := .int, accessFlags := 2, slot := 11, constantValue := 0 }, { name := "summed", type := .int, accessFlags := 2, slot := 12, constantValue := 0 }, { name := "digits", type := (.array .byte), accessFlags := 18, slot := 13, constantValue := 0 }, { name := "texts", type := (.array (.array (.object "java/lang/String"))), accessFlags := 18, slot := 14, constantValue := 0 }, { name := "forms", type := (.array (.array (.array .byte))), accessFlags := 18, slot := 15, constantValue := 0 }, { name := "rejected", type := (.object "org/lodestream/io/RejectedLines"), accessFlags := 2, slot := 16, constantValue := 0 }, { name := "rows", type := (.object "java/util/concurrent/atomic/AtomicLong"), accessFlags := 2, slot := 17, constantValue := 0 }, { name := "started", type := .boolean, accessFlags := 2, slot := 18, constantValue := 0 }, { name := "written", type := .long, accessFlags := 2, slot := 19, constantValue := 0 }, { name := "lineEnds", type := .long, accessFlags := 2, slot := 20, constantValue := 0 }, { name := "crc", type := (.object "java/util/zip/CRC32C"), accessFlags := 2, slot := 21, constantValue := 0 }]
  methods := #[k7m0]
  instanceTypes := #[(.object "org/lodestream/io/Place"), (.object "java/lang/String"), (.object "org/lodestream/io/Place$File"), (.array .byte), .int, (.array .byte), (.object "java/lang/String"), .boolean, (.object "java/nio/channels/FileChannel"), (.object "java/io/OutputStream"), (.array .byte), .int, .int, (.array .byte), (.array (.array (.object "java/lang/String"))), (.array (.array (.array .byte))), (.object "org/lodestream/io/RejectedLines"), (.object "java/util/concurrent/atomic/AtomicLong"), .boolean, .long, .long, (.object "java/util/zip/CRC32C")]
  staticTypes := #[.int, .int, .int, .int]
  resolved := Array.replicate 558 none
  statics := none }

def pool8 : Array CpInfo := pool [(1, u "java/lang/Cloneable"), (0, .class_ 1), (0, u "java/lang/Object"), (0, .class_ 3)] 3

/-- java/lang/Cloneable -/
def k8 : Class := { plain "java/lang/Cloneable" (some 0) with
  accessFlags := 1537
  interfaces := #[]
  cf := some (fileOf pool8 2 #[] #[] 1537 4 #[] #[])
  fields := #[]
  methods := #[]
  instanceTypes := #[]
  staticTypes := #[]
  resolved := Array.replicate 8 none
  statics := none }

def pool9 : Array CpInfo := pool [(1, u "java/io/Serializable"), (0, .class_ 1), (0, u "java/lang/Object"), (0, .class_ 3)] 3

/-- java/io/Serializable -/
def k9 : Class := { plain "java/io/Serializable" (some 0) with
  accessFlags := 1537
  interfaces := #[]
  cf := some (fileOf pool9 2 #[] #[] 1537 4 #[] #[])
  fields := #[]
  methods := #[]
  instanceTypes := #[]
  staticTypes := #[]
  resolved := Array.replicate 8 none
  statics := none }

/-- the primitive byte -/
def k10 : Class := { plain "byte" none with kind := .primitive 'B', accessFlags := 0x411 }
/-- [B -/
def k11 : Class := { plain "[B" (some 0) with kind := .array 10 .byte, interfaces := #[8, 9], accessFlags := 1041 }

/-- the primitive int -/
def k12 : Class := { plain "int" none with kind := .primitive 'I', accessFlags := 0x411 }
/-- [I -/
def k13 : Class := { plain "[I" (some 0) with kind := .array 12 .int, interfaces := #[8, 9], accessFlags := 1041 }

/-- the primitive long -/
def k14 : Class := { plain "long" none with kind := .primitive 'J', accessFlags := 0x411 }
/-- [J -/
def k15 : Class := { plain "[J" (some 0) with kind := .array 14 .long, interfaces := #[8, 9], accessFlags := 1041 }

def heap : Heap := #[]
def classes : Array Class := #[k0, k1, k2, k3, k4, k5, k6, k7, k8, k9, k10, k11, k12, k13, k14, k15]
def interned : List (Array UInt16 × Addr) := []
def slotsUsed : Nat := 0
def theMethod : MethodId := ⟨1, 3⟩
def args0 : Array Value := #[.long 5, .int 7, .int 1, .int 3]
def aboutOver (below : List Frame) : State where
  vm := { classes := classes, interned := interned.toArray }
  heap := heap
  slotsUsed := slotsUsed
  threads := #[{ frames := .invoking theMethod args0 :: below }]
def below0 : List Frame := [.native { method := ⟨0, 0⟩, args := #[] }]
def about1 : State := aboutOver below0
def p0 : Program := .bare "" "" ""
def e0 : Env := launch0.env 0 0 0
theorem w_frames : about1.frames = Frame.invoking theMethod args0 :: below0 := rfl
set_option maxRecDepth 65536 in
theorem w_args : argsFit about1.vm theMethod args0 = true := by decide +kernel
set_option maxRecDepth 65536 in
theorem w_heap : heapFits about1 = true := by decide +kernel
set_option maxRecDepth 65536 in
theorem w_runnable : about1.curStatus? = some .runnable := by decide +kernel
set_option maxRecDepth 65536 in
theorem w_alone : about1.alone = true := by decide +kernel
set_option maxRecDepth 65536 in
theorem w_named : about1.methodNamed? x = some theMethod := by decide +kernel
set_option maxRecDepth 65536 in
theorem w_hears : about1.hears theMethod below0 = true := by decide +kernel
set_option maxRecDepth 65536 in
theorem w_ripe : about1.ripe theMethod args0 below0 = true := by decide +kernel
theorem w_running : about1.status = .running := rfl
set_option maxRecDepth 65536 in
theorem w_room : about1.hasRoom e0.platform room_1 = true :=
  launch0.hasRoom_least _ room_1 (by decide +kernel) (by decide +kernel) (by decide +kernel) (by decide +kernel) (by decide +kernel) (by decide +kernel)
theorem allAtoms_all (ts : List Jvm.Cond) (a : Array Jvm.Value) (st : Jvm.State) : (allAtoms ts).before a st = ts.all (fun c => c.before a st) := by
  induction ts with
  | nil => rfl
  | cons c t ih =>
    show (Jvm.Cond.and c (allAtoms t)).before a st = _
    rw [Jvm.Cond.before_and, ih, List.all_cons]
def words1 : List Jvm.Cond := Jvm.Cond.code x code maxLocals ret :: tables_1
/-- a 'code' word, met by the world's own term for the bytes: nothing is compared byte by byte -/
theorem code_word {y : MethodName} {bytes : ByteArray} {mx : Nat} {rt : Option FieldType} {a : Array Value} {s : State} {m : MethodId} {meth : Method} {c : Code} (h1 : s.methodNamed? y = some m) (h2 : s.vm.method? m = some meth) (h3 : meth.code = some c) (h4 : c.code = bytes)
    (h5 : (c.maxLocals == mx && c.exceptionTable.isEmpty && decide (c.maxStack ≤ mostOperands) && decide (meth.sig.returnType = rt) && !meth.locks && decide (parseMethodDescriptor y.desc = some meth.sig)) = true) : (Jvm.Cond.code y bytes mx rt).before a s = true := by
  simp only [Bool.and_eq_true, beq_iff_eq, Bool.not_eq_true', decide_eq_true_eq] at h5
  obtain ⟨⟨⟨⟨⟨g1, g2⟩, g3⟩, g4⟩, g5⟩, g6⟩ := h5
  simp [Cond.before, Cond.holds, Cond.value, h1, h2, h3, h4, g1, g2, g3, g4, g5, g6]
def isCode : Jvm.Cond → Bool
  | .code _ _ _ _ => true
  | _ => false
theorem all_split {L : List Jvm.Cond} {P : Jvm.Cond → Bool} (h1 : L.all (fun c => isCode c || P c) = true) (h2 : ∀ c ∈ L.filter isCode, P c = true) : L.all P = true := by
  refine List.all_eq_true.mpr fun c hc => ?_
  have h := List.all_eq_true.mp h1 c hc
  rcases Bool.eq_false_or_eq_true (isCode c) with hi | hi
  · exact h2 c (List.mem_filter.mpr ⟨hc, hi⟩)
  · simpa [hi] using h
set_option maxRecDepth 65536 in
theorem w_c0 : (Jvm.Cond.code x code maxLocals ret).before args0 about1 = true := code_word (m := ⟨1, 3⟩) (meth := k1m3) (c := k1c3) (by decide +kernel) rfl rfl rfl (by decide +kernel)
set_option maxRecDepth 65536 in
theorem w_c1 : (Jvm.Cond.code ({ cls := "org/lodestream/io/LineWriter", name := "decimalLength", desc := "(J)I" } : Jvm.MethodName) prog_48_method_34_code (7 : Nat) (Option.some Jvm.ClassFile.FieldType.int)).before args0 about1 = true := code_word (m := ⟨7, 0⟩) (meth := k7m0) (c := k7c0) (by decide +kernel) rfl rfl rfl (by decide +kernel)
set_option maxRecDepth 65536 in
theorem w_c2 : (Jvm.Cond.code ({ cls := "org/lodestream/io/LineWriterDecimalLengthPinLaw", name := "ref", desc := "(J)I" } : Jvm.MethodName) method_3_code (2 : Nat) (Option.some Jvm.ClassFile.FieldType.int)).before args0 about1 = true := code_word (m := ⟨1, 2⟩) (meth := k1m2) (c := k1c2) (by decide +kernel) rfl rfl rfl (by decide +kernel)
set_option maxRecDepth 65536 in
theorem w_c3 : (Jvm.Cond.code ({ cls := "org/lodestream/io/LineWriterDecimalLengthPinLaw", name := "digitsOf", desc := "(J)I" } : Jvm.MethodName) method_2_code (2 : Nat) (Option.some Jvm.ClassFile.FieldType.int)).before args0 about1 = true := code_word (m := ⟨1, 1⟩) (meth := k1m1) (c := k1c1) (by decide +kernel) rfl rfl rfl (by decide +kernel)
def codes1 : List Jvm.Cond := [Jvm.Cond.code x code maxLocals ret, Jvm.Cond.code ({ cls := "org/lodestream/io/LineWriter", name := "decimalLength", desc := "(J)I" } : Jvm.MethodName) prog_48_method_34_code (7 : Nat) (Option.some Jvm.ClassFile.FieldType.int), Jvm.Cond.code ({ cls := "org/lodestream/io/LineWriterDecimalLengthPinLaw", name := "ref", desc := "(J)I" } : Jvm.MethodName) method_3_code (2 : Nat) (Option.some Jvm.ClassFile.FieldType.int), Jvm.Cond.code ({ cls := "org/lodestream/io/LineWriterDecimalLengthPinLaw", name := "digitsOf", desc := "(J)I" } : Jvm.MethodName) method_2_code (2 : Nat) (Option.some Jvm.ClassFile.FieldType.int)]
set_option maxRecDepth 65536 in
theorem codes_eq : words1.filter isCode = codes1 := rfl
theorem w_codes : ∀ c ∈ words1.filter isCode, c.before args0 about1 = true := by
  rw [codes_eq]
  intro c hc
  simp only [codes1, List.mem_cons, List.not_mem_nil, or_false] at hc
  rcases hc with rfl | rfl | rfl | rfl
  · exact w_c0
  · exact w_c1
  · exact w_c2
  · exact w_c3
set_option maxRecDepth 65536 in
theorem w_t1 : (words1.take 24).all (fun c => isCode c || c.before args0 about1) = true := by decide +kernel
set_option maxRecDepth 65536 in
theorem w_t2 : (words1.drop 24).all (fun c => isCode c || c.before args0 about1) = true := by decide +kernel
theorem w_tables : (allAtoms (Jvm.Cond.code x code maxLocals ret :: tables_1)).before args0 about1 = true := by
  rw [allAtoms_all]
  show words1.all (fun c => c.before args0 about1) = true
  refine all_split ?_ w_codes
  rw [← List.take_append_drop 24 words1, List.all_append, w_t1, w_t2]
  rfl
set_option maxRecDepth 65536 in
theorem w_case : (Jvm.Cond.and given_1 narrow_1).before args0 about1 = true := by decide +kernel
theorem w_applies : (headSpec (Jvm.Cond.code x code maxLocals ret :: tables_1) room_1).applies x e0.platform about1 = true :=
  (Spec.applies_iff w_frames).mpr ⟨w_running, w_runnable, w_alone, w_named, w_hears, w_ripe, w_room, w_tables⟩
theorem atStart : AtStart classFile x code maxLocals ret World_1 tables_1 room_1 Calls_1 rest_1 Pre_1 launch0 p0 e0 about1 theMethod args0 below0 :=
  ⟨lists_1, trivial, launch0.admits_env _ _ _, launch0.least_env, fairChoices_fair.cas, fairChoices_fair.clock, w_frames, w_args, w_heap, w_applies, trivial, trivial, w_case⟩
end start1
theorem witness_1 : WitnessClaimed_1 := ⟨start1.p0, start1.e0, start1.about1, start1.theMethod, start1.args0, start1.below0, start1.atStart⟩
end Jvm.Pilot.@@N@@
