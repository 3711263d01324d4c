import JvmDerived
import JvmDerived.Pilot.@@N@@Statement
import JvmDerived.Pilot.@@N@@Code
set_option linter.unusedVariables false
set_option linter.unusedSimpArgs false
namespace Jvm.Pilot.@@N@@
open Jvm Jvm.ClassFile Sem Op Lib Jvm.Free Jvm.Stand Jvm.LawKit Jvm.RoadKit Bundle Jvm.Pilot.@@N@@.Jvm.D
section OwnLayer
/-- the run from A ends, and P holds of how it ends -/
def own_Ends (tb : Tables) (e : Env) (below : List Frame) (P : Outcome → State → Prop) (A : State) : Prop :=
  ∃ s₂ o, Steps tb e below A s₂ ∧ s₂.status = .running ∧ Ended s₂ below o ∧ P o s₂
theorem own_st {tb : Tables} {e : Env} {below : List Frame} {P : Outcome → State → Prop} {A B : State} (h : ∀ t, Steps tb e below B t → Steps tb e below A t) (k : own_Ends tb e below P B) : own_Ends tb e below P A := by
  obtain ⟨s2, o, h1, h2⟩ := k
  exact ⟨s2, o, h _ h1, h2⟩
/-- where the walk stands: the state T, its heap h, k cells and n slots made, nothing below n0 written -/
def own_S (p : Program) (l : Launch) (e : Env) (R : Room) (s : State) (m : MethodId) (args : Array Value) (below : List Frame) (meth : Method) (c : Code) (n0 : Nat) (T : State) (h : Heap) (k n : Nat) : Prop :=
  ∃ locs, Stand p l e R s m args below meth c T locs k n ∧ T.heap = h ∧ Fr n0 locs
def own_P (s : State) (n0 : Nat) (Qf : Option Value → Heap → Prop) (C S : Nat) (o : Outcome) (U' : State) : Prop := ∃ v L, o = .returned v ∧ (Fr n0 L ∧ Qf v U'.heap) ∧ FrameEnd s o U' L C S
/-- a body's contract: called with 'as' at the heap h0 it returns, and Qf holds of what it returns and of the heap -/
def own_Con (l : Launch) (Z : State) (y : MethodName) (bytes : ByteArray) (maxL : Nat) (ret : Option FieldType) (ws : List Jvm.Cond) (rm : Room) (as' : Array Value) (h0 : Heap) (n0 : Nat) (Qf : Option Value → Heap → Prop) : Prop :=
  MetFree l y (head1 (Jvm.Cond.code y bytes maxL ret :: ws) rm) (fun a U => a = as' ∧ Z.Warmed39 U.vm ∧ U.heap = h0) (fun _ _ _ _ _ => True) (fun _ U o U' => ∃ v L, o = .returned v ∧ (Fr n0 L ∧ Qf v U'.heap) ∧ FrameEnd U o U' L rm.cells rm.slots)
variable {p : Program} {l : Launch} {e : Env} {R : Room} {s : State} {m : MethodId} {args : Array Value} {below : List Frame} {meth : Method} {c : Code} {n0 : Nat} {T : State} {h : Heap} {k n : Nat} {Z : State} {a0 : Array Value} {P : Outcome → State → Prop}
theorem own_here (Y : own_S p l e R s m args below meth c n0 T h k n) : At T m c below := by
  obtain ⟨_, X, -⟩ := Y
  exact X.here
theorem own_body {y : MethodName} {bytes : ByteArray} {maxL : Nat} {ret : Option FieldType} {ws : List Jvm.Cond} {rm : Room} {as' : Array Value} {h0 : Heap} {Qf : Option Value → Heap → Prop} (hpn : plainFor y = true)
    (hbody : ∀ (p : Program) (e : Env) (s : State) (m : MethodId) (below : List Frame) (meth : Method) (c : Code) (T : State), p.tables.exec = Jvm.exec → Z.Warmed39 s.vm → c.code = bytes → c.maxLocals = maxL → s.vm.findClass y.cls = some m.cls → meth.name = y.name → meth.sig.returnType = ret → meth.locks = false →
      own_S p l e rm s m as' below meth c n0 T h0 0 0 → own_Ends p.tables e below (own_P s n0 Qf rm.cells rm.slots) (T.setTop (entryFrame m as' maxL))) : own_Con l Z y bytes maxL ret ws rm as' h0 n0 Qf := by
  refine MetFree.of_bodySF hpn hisR ?_
  intro p e s m args below meth c s₁ Bd hml0 hP hK
  obtain ⟨rfl, hZ, hh⟩ := hP
  have hown : s.vm.findClass y.cls = some m.cls := findClass_of_methodNamed Bd.named
  have hnm := (name_of_methodNamed Bd.named Bd.method).1
  exact hbody p e s m below meth c s₁ Bd.exec hZ Bd.bytes hml0 hown hnm Bd.returns Bd.notSynchronized ⟨[], Stand.of_body Bd, by rw [← hh, Bd.state]; rfl, Fr.nil n0⟩
theorem own_leave (Y : own_S p l e R s m args below meth c n0 T h k n) (hlk : meth.locks = false) {v : Option Value} (hv : meth.sig.returnType = none → v = none) {Qf : Option Value → Heap → Prop} {C S : Nat} (hk : k ≤ C) (hn : n ≤ S) (hQ : Qf v h) {A : State}
    (st : ∀ (locs : List Loc) (fs : List Frame), Stand p l e R s m args below meth c T locs k n → (∀ (f : JFrame) (acts : List Action), f.method = m → f.locked = none → f.entered = [] → (doReturn e (T.setTop f) acts v).1 = T.setFrames fs) → Steps p.tables e below A (T.setFrames fs)) : own_Ends p.tables e below (own_P s n0 Qf C S) A := by
  obtain ⟨locs, X, e1, N⟩ := Y
  obtain ⟨fs, hr, hrun, hended, hW, hsame⟩ := X.leave hv hlk
  refine ⟨_, _, st locs fs X hr, hrun, hended, v, locs, rfl, ⟨N, ?_⟩, ⟨_, rfl⟩, hW, hsame.mono hk hn⟩
  show Qf v T.heap
  rw [e1]; exact hQ
theorem own_ret (Y : own_S p l e R s m args below meth c n0 T h k n) (hx : p.tables.exec = Jvm.exec) (hlk : meth.locks = false) {pc : Nat} {Ls : Array Slot} {w : Value} {t : FieldType} {i : Instr} {rest : List Value} (hret : meth.sig.returnType = some t) (hd : decode c.code pc = .ok (i, 1)) (hn : narrow t w = w)
    (hi : (i = .ireturn ∧ (t = .int ∨ t = .boolean ∨ t = .byte ∨ t = .char ∨ t = .short) ∧ ∃ z, w = .int z) ∨ (i = .lreturn ∧ t = .long ∧ ∃ z, w = .long z) ∨ (i = .dreturn ∧ t = .double ∧ ∃ z, w = .double z) ∨ (i = .freturn ∧ t = .float ∧ ∃ z, w = .float z) ∨ (i = .areturn ∧ t.isReference = true ∧ w.isRef = true))
    {Qf : Option Value → Heap → Prop} {C S : Nat} (hk : k ≤ C) (hs : n ≤ S) (hQ : Qf (some w) h) : own_Ends p.tables e below (own_P s n0 Qf C S) (T.setTop (mkF m pc Ls (w :: rest))) :=
  own_leave Y hlk (fun q => by rw [hret] at q; cases q) hk hs hQ fun _ _ X hr => retOut X hx hret hn hi hd hr
theorem own_retI (Y : own_S p l e R s m args below meth c n0 T h k n) (hx : p.tables.exec = Jvm.exec) (hlk : meth.locks = false) {pc : Nat} {Ls : Array Slot} {z : Int32} {rest : List Value} (hret : meth.sig.returnType = some .int) (hd : decode c.code pc = .ok (.ireturn, 1))
    {Qf : Option Value → Heap → Prop} {C S : Nat} (hk : k ≤ C) (hs : n ≤ S) (hQ : Qf (some (.int z)) h) : own_Ends p.tables e below (own_P s n0 Qf C S) (T.setTop (mkF m pc Ls (.int z :: rest))) :=
  own_ret Y hx hlk hret hd rfl (Or.inl ⟨rfl, Or.inl rfl, _, rfl⟩) hk hs hQ
theorem own_retN (Y : own_S p l e R s m args below meth c n0 T h k n) (hx : p.tables.exec = Jvm.exec) (hlk : meth.locks = false) {pc : Nat} {Ls : Array Slot} {z : Int32} {t : FieldType} {rest : List Value} (hret : meth.sig.returnType = some t) (ht : t = .boolean ∨ t = .byte ∨ t = .char ∨ t = .short) (hd : decode c.code pc = .ok (.ireturn, 1))
    {Qf : Option Value → Heap → Prop} {C S : Nat} (hk : k ≤ C) (hs : n ≤ S) (hQ : Qf (some (.int (nar t z))) h) : own_Ends p.tables e below (own_P s n0 Qf C S) (T.setTop (mkF m pc Ls (.int z :: rest))) :=
  own_leave Y hlk (fun q => by rw [hret] at q; cases q) hk hs hQ fun _ _ X hr => retN X hx hret ht hd hr
theorem own_retJ (Y : own_S p l e R s m args below meth c n0 T h k n) (hx : p.tables.exec = Jvm.exec) (hlk : meth.locks = false) {pc : Nat} {Ls : Array Slot} {z : Int64} {rest : List Value} (hret : meth.sig.returnType = some .long) (hd : decode c.code pc = .ok (.lreturn, 1))
    {Qf : Option Value → Heap → Prop} {C S : Nat} (hk : k ≤ C) (hs : n ≤ S) (hQ : Qf (some (.long z)) h) : own_Ends p.tables e below (own_P s n0 Qf C S) (T.setTop (mkF m pc Ls (.long z :: rest))) :=
  own_ret Y hx hlk hret hd rfl (Or.inr (Or.inl ⟨rfl, rfl, _, rfl⟩)) hk hs hQ
theorem own_retA (Y : own_S p l e R s m args below meth c n0 T h k n) (hx : p.tables.exec = Jvm.exec) (hlk : meth.locks = false) {pc : Nat} {Ls : Array Slot} {w : Value} {t : FieldType} {rest : List Value} (hret : meth.sig.returnType = some t) (ht : t.isReference = true) (hw : w.isRef = true) (hn : narrow t w = w) (hd : decode c.code pc = .ok (.areturn, 1))
    {Qf : Option Value → Heap → Prop} {C S : Nat} (hk : k ≤ C) (hs : n ≤ S) (hQ : Qf (some w) h) : own_Ends p.tables e below (own_P s n0 Qf C S) (T.setTop (mkF m pc Ls (w :: rest))) :=
  own_ret Y hx hlk hret hd hn (Or.inr (Or.inr (Or.inr (Or.inr ⟨rfl, ht, hw⟩)))) hk hs hQ
theorem own_retV (Y : own_S p l e R s m args below meth c n0 T h k n) (hx : p.tables.exec = Jvm.exec) (hlk : meth.locks = false) {pc : Nat} {Ls : Array Slot} (hret : meth.sig.returnType = none) (hd : decode c.code pc = .ok (.return_, 1))
    {Qf : Option Value → Heap → Prop} {C S : Nat} (hk : k ≤ C) (hs : n ≤ S) (hQ : Qf none h) : own_Ends p.tables e below (own_P s n0 Qf C S) (T.setTop (mkF m pc Ls [])) :=
  own_leave Y hlk (fun _ => rfl) hk hs hQ fun _ _ X hr => X.returnOut hx hret hd hr
/-! fields -/
theorem own_getF (Y : own_S p l e R s m args below meth c n0 T h k n) (hx : p.tables.exec = Jvm.exec) (hZ : Z.Warmed39 s.vm) {own R0 O f d host : String} {index : Nat} (hown : s.vm.findClass own = some m.cls) (w : (Jvm.Cond.fieldLink own index R0 f d).before a0 Z = true ∨ (Jvm.Cond.fieldLinkNest own index R0 f d host).before a0 Z = true) (via : Via Z R0 O f d) {a : Addr} {v : Value} (F : Fld Z h a O f d v)
    {g : JFrame} (hg : g.method = m) {rest : List Value} (hs : g.stack = .ref a :: rest) (hd : decode c.code g.pc = .ok (.getfield index, 3)) (K : ∀ T', own_S p l e R s m args below meth c n0 T' h k n → own_Ends p.tables e below P (T'.setTop { g with pc := g.pc + 3, stack := v :: rest })) : own_Ends p.tables e below P (T.setTop g) := by
  obtain ⟨locs, X, e1, N⟩ := Y
  obtain ⟨T', X', e', st⟩ := getF X hx hZ hown w via e1 F hg hs hd
  exact own_st st (K T' ⟨locs, X', e', N⟩)
theorem own_putF (Y : own_S p l e R s m args below meth c n0 T h k n) (hx : p.tables.exec = Jvm.exec) (hZ : Z.Warmed39 s.vm) {own R0 O f d host C : String} {index kk : Nat} {ty : FieldType} (hown : s.vm.findClass own = some m.cls) (w : (Jvm.Cond.fieldLink own index R0 f d).before a0 Z = true ∨ (Jvm.Cond.fieldLinkNest own index R0 f d host).before a0 Z = true) (via : Via Z R0 O f d) {a : Addr} {v old : Value} (F : Fld Z h a O f d old) (E : Exa Z h a C)
    (L : (Jvm.Cond.lays C O f d).before a0 Z = true ∨ ((Jvm.Cond.laysFinal C O f d).before a0 Z = true ∧ own = O ∧ meth.name = "<init>")) (wi : (Jvm.Cond.instantiable C kk).before a0 Z = true) (ha : n0 ≤ a) (hty : parseFieldDescriptor d = some ty) (hn : narrow ty v = v) (hf : fits ty v = true) {g : JFrame} (hg : g.method = m) {rest : List Value} (hs : g.stack = v :: .ref a :: rest) (hd : decode c.code g.pc = .ok (.putfield index, 3))
    (K : ∀ T' h', own_S p l e R s m args below meth c n0 T' h' k n → Wr h h' a (Jvm.RoadKit.slotOf Z O f d) v → Fld Z h' a O f d v → own_Ends p.tables e below P (T'.setTop { g with pc := g.pc + 3, stack := rest })) : own_Ends p.tables e below P (T.setTop g) := by
  obtain ⟨locs, X, e1, N⟩ := Y
  obtain ⟨T', h', X', e', W, st⟩ := putF X hx hZ hown w via e1 F E L wi hty hn hf hg hs hd
  exact own_st st (K T' h' ⟨_, X', e', Fr.snoc X' N ha⟩ W (F.same W))
theorem own_putFN (Y : own_S p l e R s m args below meth c n0 T h k n) (hx : p.tables.exec = Jvm.exec) (hZ : Z.Warmed39 s.vm) {own R0 O f d C : String} {index kk : Nat} {ty : FieldType} (hown : s.vm.findClass own = some m.cls) (w : (Jvm.Cond.fieldLink own index R0 f d).before a0 Z = true) (via : Via Z R0 O f d) {a : Addr} {v v' old : Value} (F : Fld Z h a O f d old) (E : Exa Z h a C)
    (L : (Jvm.Cond.lays C O f d).before a0 Z = true ∨ ((Jvm.Cond.laysFinal C O f d).before a0 Z = true ∧ own = O ∧ meth.name = "<init>")) (wi : (Jvm.Cond.instantiable C kk).before a0 Z = true) (ha : n0 ≤ a) (hty : parseFieldDescriptor d = some ty) (hn : narrow ty v = v') (hf : fits ty v' = true) {g : JFrame} (hg : g.method = m) {rest : List Value} (hs : g.stack = v :: .ref a :: rest) (hd : decode c.code g.pc = .ok (.putfield index, 3))
    (K : ∀ T' h', own_S p l e R s m args below meth c n0 T' h' k n → Wr h h' a (Jvm.RoadKit.slotOf Z O f d) v' → Fld Z h' a O f d v' → own_Ends p.tables e below P (T'.setTop { g with pc := g.pc + 3, stack := rest })) : own_Ends p.tables e below P (T.setTop g) := by
  obtain ⟨locs, X, e1, N⟩ := Y
  obtain ⟨T', h', X', e', W, st⟩ := putFN X hx hZ hown w via e1 F E L wi hty hn hf hg hs hd
  exact own_st st (K T' h' ⟨_, X', e', Fr.snoc X' N ha⟩ W (F.same W))
theorem own_getS (Y : own_S p l e R s m args below meth c n0 T h k n) (hx : p.tables.exec = Jvm.exec) (hZ : Z.Warmed39 s.vm) {own R0 O f d host : String} {index : Nat} (hown : s.vm.findClass own = some m.cls) (w : (Jvm.Cond.fieldLink own index R0 f d).before a0 Z = true ∨ (Jvm.Cond.fieldLinkNest own index R0 f d host).before a0 Z = true) (via : Via Z R0 O f d) {v : Value} (F : Sta Z h O f d v)
    {g : JFrame} (hg : g.method = m) (hd : decode c.code g.pc = .ok (.getstatic index, 3)) (K : ∀ T', own_S p l e R s m args below meth c n0 T' h k n → own_Ends p.tables e below P (T'.setTop { g with pc := g.pc + 3, stack := v :: g.stack })) : own_Ends p.tables e below P (T.setTop g) := by
  obtain ⟨locs, X, e1, N⟩ := Y
  obtain ⟨T', X', e', st⟩ := getS2 X hx hZ hown w via e1 F hg hd
  exact own_st st (K T' ⟨locs, X', e', N⟩)
/-! new objects -/
theorem own_new (Y : own_S p l e R s m args below meth c n0 T h k n) (hx : p.tables.exec = Jvm.exec) (hZ : Z.Warmed39 s.vm) {own C : String} {index nn : Nat} (hown : s.vm.findClass own = some m.cls) (w : (Jvm.Cond.classLink own index C).before a0 Z = true) (wi : (Jvm.Cond.instantiable C nn).before a0 Z = true) (wz : (Jvm.Cond.initialized C).before a0 Z = true)
    {g : JFrame} (hg : g.method = m) (hd : decode c.code g.pc = .ok (.new index, 3)) (hc : k + 1 ≤ R.cells) (hl : n + nn ≤ R.slots)
    (K : ∀ T' h' b, b = h.size → own_S p l e R s m args below meth c n0 T' h' (k + 1) (n + nn) → Ext h h' → Exa Z h' b C → (∀ (O nm d : String) (ty : FieldType), Laid Z a0 C O nm d → parseFieldDescriptor d = some ty → Fld Z h' b O nm d (defaultValue ty)) →
      own_Ends p.tables e below P (T'.setTop { g with pc := g.pc + 3, stack := .ref b :: g.stack })) : own_Ends p.tables e below P (T.setTop g) := by
  obtain ⟨locs, X, e1, N⟩ := Y
  obtain ⟨T', h', X', e', E, A, D, -, st⟩ := newO X hx hZ hown w wi wz e1 hg hd hc hl
  exact own_st st (K T' h' _ rfl ⟨locs, X', e', N⟩ E A (fun _ _ _ _ q r => D q r))
theorem own_initO (Y : own_S p l e R s m args below meth c n0 T h k n) (hx : p.tables.exec = Jvm.exec) (hZ : Z.Warmed39 s.vm) {own : String} {idx : Nat} (hown : s.vm.findClass own = some m.cls) (w1 : (Jvm.Cond.methodLink own idx Lib.objectInit).before a0 Z = true) (w2 : (Jvm.Cond.instanceMethod Lib.objectInit).before a0 Z = true) (w3 : (Jvm.Cond.code Lib.objectInit ⟨#[0xb1]⟩ 1 none).before a0 Z = true)
    {g : JFrame} (hg : g.method = m) (hsize : g.locals.size = c.maxLocals) {a : Addr} {rest : List Value} (hs : g.stack = .ref a :: rest) (hd : decode c.code g.pc = .ok (.invokespecial idx, 3)) (hf : 1 ≤ R.frames) {W : Nat} (hW : 2 * g.monitorRoom + (rest.map fun v => v.category).sum ≤ W) (hl : W + 12 ≤ R.locals)
    (K : ∀ T', own_S p l e R s m args below meth c n0 T' h k n → own_Ends p.tables e below P (T'.setTop { g with pc := g.pc + 3, stack := rest })) : own_Ends p.tables e below P (T.setTop g) := by
  obtain ⟨locs, X, e1, N⟩ := Y
  obtain ⟨T', X', e', st⟩ := initO X hx hZ hown w1 w2 w3 e1 hg hsize hs hd hf hW hl
  exact own_st st (K T' ⟨locs, X', e', N⟩)
/-! arrays: the cell's slots are the list vs -/
def own_A (Z : State) (h : Heap) (a : Addr) (ty : FieldType) (vs : List Value) : Prop := ∃ c : Cell, Arr Z h a c ty ∧ c.slots.toList = vs ∧ vs.length < 2 ^ 31
theorem own_A.lt {a : Addr} {ty : FieldType} {vs : List Value} (A : own_A Z h a ty vs) : a < h.size := by obtain ⟨c, A, -⟩ := A; exact A.lt
theorem own_A.ext {h' : Heap} {a : Addr} {ty : FieldType} {vs : List Value} (A : own_A Z h a ty vs) (E : Ext h h') : own_A Z h' a ty vs := by obtain ⟨c, A, r⟩ := A; exact ⟨c, A.ext E, r⟩
theorem own_A.other {h' : Heap} {a b : Addr} {sl : Nat} {v : Value} {ty : FieldType} {vs : List Value} (A : own_A Z h a ty vs) (W : Wr h h' b sl v) (q : a ≠ b) : own_A Z h' a ty vs := by obtain ⟨c, A, r⟩ := A; exact ⟨c, A.other W q, r⟩
theorem own_A.keep {h' : Heap} {a : Addr} {ws : List Addr} {ty : FieldType} {vs : List Value} (A : own_A Z h a ty vs) (K : Keep h h' ws) (q : a ∉ ws) : own_A Z h' a ty vs := by obtain ⟨c, A, r⟩ := A; exact ⟨c, ⟨K.2.1 a c A.1 q, A.2⟩, r⟩
theorem own_sz {c : Cell} {vs : List Value} (q : c.slots.toList = vs) : c.slots.size = vs.length := by rw [← q]; simp
theorem own_in {c : Cell} {vs : List Value} {j : Int32} {i : Nat} (q : c.slots.toList = vs) (hj : ¬ j < 0) (hi : j.toNatClampNeg = i) (hl : i < vs.length) : ¬ (j < 0 ∨ c.slots.size ≤ j.toNatClampNeg) := by
  rw [own_sz q, hi]; intro z; rcases z with z | z
  · exact hj z
  · omega
theorem own_get {c : Cell} {vs : List Value} {j : Int32} {i : Nat} {v : Value} (q : c.slots.toList = vs) (hi : j.toNatClampNeg = i) (hv : vs[i]? = some v) : c.slots[j.toNatClampNeg]? = some v := by
  rw [hi, ← Array.getElem?_toList, q, hv]
theorem own_A.set {h' : Heap} {a : Addr} {ty : FieldType} {vs : List Value} {cl : Cell} {i : Nat} {v : Value} (A : Arr Z h a cl ty) (q : cl.slots.toList = vs) (hl : vs.length < 2 ^ 31) (W : Wr h h' a i v) : own_A Z h' a ty (vs.set i v) :=
  ⟨_, A.same W, by simp [Cell.setSlot, q], by simpa using hl⟩
theorem own_newP (Y : own_S p l e R s m args below meth c n0 T h k n) (hx : p.tables.exec = Jvm.exec) (hZ : Z.Warmed39 s.vm) {aty : ArrayType} (w : (Jvm.Cond.arrayClass (newarray.typeOf aty)).before a0 Z = true) {g : JFrame} (hg : g.method = m) (hd : decode c.code g.pc = .ok (.newarray aty, 2)) {z : Int32} {rest : List Value} (hs : g.stack = .int z :: rest)
    (hz : ¬ z < 0) {nz cap : Nat} (hn : z.toNatClampNeg = nz) (hcap : nz ≤ cap) (hb : cap * 8 ≤ 536870912) (hc : k + 1 ≤ R.cells) (hl : n + cap ≤ R.slots) {ty : FieldType} (hty : newarray.typeOf aty = ty)
    (K : ∀ T' h' b, b = h.size → own_S p l e R s m args below meth c n0 T' h' (k + 1) (n + cap) → Ext h h' → own_A Z h' b ty (List.replicate nz (defaultValue ty)) → own_Ends p.tables e below P (T'.setTop { g with pc := g.pc + 2, stack := .ref b :: rest })) : own_Ends p.tables e below P (T.setTop g) := by
  obtain ⟨locs, X, e1, N⟩ := Y
  subst hty
  obtain ⟨T', h', cA, X', e', E, A, st⟩ := newP X hx hZ w e1 hg hd hs hz (cap := cap) (by rw [hn]; exact hcap) hb hc hl
  refine own_st st (K T' h' _ rfl ⟨locs, X', e', N⟩ E ⟨_, A, ?_, ?_⟩)
  · simp [newA, hn]
  · simp; omega
theorem own_newR (Y : own_S p l e R s m args below meth c n0 T h k n) (hx : p.tables.exec = Jvm.exec) (hZ : Z.Warmed39 s.vm) {own C : String} {index : Nat} (hown : s.vm.findClass own = some m.cls) (w1 : (Jvm.Cond.classLink own index C).before a0 Z = true) (w2 : (Jvm.Cond.arrayOver (.object C)).before a0 Z = true) {g : JFrame} (hg : g.method = m) (hd : decode c.code g.pc = .ok (.anewarray index, 3)) {z : Int32} {rest : List Value} (hs : g.stack = .int z :: rest)
    (hz : ¬ z < 0) {nz cap : Nat} (hn : z.toNatClampNeg = nz) (hcap : nz ≤ cap) (hb : cap * 8 ≤ 536870912) (hc : k + 1 ≤ R.cells) (hl : n + cap ≤ R.slots)
    (K : ∀ T' h' b, b = h.size → own_S p l e R s m args below meth c n0 T' h' (k + 1) (n + cap) → Ext h h' → own_A Z h' b (.object C) (List.replicate nz .null) → own_Ends p.tables e below P (T'.setTop { g with pc := g.pc + 3, stack := .ref b :: rest })) : own_Ends p.tables e below P (T.setTop g) := by
  obtain ⟨locs, X, e1, N⟩ := Y
  obtain ⟨T', h', cA, X', e', E, A, O, st⟩ := newR X hx hZ hown w1 w2 e1 hg hd hs hz (cap := cap) (by rw [hn]; exact hcap) hb hc hl
  refine own_st st (K T' h' _ rfl ⟨locs, X', e', N⟩ E ⟨_, A, ?_, ?_⟩)
  · simp [newA, hn, defaultValue]
  · simp; omega
theorem own_mono (Y : own_S p l e R s m args below meth c n0 T h k n) {k' n' : Nat} (hk : k ≤ k') (hn : n ≤ n') : own_S p l e R s m args below meth c n0 T h k' n' := by
  obtain ⟨locs, X, r⟩ := Y
  exact ⟨locs, { X with same := X.same.mono hk hn }, r⟩
theorem own_stI (Y : own_S p l e R s m args below meth c n0 T h k n) (hx : p.tables.exec = Jvm.exec) (hZ : Z.Warmed39 s.vm) {a : Addr} {vs : List Value} (A : own_A Z h a .int vs) (ha : n0 ≤ a) {j x : Int32} {i : Nat} (hj : ¬ j < 0) (hi : j.toNatClampNeg = i) (hl : i < vs.length) {g : JFrame} (hg : g.method = m) {rest : List Value} (hs : g.stack = .int x :: .int j :: .ref a :: rest) (hd : decode c.code g.pc = .ok (.iastore, 1))
    (K : ∀ T' h', own_S p l e R s m args below meth c n0 T' h' k n → Wr h h' a i (.int x) → own_A Z h' a .int (vs.set i (.int x)) → own_Ends p.tables e below P (T'.setTop { g with pc := g.pc + 1, stack := rest })) : own_Ends p.tables e below P (T.setTop g) := by
  obtain ⟨locs, X, e1, N⟩ := Y
  obtain ⟨cl, A, q, r⟩ := A
  obtain ⟨T', h', X', e', W, st⟩ := stI X hx hZ e1 A (own_in q hj hi hl) hg hs hd
  have W' := W; rw [hi] at W'
  exact own_st st (K T' h' ⟨_, X', e', Fr.snoc X' N ha⟩ W' (own_A.set A q r W'))
theorem own_stJ (Y : own_S p l e R s m args below meth c n0 T h k n) (hx : p.tables.exec = Jvm.exec) (hZ : Z.Warmed39 s.vm) {a : Addr} {vs : List Value} (A : own_A Z h a .long vs) (ha : n0 ≤ a) {j : Int32} {x : Int64} {i : Nat} (hj : ¬ j < 0) (hi : j.toNatClampNeg = i) (hl : i < vs.length) {g : JFrame} (hg : g.method = m) {rest : List Value} (hs : g.stack = .long x :: .int j :: .ref a :: rest) (hd : decode c.code g.pc = .ok (.lastore, 1))
    (K : ∀ T' h', own_S p l e R s m args below meth c n0 T' h' k n → Wr h h' a i (.long x) → own_A Z h' a .long (vs.set i (.long x)) → own_Ends p.tables e below P (T'.setTop { g with pc := g.pc + 1, stack := rest })) : own_Ends p.tables e below P (T.setTop g) := by
  obtain ⟨locs, X, e1, N⟩ := Y
  obtain ⟨cl, A, q, r⟩ := A
  obtain ⟨T', h', X', e', W, st⟩ := stJ X hx hZ e1 A (own_in q hj hi hl) hg hs hd
  have W' := W; rw [hi] at W'
  exact own_st st (K T' h' ⟨_, X', e', Fr.snoc X' N ha⟩ W' (own_A.set A q r W'))
theorem own_stB (Y : own_S p l e R s m args below meth c n0 T h k n) (hx : p.tables.exec = Jvm.exec) (hZ : Z.Warmed39 s.vm) {a : Addr} {vs : List Value} (A : own_A Z h a .byte vs) (ha : n0 ≤ a) {j x : Int32} {i : Nat} (hj : ¬ j < 0) (hi : j.toNatClampNeg = i) (hl : i < vs.length) {g : JFrame} (hg : g.method = m) {rest : List Value} (hs : g.stack = .int x :: .int j :: .ref a :: rest) (hd : decode c.code g.pc = .ok (.bastore, 1))
    (K : ∀ T' h', own_S p l e R s m args below meth c n0 T' h' k n → Wr h h' a i (.int x.toInt8.toInt32) → own_A Z h' a .byte (vs.set i (.int x.toInt8.toInt32)) → own_Ends p.tables e below P (T'.setTop { g with pc := g.pc + 1, stack := rest })) : own_Ends p.tables e below P (T.setTop g) := by
  obtain ⟨locs, X, e1, N⟩ := Y
  obtain ⟨cl, A, q, r⟩ := A
  obtain ⟨T', h', X', e', W, st⟩ := stB X hx hZ e1 A (own_in q hj hi hl) hg hs hd
  have W' := W; rw [hi] at W'
  exact own_st st (K T' h' ⟨_, X', e', Fr.snoc X' N ha⟩ W' (own_A.set A q r W'))
theorem own_stC (Y : own_S p l e R s m args below meth c n0 T h k n) (hx : p.tables.exec = Jvm.exec) (hZ : Z.Warmed39 s.vm) {a : Addr} {vs : List Value} (A : own_A Z h a .char vs) (ha : n0 ≤ a) {j x : Int32} {i : Nat} (hj : ¬ j < 0) (hi : j.toNatClampNeg = i) (hl : i < vs.length) {g : JFrame} (hg : g.method = m) {rest : List Value} (hs : g.stack = .int x :: .int j :: .ref a :: rest) (hd : decode c.code g.pc = .ok (.castore, 1))
    (K : ∀ T' h', own_S p l e R s m args below meth c n0 T' h' k n → Wr h h' a i (.int x.toUInt32.toUInt16.toUInt32.toInt32) → own_A Z h' a .char (vs.set i (.int x.toUInt32.toUInt16.toUInt32.toInt32)) → own_Ends p.tables e below P (T'.setTop { g with pc := g.pc + 1, stack := rest })) : own_Ends p.tables e below P (T.setTop g) := by
  obtain ⟨locs, X, e1, N⟩ := Y
  obtain ⟨cl, A, q, r⟩ := A
  obtain ⟨T', h', X', e', W, st⟩ := stC X hx hZ e1 A (own_in q hj hi hl) hg hs hd
  have W' := W; rw [hi] at W'
  exact own_st st (K T' h' ⟨_, X', e', Fr.snoc X' N ha⟩ W' (own_A.set A q r W'))
theorem own_len (Y : own_S p l e R s m args below meth c n0 T h k n) (hx : p.tables.exec = Jvm.exec) (hZ : Z.Warmed39 s.vm) {a : Addr} {ty : FieldType} {vs : List Value} (A : own_A Z h a ty vs) {z : Int32} (hz : vs.length.toInt32 = z) {g : JFrame} (hg : g.method = m) {rest : List Value} (hs : g.stack = .ref a :: rest) (hd : decode c.code g.pc = .ok (.arraylength, 1))
    (K : own_Ends p.tables e below P (T.setTop { g with pc := g.pc + 1, stack := .int z :: rest })) : own_Ends p.tables e below P (T.setTop g) := by
  obtain ⟨locs, X, e1, N⟩ := Y
  obtain ⟨cl, A, q, r⟩ := A
  refine own_st (fun t => X.arraylength hx (by rw [e1]; exact A.1) (State.isArrayOf_alike hZ.alike A.2.1) hg hs hd t) ?_
  rw [own_sz q, hz]; exact K
theorem own_ldI (Y : own_S p l e R s m args below meth c n0 T h k n) (hx : p.tables.exec = Jvm.exec) (hZ : Z.Warmed39 s.vm) {a : Addr} {vs : List Value} (A : own_A Z h a .int vs) {j : Int32} {i : Nat} (hj : ¬ j < 0) (hi : j.toNatClampNeg = i) (hl : i < vs.length) {v : Value} (hv : vs[i]? = some v) {g : JFrame} (hg : g.method = m) {rest : List Value} (hs : g.stack = .int j :: .ref a :: rest) (hd : decode c.code g.pc = .ok (.iaload, 1))
    (K : own_Ends p.tables e below P (T.setTop { g with pc := g.pc + 1, stack := v :: rest })) : own_Ends p.tables e below P (T.setTop g) := by
  obtain ⟨locs, X, e1, N⟩ := Y
  obtain ⟨cl, A, q, r⟩ := A
  exact own_st (fun t => X.iaload hx (by rw [e1]; exact A.1) (State.isArrayOf_alike hZ.alike A.2.1) A.2.2 (own_in q hj hi hl) (own_get q hi hv) hg hs hd t) K
theorem own_ldB (Y : own_S p l e R s m args below meth c n0 T h k n) (hx : p.tables.exec = Jvm.exec) (hZ : Z.Warmed39 s.vm) {a : Addr} {vs : List Value} (A : own_A Z h a .byte vs) {j : Int32} {i : Nat} (hj : ¬ j < 0) (hi : j.toNatClampNeg = i) (hl : i < vs.length) {v : Value} (hv : vs[i]? = some v) {g : JFrame} (hg : g.method = m) {rest : List Value} (hs : g.stack = .int j :: .ref a :: rest) (hd : decode c.code g.pc = .ok (.baload, 1))
    (K : own_Ends p.tables e below P (T.setTop { g with pc := g.pc + 1, stack := v :: rest })) : own_Ends p.tables e below P (T.setTop g) := by
  obtain ⟨locs, X, e1, N⟩ := Y
  obtain ⟨cl, A, q, r⟩ := A
  exact own_st (fun t => X.baloadBytes hx (by rw [e1]; exact A.1) (State.isArrayOf_alike hZ.alike A.2.1) A.2.2 (own_in q hj hi hl) (own_get q hi hv) hg hs hd t) K
theorem own_ldC (Y : own_S p l e R s m args below meth c n0 T h k n) (hx : p.tables.exec = Jvm.exec) (hZ : Z.Warmed39 s.vm) {a : Addr} {vs : List Value} (A : own_A Z h a .char vs) {j : Int32} {i : Nat} (hj : ¬ j < 0) (hi : j.toNatClampNeg = i) (hl : i < vs.length) {v : Value} (hv : vs[i]? = some v) {g : JFrame} (hg : g.method = m) {rest : List Value} (hs : g.stack = .int j :: .ref a :: rest) (hd : decode c.code g.pc = .ok (.caload, 1))
    (K : own_Ends p.tables e below P (T.setTop { g with pc := g.pc + 1, stack := v :: rest })) : own_Ends p.tables e below P (T.setTop g) := by
  obtain ⟨locs, X, e1, N⟩ := Y
  obtain ⟨cl, A, q, r⟩ := A
  exact own_st (fun t => X.caload hx (by rw [e1]; exact A.1) (State.isArrayOf_alike hZ.alike A.2.1) A.2.2 (own_in q hj hi hl) (own_get q hi hv) hg hs hd t) K
theorem own_ldJ (Y : own_S p l e R s m args below meth c n0 T h k n) (hx : p.tables.exec = Jvm.exec) (hZ : Z.Warmed39 s.vm) {a : Addr} {vs : List Value} (A : own_A Z h a .long vs) {j : Int32} {i : Nat} (hj : ¬ j < 0) (hi : j.toNatClampNeg = i) (hl : i < vs.length) {v : Value} (hv : vs[i]? = some v) {g : JFrame} (hg : g.method = m) {rest : List Value} (hs : g.stack = .int j :: .ref a :: rest) (hd : decode c.code g.pc = .ok (.laload, 1))
    (K : own_Ends p.tables e below P (T.setTop { g with pc := g.pc + 1, stack := v :: rest })) : own_Ends p.tables e below P (T.setTop g) := by
  obtain ⟨locs, X, e1, N⟩ := Y
  obtain ⟨cl, A, q, r⟩ := A
  exact own_st (fun t => X.laload hx (by rw [e1]; exact A.1) (State.isArrayOf_alike hZ.alike A.2.1) A.2.2 (own_in q hj hi hl) (own_get q hi hv) hg hs hd t) K
/-! constants -/
theorem own_ldcI (Y : own_S p l e R s m args below meth c n0 T h k n) (hx : p.tables.exec = Jvm.exec) (hZ : Z.Warmed39 s.vm) {own : String} {index : Nat} {v : Int32} (hown : s.vm.findClass own = some m.cls) (w : (Jvm.Cond.constant own index v).before a0 Z = true) {g : JFrame} (hg : g.method = m) (hd : decode c.code g.pc = .ok (.ldc index, 2))
    (K : own_Ends p.tables e below P (T.setTop { g with pc := g.pc + 2, stack := .int v :: g.stack })) : own_Ends p.tables e below P (T.setTop g) := by
  obtain ⟨locs, X, e1, N⟩ := Y
  exact own_st (X.ldcInt hx hown (mvT hZ w) hg hd) K
theorem own_ldcJ (Y : own_S p l e R s m args below meth c n0 T h k n) (hx : p.tables.exec = Jvm.exec) (hZ : Z.Warmed39 s.vm) {own : String} {index : Nat} {v : Int64} (hown : s.vm.findClass own = some m.cls) (w : (Jvm.Cond.constantLong own index v).before a0 Z = true) {g : JFrame} (hg : g.method = m) (hd : decode c.code g.pc = .ok (.ldc2_w index, 3))
    (K : own_Ends p.tables e below P (T.setTop { g with pc := g.pc + 3, stack := .long v :: g.stack })) : own_Ends p.tables e below P (T.setTop g) := by
  obtain ⟨locs, X, e1, N⟩ := Y
  exact own_st (X.ldc2Long hx hown (mvT hZ w) hg hd) K
theorem own_irem (Y : own_S p l e R s m args below meth c n0 T h k n) (hx : p.tables.exec = Jvm.exec) {g : JFrame} (hg : g.method = m) {x y : Int32} {rest : List Value} (hd : decode c.code g.pc = .ok (.irem, 1)) (hs : g.stack = .int y :: .int x :: rest) (hy : y ≠ 0)
    (K : own_Ends p.tables e below P (T.setTop { g with pc := g.pc + 1, stack := .int (x % y) :: rest })) : own_Ends p.tables e below P (T.setTop g) := by
  obtain ⟨locs, X, e1, N⟩ := Y
  exact own_st (fun t => iremM X hx hg hd hs hy) K
/-! calls by contract -/
theorem own_callS (Y : own_S p l e R s m args below meth c n0 T h k n) (hx : p.tables.exec = Jvm.exec) (hZ : Z.Warmed39 s.vm) {own : String} {index : Nat} {y : MethodName} {bytes : ByteArray} {maxL : Nat} {ret : Option FieldType} (hown : s.vm.findClass own = some m.cls) (wl : (Jvm.Cond.methodLink own index y).before a0 Z = true) (wst : (Jvm.Cond.static y).before a0 Z = true) (wi : (Jvm.Cond.initialized y.cls).before a0 Z = true) (wc : (Jvm.Cond.code y bytes maxL ret).before a0 Z = true)
    (hy : y.cls ≠ "java/lang/invoke/MethodHandle" ∧ y.cls ≠ "java/lang/invoke/VarHandle") {rm : Room} {argsL rest : List Value} {Qf : Option Value → Heap → Prop} (hM : own_Con l Z y bytes maxL ret [] rm argsL.toArray h n0 Qf) {W : Nat} (hfr : rm.frames + 1 ≤ R.frames) (hlo : W + (maxL + 11) + rm.locals ≤ R.locals) (hc : k + rm.cells ≤ R.cells) (hsl : n + rm.slots ≤ R.slots)
    {g : JFrame} (hg : g.method = m) (hsize : g.locals.size = c.maxLocals) (hlen : ∀ sig, parseMethodDescriptor y.desc = some sig → argsL.length = sig.parameters.length) (hs : g.stack = argsL.reverse ++ rest) (hW : 2 * g.monitorRoom + (rest.map fun v => v.category).sum ≤ W) (hd : decode c.code g.pc = .ok (.invokestatic index, 3))
    (K : ∀ T' h' v, own_S p l e R s m args below meth c n0 T' h' (k + rm.cells) (n + rm.slots) → Qf v h' → own_Ends p.tables e below P (T'.setTop { g with pc := g.pc + 3, stack := v.toList ++ rest })) : own_Ends p.tables e below P (T.setTop g) := by
  obtain ⟨locs, X, e1, N⟩ := Y
  obtain ⟨v, vm1, ⟨T', L', k', n'⟩, -, X', ⟨L, hQ, l1, y1, z1⟩, st⟩ := Jvm.LawKit.callS X hx hown (mvT hZ wl) (mvT hZ wst) (mvT hZ wi) (mvT hZ wc) hy (backOf (W := W) (Q := fun v h L => Fr n0 L ∧ Qf v h) hM hZ wc wi hfr hlo) hg hsize hlen hs hW hd (fun _ _ => ⟨rfl, e1, hc, hsl⟩)
  dsimp only [Pt.U, Pt.locs, Pt.cells, Pt.slots] at X' l1 y1 z1 st hQ
  subst l1 y1 z1
  exact own_st st (K T' _ v ⟨_, X', rfl, Fr.app N hQ.1⟩ hQ.2)
theorem own_callN (Y : own_S p l e R s m args below meth c n0 T h k n) (hx : p.tables.exec = Jvm.exec) (hZ : Z.Warmed39 s.vm) {own : String} {index : Nat} {y : MethodName} {bytes : ByteArray} {maxL : Nat} (hy1 : y.name = "<init>") (hown : s.vm.findClass own = some m.cls) (wl : (Jvm.Cond.methodLink own index y).before a0 Z = true) (win : (Jvm.Cond.instanceMethod y).before a0 Z = true) (wi : (Jvm.Cond.initialized y.cls).before a0 Z = true) (wc : (Jvm.Cond.code y bytes maxL none).before a0 Z = true)
    (hy : y.cls ≠ "java/lang/invoke/MethodHandle" ∧ y.cls ≠ "java/lang/invoke/VarHandle") {rm : Room} {a : Addr} {argsL rest : List Value} {Qf : Option Value → Heap → Prop} (hM : own_Con l Z y bytes maxL none [] rm (.ref a :: argsL).toArray h n0 Qf) {W : Nat} (hfr : rm.frames + 1 ≤ R.frames) (hlo : W + (maxL + 11) + rm.locals ≤ R.locals) (hc : k + rm.cells ≤ R.cells) (hsl : n + rm.slots ≤ R.slots)
    {g : JFrame} (hg : g.method = m) (hsize : g.locals.size = c.maxLocals) (hlen : ∀ sig, parseMethodDescriptor y.desc = some sig → argsL.length = sig.parameters.length) (hs : g.stack = argsL.reverse ++ .ref a :: rest) (hW : 2 * g.monitorRoom + (rest.map fun v => v.category).sum ≤ W) (hd : decode c.code g.pc = .ok (.invokespecial index, 3))
    (K : ∀ T' h' v, own_S p l e R s m args below meth c n0 T' h' (k + rm.cells) (n + rm.slots) → Qf v h' → own_Ends p.tables e below P (T'.setTop { g with pc := g.pc + 3, stack := v.toList ++ rest })) : own_Ends p.tables e below P (T.setTop g) := by
  obtain ⟨locs, X, e1, N⟩ := Y
  obtain ⟨v, vm1, ⟨T', L', k', n'⟩, -, X', ⟨L, hQ, l1, y1, z1⟩, st⟩ := X.specialBack hx hy1 hown (mvT hZ wl) (mvT hZ win) (mvT hZ wc) hy (backOf (W := W) (Q := fun v h L => Fr n0 L ∧ Qf v h) hM hZ wc wi hfr hlo) hg hsize (Steps.refl _) hlen hs hW hd (fun _ _ => ⟨rfl, e1, hc, hsl⟩)
  dsimp only [Pt.U, Pt.locs, Pt.cells, Pt.slots] at X' l1 y1 z1 st hQ
  subst l1 y1 z1
  exact own_st (fun t q => st.trans q) (K T' _ v ⟨_, X', rfl, Fr.app N hQ.1⟩ hQ.2)
theorem own_callV (Y : own_S p l e R s m args below meth c n0 T h k n) (hx : p.tables.exec = Jvm.exec) (hZ : Z.Warmed39 s.vm) {own C : String} {index : Nat} {y z : MethodName} {bytes : ByteArray} {maxL : Nat} {ret : Option FieldType} (hown : s.vm.findClass own = some m.cls) (wl : (Jvm.Cond.methodLink own index y).before a0 Z = true) (wd : (Jvm.Cond.declares y).before a0 Z = true) (hnf : NotFace s y) (wse : (Jvm.Cond.selects C y z).before a0 Z = true) (win : (Jvm.Cond.instanceMethod z).before a0 Z = true) (wi : (Jvm.Cond.initialized z.cls).before a0 Z = true) (wc : (Jvm.Cond.code z bytes maxL ret).before a0 Z = true)
    (hy : y.cls ≠ "java/lang/invoke/MethodHandle" ∧ y.cls ≠ "java/lang/invoke/VarHandle") {rm : Room} {a : Addr} (E : Exa Z h a C) {argsL rest : List Value} {Qf : Option Value → Heap → Prop} (hM : own_Con l Z z bytes maxL ret [] rm (.ref a :: argsL).toArray h n0 Qf) {W : Nat} (hfr : rm.frames + 1 ≤ R.frames) (hlo : W + (maxL + 11) + rm.locals ≤ R.locals) (hc : k + rm.cells ≤ R.cells) (hsl : n + rm.slots ≤ R.slots)
    {g : JFrame} (hg : g.method = m) (hsize : g.locals.size = c.maxLocals) (hlen : ∀ sig, parseMethodDescriptor y.desc = some sig → argsL.length = sig.parameters.length) (hs : g.stack = argsL.reverse ++ .ref a :: rest) (hW : 2 * g.monitorRoom + (rest.map fun v => v.category).sum ≤ W) (hd : decode c.code g.pc = .ok (.invokevirtual index, 3))
    (K : ∀ T' h' v, own_S p l e R s m args below meth c n0 T' h' (k + rm.cells) (n + rm.slots) → Qf v h' → own_Ends p.tables e below P (T'.setTop { g with pc := g.pc + 3, stack := v.toList ++ rest })) : own_Ends p.tables e below P (T.setTop g) := by
  obtain ⟨locs, X, e1, N⟩ := Y
  obtain ⟨cq, kq, qa, qb, qc⟩ := isOf hZ e1 E
  obtain ⟨v, vm1, ⟨T', L', k', n'⟩, -, X', ⟨L, hQ, l1, y1, z1⟩, st⟩ := X.virtualBack hx hown (mvT hZ wl) (mvT hZ wd) hnf (mvT hZ wse) (mvT hZ win) hy (backOf (W := W) (Q := fun v h L => Fr n0 L ∧ Qf v h) hM hZ wc wi hfr hlo) qa qc hg hsize (Steps.refl _) hlen hs hW hd (fun _ _ => ⟨rfl, e1, hc, hsl⟩)
  dsimp only [Pt.U, Pt.locs, Pt.cells, Pt.slots] at X' l1 y1 z1 st hQ
  subst l1 y1 z1
  exact own_st (fun t q => st.trans q) (K T' _ v ⟨_, X', rfl, Fr.app N hQ.1⟩ hQ.2)
theorem own_callU (Y : own_S p l e R s m args below meth c n0 T h k n) (hx : p.tables.exec = Jvm.exec) (hZ : Z.Warmed39 s.vm) {own C owner : String} {index : Nat} {y z : MethodName} {bytes : ByteArray} {maxL : Nat} {ret : Option FieldType} (hown : s.vm.findClass own = some m.cls) (wl : (Jvm.Cond.methodLink own index y).before a0 Z = true) (wsm : (Jvm.Cond.sameMethod y.cls owner y.name y.desc).before a0 Z = true) (wd : (Jvm.Cond.declares ⟨owner, y.name, y.desc⟩).before a0 Z = true) (wse : (Jvm.Cond.selects C y z).before a0 Z = true) (win : (Jvm.Cond.instanceMethod z).before a0 Z = true) (wi : (Jvm.Cond.initialized z.cls).before a0 Z = true) (wc : (Jvm.Cond.code z bytes maxL ret).before a0 Z = true)
    (hy : owner ≠ "java/lang/invoke/MethodHandle" ∧ owner ≠ "java/lang/invoke/VarHandle") {rm : Room} {a : Addr} (E : Exa Z h a C) {argsL rest : List Value} {Qf : Option Value → Heap → Prop} (hM : own_Con l Z z bytes maxL ret [] rm (.ref a :: argsL).toArray h n0 Qf) {W : Nat} (hfr : rm.frames + 1 ≤ R.frames) (hlo : W + (maxL + 11) + rm.locals ≤ R.locals) (hc : k + rm.cells ≤ R.cells) (hsl : n + rm.slots ≤ R.slots)
    {g : JFrame} (hg : g.method = m) (hsize : g.locals.size = c.maxLocals) (hlen : ∀ sig, parseMethodDescriptor y.desc = some sig → argsL.length = sig.parameters.length) (hs : g.stack = argsL.reverse ++ .ref a :: rest) (hW : 2 * g.monitorRoom + (rest.map fun v => v.category).sum ≤ W) (hd : decode c.code g.pc = .ok (.invokevirtual index, 3))
    (K : ∀ T' h' v, own_S p l e R s m args below meth c n0 T' h' (k + rm.cells) (n + rm.slots) → Qf v h' → own_Ends p.tables e below P (T'.setTop { g with pc := g.pc + 3, stack := v.toList ++ rest })) : own_Ends p.tables e below P (T.setTop g) := by
  obtain ⟨locs, X, e1, N⟩ := Y
  obtain ⟨cq, kq, qa, qb, qc⟩ := isOf hZ e1 E
  obtain ⟨v, vm1, ⟨T', L', k', n'⟩, -, X', ⟨L, hQ, l1, y1, z1⟩, st⟩ := X.virtualBackUp hx hown (mvT hZ wl) (mvT hZ wsm) (mvT hZ wd) hy (mvT hZ wse) (mvT hZ win) (backOf (W := W) (Q := fun v h L => Fr n0 L ∧ Qf v h) hM hZ wc wi hfr hlo) qa qc hg hsize (Steps.refl _) hlen hs hW hd (fun _ _ => ⟨rfl, e1, hc, hsl⟩)
  dsimp only [Pt.U, Pt.locs, Pt.cells, Pt.slots] at X' l1 y1 z1 st hQ
  subst l1 y1 z1
  exact own_st (fun t q => st.trans q) (K T' _ v ⟨_, X', rfl, Fr.app N hQ.1⟩ hQ.2)
theorem own_callP (Y : own_S p l e R s m args below meth c n0 T h k n) (hx : p.tables.exec = Jvm.exec) (hZ : Z.Warmed39 s.vm) {own C : String} {index : Nat} {y : MethodName} {bytes : ByteArray} {maxL : Nat} {ret : Option FieldType} (hown : s.vm.findClass own = some m.cls) (wl : (Jvm.Cond.methodLink own index y).before a0 Z = true) {nn : Nat} (win : (Jvm.Cond.instanceMethod y).before a0 Z = true) (wn : (Jvm.Cond.instantiable y.cls nn).before a0 Z = true) (wp : (Jvm.Cond.privateMethod y).before a0 Z = true) (wi : (Jvm.Cond.initialized y.cls).before a0 Z = true) (wc : (Jvm.Cond.code y bytes maxL ret).before a0 Z = true)
    (hy : y.cls ≠ "java/lang/invoke/MethodHandle" ∧ y.cls ≠ "java/lang/invoke/VarHandle") {rm : Room} {a : Addr} (E : Exa Z h a C) {argsL rest : List Value} {Qf : Option Value → Heap → Prop} (hM : own_Con l Z y bytes maxL ret [] rm (.ref a :: argsL).toArray h n0 Qf) {W : Nat} (hfr : rm.frames + 1 ≤ R.frames) (hlo : W + (maxL + 11) + rm.locals ≤ R.locals) (hc : k + rm.cells ≤ R.cells) (hsl : n + rm.slots ≤ R.slots)
    {g : JFrame} (hg : g.method = m) (hsize : g.locals.size = c.maxLocals) (hlen : ∀ sig, parseMethodDescriptor y.desc = some sig → argsL.length = sig.parameters.length) (hs : g.stack = argsL.reverse ++ .ref a :: rest) (hW : 2 * g.monitorRoom + (rest.map fun v => v.category).sum ≤ W) (hd : decode c.code g.pc = .ok (.invokevirtual index, 3))
    (K : ∀ T' h' v, own_S p l e R s m args below meth c n0 T' h' (k + rm.cells) (n + rm.slots) → Qf v h' → own_Ends p.tables e below P (T'.setTop { g with pc := g.pc + 3, stack := v.toList ++ rest })) : own_Ends p.tables e below P (T.setTop g) := by
  obtain ⟨locs, X, e1, N⟩ := Y
  obtain ⟨cell, q, q'⟩ := E.cell
  have wn' : (Jvm.Cond.instantiable y.cls nn).before #[] s = true := mvT hZ wn
  obtain ⟨ci, ki, hi1, hi2, -, hi4, -⟩ := Cond.instantiable_spec wn'
  have wse : (Jvm.Cond.selects y.cls y y).before args s = true := selects_self_of_private hi1 hi2 (by simpa using (Bool.or_eq_false_iff.mp hi4).1) (Cond.privateMethod_at (mvP hZ wp (args := #[]))) (mvT hZ win) hy
  obtain ⟨v, vm1, ⟨T', L', k', n'⟩, -, X', ⟨L, hQ, l1, y1, z1⟩, st⟩ := X.privateBack hx hown (mvT hZ wl) (mvT hZ win) wse (Cond.privateMethod_at (mvP hZ wp (args := #[]))) (mvT hZ wc) hy (backOf (W := W) (Q := fun v h L => Fr n0 L ∧ Qf v h) hM hZ wc wi hfr hlo) hg hsize (Steps.refl _) (by rw [e1]; exact q) q' hlen hs hW hd (fun _ _ => ⟨rfl, e1, hc, hsl⟩)
  dsimp only [Pt.U, Pt.locs, Pt.cells, Pt.slots] at X' l1 y1 z1 st hQ
  subst l1 y1 z1
  exact own_st (fun t q => st.trans q) (K T' _ v ⟨_, X', rfl, Fr.app N hQ.1⟩ hQ.2)
end OwnLayer
section OwnNums
def own_b (b : Bool) : Int32 := if b then 1 else 0
theorem own_b_t {b : Bool} (h : b = true) : own_b b = 1 := by subst h; rfl
theorem own_b_f {b : Bool} (h : b = false) : own_b b = 0 := by subst h; rfl
theorem own_b_0 (b : Bool) : own_b b = 0 ↔ b = false := by cases b <;> simp [own_b]
theorem own_b_n (b : Bool) : nar .boolean (own_b b) = own_b b := by cases b <;> rfl
theorem own_b_inj {a b : Bool} : own_b a = own_b b ↔ a = b := by cases a <;> cases b <;> simp [own_b]
theorem own_idx {j : Int32} {n : Nat} (h0 : 0 ≤ j.toInt) (h1 : j.toInt < (n : Int)) : ¬ j < 0 ∧ j.toNatClampNeg < n := by
  refine ⟨?_, ?_⟩
  · rw [Int32.lt_iff_toInt_lt]; show ¬ j.toInt < 0; omega
  · show j.toInt.toNat < n; omega
theorem own_ints {xs : List Int32} {i : Nat} (h : i < xs.length) : ∃ d, (xs.map Value.int)[i]? = some (.int d) ∧ d = xs[i] := ⟨xs[i], by simp [h], rfl⟩
theorem own_longs {xs : List Int64} {i : Nat} (h : i < xs.length) : ∃ d, (xs.map Value.long)[i]? = some (.long d) ∧ d = xs[i] := ⟨xs[i], by simp [h], rfl⟩
/-- p i, p (i + 1), .., k of them, all hold -/
def own_all (p : Nat → Bool) : Nat → Nat → Bool
  | _, 0 => true
  | i, k + 1 => p i && own_all p (i + 1) k
def own_g (xs : List Int32) (i : Nat) : Int32 := xs.getD i 0
theorem own_mget {xs : List Int32} {i : Nat} (h : i < (xs.map Value.int).length) : (xs.map Value.int)[i]? = some (.int (own_g xs i)) := by
  have h' : i < xs.length := by simpa using h
  simp [h', own_g]
theorem own_mlen {xs : List Int32} {i : Nat} (h : i < xs.length) : i < (xs.map Value.int).length := by simpa using h
theorem own_nat {j : Int32} {i : Nat} (h : j.toInt = (i : Int)) : ¬ j < 0 ∧ j.toNatClampNeg = i := by
  refine ⟨?_, ?_⟩
  · rw [Int32.lt_iff_toInt_lt]; show ¬ j.toInt < 0; omega
  · show j.toInt.toNat = i; omega
theorem own_inc {j : Int32} {i : Nat} (h : j.toInt = (i : Int)) (hi : i + 1 < 2147483648) : (j + 1).toInt = ((i + 1 : Nat) : Int) := by
  have := c_iadd j 1
  have h1 : (1 : Int32).toInt = 1 := rfl
  have := rng32 (j + 1)
  omega
theorem own_lt {x y : Int32} : x < y ↔ x.toInt < y.toInt := Int32.lt_iff_toInt_lt
theorem own_eq {x y : Int32} : x = y ↔ x.toInt = y.toInt := Int32.toInt_inj.symm
theorem own_tolen {ys : List Int32} {z : Int32} (h : z.toInt = (ys.length : Int)) : (ys.map Value.int).length.toInt32 = z := by
  have q := rng32 z
  have e : (ys.map Value.int).length = ys.length := by simp
  rw [own_eq, len_toInt (by rw [e]; omega), e, h]
theorem own_add {x y : Int32} {a b : Nat} (h1 : x.toInt = (a : Int)) (h2 : y.toInt = (b : Int)) (hi : a + b < 2147483648) : (x + y).toInt = ((a + b : Nat) : Int) := by
  have := c_iadd x y
  have := rng32 (x + y)
  omega
theorem own_sub {x y : Int32} {a b : Nat} (h1 : x.toInt = (a : Int)) (h2 : y.toInt = (b : Int)) : (x - y).toInt = (a : Int) - (b : Int) := by
  have := c_isub x y
  have := rng32 (x - y)
  have := rng32 x
  have := rng32 y
  omega
theorem own_l0 : (0 : Int32).toInt = ((0 : Nat) : Int) := rfl
theorem own_l1 : (1 : Int32).toInt = ((1 : Nat) : Int) := rfl
theorem own_l2 : (2 : Int32).toInt = ((2 : Nat) : Int) := rfl
theorem own_l3 : (3 : Int32).toInt = ((3 : Nat) : Int) := rfl
theorem own_l4 : (4 : Int32).toInt = ((4 : Nat) : Int) := rfl
theorem own_l5 : (5 : Int32).toInt = ((5 : Nat) : Int) := rfl
theorem own_l6 : (6 : Int32).toInt = ((6 : Nat) : Int) := rfl
theorem own_l7 : (7 : Int32).toInt = ((7 : Nat) : Int) := rfl
theorem own_l8 : (8 : Int32).toInt = ((8 : Nat) : Int) := rfl
end OwnNums
section OwnDbl
variable {p : Program} {l : Launch} {e : Env} {R : Room} {s : State} {m : MethodId} {args : Array Value} {below : List Frame} {meth : Method} {c : Code} {n0 : Nat} {T : State} {h : Heap} {k n : Nat} {Z : State} {a0 : Array Value} {P : Outcome → State → Prop}
theorem own_retD (Y : own_S p l e R s m args below meth c n0 T h k n) (hx : p.tables.exec = Jvm.exec) (hlk : meth.locks = false) {pc : Nat} {Ls : Array Slot} {z : UInt64} {rest : List Value} (hret : meth.sig.returnType = some .double) (hd : decode c.code pc = .ok (.dreturn, 1))
    {Qf : Option Value → Heap → Prop} {C S : Nat} (hk : k ≤ C) (hs : n ≤ S) (hQ : Qf (some (.double z)) h) : own_Ends p.tables e below (own_P s n0 Qf C S) (T.setTop (mkF m pc Ls (.double z :: rest))) :=
  own_ret Y hx hlk hret hd rfl (Or.inr (Or.inr (Or.inl ⟨rfl, rfl, _, rfl⟩))) hk hs hQ
theorem own_ldcD (Y : own_S p l e R s m args below meth c n0 T h k n) (hx : p.tables.exec = Jvm.exec) (hZ : Z.Warmed39 s.vm) {own : String} {index : Nat} {v : UInt64} (hown : s.vm.findClass own = some m.cls) (w : (Jvm.Cond.constantDouble own index v).before a0 Z = true) {g : JFrame} (hg : g.method = m) (hd : decode c.code g.pc = .ok (.ldc2_w index, 3))
    (K : own_Ends p.tables e below P (T.setTop { g with pc := g.pc + 3, stack := .double v :: g.stack })) : own_Ends p.tables e below P (T.setTop g) := by
  obtain ⟨locs, X, e1, N⟩ := Y
  exact own_st (X.ldc2DoubleC hx hown (mvT hZ w) hg hd) K
theorem own_nn (a : Int64) : FP.Core.val64 (FP.l2d a) ≠ .nan := by
  intro h
  obtain ⟨s, c, q, h2⟩ := FP.Core.l2d_fin a
  rw [show FP.l2d a = FP.Core.l2d a from rfl, h2] at h
  cases h
theorem own_isn (a : Int64) : FP.Core.dIsNaN (FP.l2d a) = false := by
  have q := mt (FP.Core.dIsNaN_iff (FP.l2d a)).mp (own_nn a)
  exact Bool.eq_false_iff.mpr q
theorem own_one (a : Int64) : FP.ddiv (FP.l2d a) (FP.i2d 1) = FP.l2d a := by
  rw [show FP.i2d 1 = FP.dconst1 by decide +kernel]
  exact FP.Core.ddiv_one (own_nn a)
theorem own_n1 (a : Int64) : Jvm.Free.Fl.NoNaN64 (FP.ddiv (FP.l2d a) (FP.i2d 1)) := by
  rw [own_one]
  exact Jvm.Free.Fl.noNaN64_no.mpr (own_isn a)
theorem own_v2 : FP.Core.val64 4611686018427387904 = .fin false (2 ^ 52) (-51) := by decide +kernel
theorem own_two : FP.i2d 2 = 4611686018427387904 := by decide +kernel
theorem own_n2' (a : Int64) : Jvm.Free.Fl.NoNaN64 (FP.ddiv (FP.l2d a) 4611686018427387904) := by
  refine Jvm.Free.Fl.noNaN64_no.mpr (FP.Core.ddiv_out (own_isn a) ⟨_, _, _, own_v2⟩ ?_)
  rintro ⟨s, q, h⟩
  rw [own_v2] at h
  injection h with _ h2 _
  exact absurd h2 (by decide)
theorem own_n2 (a : Int64) : Jvm.Free.Fl.NoNaN64 (FP.ddiv (FP.l2d a) (FP.i2d 2)) := by
  rw [own_two]; exact own_n2' a
theorem own_cmp1 (a : Int64) : cmpValue (FP.dcmp (FP.ddiv (FP.l2d ((0 : Int64) + a)) (FP.i2d (1 : Int32))) (FP.l2d a)) .l = 0 := by
  have e : (0 : Int64) + a = a := by simp
  rw [e]
  exact dcmpV_eq (own_one a) (own_n1 a) _
theorem own_cmp2 (a b : Int64) : cmpValue (FP.dcmp (FP.ddiv (FP.l2d (((0 : Int64) + a) + b)) (FP.i2d (2 : Int32))) (FP.ddiv (FP.l2d (a + b)) 4611686018427387904)) .l = 0 := by
  have e : (0 : Int64) + a = a := by simp
  rw [e]
  exact dcmpV_eq (by rw [own_two]) (own_n2 _) _
end OwnDbl
theorem own_pn0 : plainName "com/example/tierpath/tierpath/BoundsTally" = true := by first | (simp [plainName, overriddenIn]; done) | decide +kernel
theorem own_d1_0 : decode prog_20_method_1_code 0 = .ok (.aload_n 0, 1) := by decide +kernel
theorem own_d1_1 : decode prog_20_method_1_code 1 = .ok (.invokespecial 1, 3) := by decide +kernel
theorem own_d1_4 : decode prog_20_method_1_code 4 = .ok (.return_, 1) := by decide +kernel
theorem own_ef_own_rm1 (m : MethodId) (r0 : Addr) : entryFrame m #[(.ref r0)] 1 = mkF m 0 #[.val (.ref r0)] [] := by first | (simp [entryFrame, mkF, argsToLocals, Value.category]; done) | rfl
def own_Q_own_rm1 (Z : State) (r0 : Addr) (h0 : Heap) (n0 : Nat) (v : Option Value) (h : Heap) : Prop := v = none ∧ h0 = h
set_option maxRecDepth 65536 in
set_option maxHeartbeats 40000000 in
theorem own_rm1 (l : Launch) (Z : State) (a0 : Array Value) (hw : ∀ d ∈ tables_1, d.before a0 Z = true) (ws : List Jvm.Cond) (r0 : Addr)  (h0 : Heap) (n0 : Nat)   :
    own_Con l Z (⟨"com/example/tierpath/tierpath/BoundsTally", "<init>", "()V"⟩ : MethodName) prog_20_method_1_code 1 none ws ({ frames := 1, cells := 0, slots := 0, locals := 12 } : Room) #[(.ref r0)] h0 n0 (own_Q_own_rm1 Z r0 h0 n0) := by
  refine own_body (plainFor_of_name own_pn0) ?_
  intro p e s m below meth c T0 hx hZ hby hml hown hnm hret hlk Y0
  replace hown : s.vm.findClass "com/example/tierpath/tierpath/BoundsTally" = some m.cls := hown
  replace hnm : meth.name = "<init>" := hnm
  rw [own_ef_own_rm1 m r0]
  show own_Ends _ _ _ _ (T0.setTop (mkF m 0 #[.val (.ref r0)] []))
  refine own_st (fun t_ => XS.aloadN (own_here Y0) hx rfl (hb hby own_d1_0) rfl rfl) ?_
  show own_Ends _ _ _ _ (T0.setTop (mkF m 1 #[.val (.ref r0)] [(.ref r0)]))
  refine own_initO Y0 hx hZ hown (hw _ (List.mem_of_getElem? (i := 6) rfl)) (hw _ (List.mem_of_getElem? (i := 7) rfl)) (hw _ (List.mem_of_getElem? (i := 8) rfl)) rfl (by rw [hml]; rfl) rfl (hb hby own_d1_1) (by decide) (W := 0) (by show 2 * 0 + _ ≤ _; exact Nat.le_of_eq rfl) (by decide) (fun T1 Y2 => ?_)
  show own_Ends _ _ _ _ (T1.setTop (mkF m 4 #[.val (.ref r0)] []))
  refine own_retV Y2 hx hlk hret (hb hby own_d1_4) (by decide) (by decide) ?_
  exact ⟨rfl, rfl⟩
theorem own_d3_0 : decode prog_20_method_3_code 0 = .ok (.aload_n 0, 1) := by decide +kernel
theorem own_d3_1 : decode prog_20_method_3_code 1 = .ok (.dup, 1) := by decide +kernel
theorem own_d3_2 : decode prog_20_method_3_code 2 = .ok (.getfield 26, 3) := by decide +kernel
theorem own_d3_5 : decode prog_20_method_3_code 5 = .ok (.iconst 1, 1) := by decide +kernel
theorem own_d3_6 : decode prog_20_method_3_code 6 = .ok (.iadd, 1) := by decide +kernel
theorem own_d3_7 : decode prog_20_method_3_code 7 = .ok (.putfield 26, 3) := by decide +kernel
theorem own_d3_10 : decode prog_20_method_3_code 10 = .ok (.aload_n 0, 1) := by decide +kernel
theorem own_d3_11 : decode prog_20_method_3_code 11 = .ok (.dup, 1) := by decide +kernel
theorem own_d3_12 : decode prog_20_method_3_code 12 = .ok (.getfield 30, 3) := by decide +kernel
theorem own_d3_15 : decode prog_20_method_3_code 15 = .ok (.lload_n 1, 1) := by decide +kernel
theorem own_d3_16 : decode prog_20_method_3_code 16 = .ok (.ladd, 1) := by decide +kernel
theorem own_d3_17 : decode prog_20_method_3_code 17 = .ok (.putfield 30, 3) := by decide +kernel
theorem own_d3_20 : decode prog_20_method_3_code 20 = .ok (.aload_n 0, 1) := by decide +kernel
theorem own_d3_21 : decode prog_20_method_3_code 21 = .ok (.dup, 1) := by decide +kernel
theorem own_d3_22 : decode prog_20_method_3_code 22 = .ok (.getfield 34, 3) := by decide +kernel
theorem own_d3_25 : decode prog_20_method_3_code 25 = .ok (.lload_n 3, 1) := by decide +kernel
theorem own_d3_26 : decode prog_20_method_3_code 26 = .ok (.ladd, 1) := by decide +kernel
theorem own_d3_27 : decode prog_20_method_3_code 27 = .ok (.putfield 34, 3) := by decide +kernel
theorem own_d3_30 : decode prog_20_method_3_code 30 = .ok (.aload_n 0, 1) := by decide +kernel
theorem own_d3_31 : decode prog_20_method_3_code 31 = .ok (.dup, 1) := by decide +kernel
theorem own_d3_32 : decode prog_20_method_3_code 32 = .ok (.getfield 37, 3) := by decide +kernel
theorem own_d3_35 : decode prog_20_method_3_code 35 = .ok (.lload 5, 2) := by decide +kernel
theorem own_d3_37 : decode prog_20_method_3_code 37 = .ok (.ladd, 1) := by decide +kernel
theorem own_d3_38 : decode prog_20_method_3_code 38 = .ok (.putfield 37, 3) := by decide +kernel
theorem own_d3_41 : decode prog_20_method_3_code 41 = .ok (.return_, 1) := by decide +kernel
theorem own_ef_own_rm3_0 (m : MethodId) (r0 : Addr) (x1 : Int64) (x2 : Int64) (x3 : Int64) : entryFrame m #[(.ref r0), (.long x1), (.long x2), (.long x3)] 7 = mkF m 0 #[.val (.ref r0), .val (.long x1), .second, .val (.long x2), .second, .val (.long x3), .second] [] := by first | (simp [entryFrame, mkF, argsToLocals, Value.category]; done) | rfl
def own_Q_own_rm3_0 (Z : State) (r0 : Addr) (x1 x2 x3 s1 s2 s3 : Int64) (h0 : Heap) (n0 : Nat) (v : Option Value) (h : Heap) : Prop := v = none ∧ Keep h0 h [r0] ∧ Fld Z h r0 "com/example/tierpath/tierpath/BoundsTally" "pairs" "I" (.int (1 : Int32)) ∧ Fld Z h r0 "com/example/tierpath/tierpath/BoundsTally" "boundaryClosed" "J" (.long (s1 + x1)) ∧ Fld Z h r0 "com/example/tierpath/tierpath/BoundsTally" "setsPruned" "J" (.long (s2 + x2)) ∧ Fld Z h r0 "com/example/tierpath/tierpath/BoundsTally" "reads" "J" (.long (s3 + x3))
set_option maxRecDepth 65536 in
set_option maxHeartbeats 40000000 in
theorem own_rm3_0 (l : Launch) (Z : State) (a0 : Array Value) (hw : ∀ d ∈ tables_1, d.before a0 Z = true) (ws : List Jvm.Cond) (r0 : Addr) (x1 : Int64) (x2 : Int64) (x3 : Int64) (s1 s2 s3 : Int64) (h0 : Heap) (n0 : Nat)  (E : Exa Z h0 r0 "com/example/tierpath/tierpath/BoundsTally") (F0 : Fld Z h0 r0 "com/example/tierpath/tierpath/BoundsTally" "pairs" "I" (.int (0 : Int32))) (F1 : Fld Z h0 r0 "com/example/tierpath/tierpath/BoundsTally" "boundaryClosed" "J" (.long s1)) (F2 : Fld Z h0 r0 "com/example/tierpath/tierpath/BoundsTally" "setsPruned" "J" (.long s2)) (F3 : Fld Z h0 r0 "com/example/tierpath/tierpath/BoundsTally" "reads" "J" (.long s3)) (g : n0 ≤ r0) :
    own_Con l Z (⟨"com/example/tierpath/tierpath/BoundsTally", "add", "(JJJ)V"⟩ : MethodName) prog_20_method_3_code 7 none ws ({ frames := 0, cells := 0, slots := 0, locals := 0 } : Room) #[(.ref r0), (.long x1), (.long x2), (.long x3)] h0 n0 (own_Q_own_rm3_0 Z r0 x1 x2 x3 s1 s2 s3 h0 n0) := by
  refine own_body (plainFor_of_name own_pn0) ?_
  intro p e s m below meth c T0 hx hZ hby hml hown hnm hret hlk Y0
  replace hown : s.vm.findClass "com/example/tierpath/tierpath/BoundsTally" = some m.cls := hown
  replace hnm : meth.name = "add" := hnm
  rw [own_ef_own_rm3_0 m r0 x1 x2 x3]
  show own_Ends _ _ _ _ (T0.setTop (mkF m 0 #[.val (.ref r0), .val (.long x1), .second, .val (.long x2), .second, .val (.long x3), .second] []))
  refine own_st (fun t_ => XS.aloadN (own_here Y0) hx rfl (hb hby own_d3_0) rfl rfl) ?_
  show own_Ends _ _ _ _ (T0.setTop (mkF m 1 #[.val (.ref r0), .val (.long x1), .second, .val (.long x2), .second, .val (.long x3), .second] [(.ref r0)]))
  refine own_st (fun t_ => XS.dup (own_here Y0) hx rfl (hb hby own_d3_1) rfl rfl) ?_
  show own_Ends _ _ _ _ (T0.setTop (mkF m 2 #[.val (.ref r0), .val (.long x1), .second, .val (.long x2), .second, .val (.long x3), .second] [(.ref r0), (.ref r0)]))
  refine own_getF Y0 hx hZ hown (host := "") (Or.inl (hw _ (List.mem_of_getElem? (i := 14) rfl))) Via.refl F0 rfl rfl (hb hby own_d3_2) (fun T3 Y4 => ?_)
  show own_Ends _ _ _ _ (T3.setTop (mkF m 5 #[.val (.ref r0), .val (.long x1), .second, .val (.long x2), .second, .val (.long x3), .second] [(.int (0 : Int32)), (.ref r0)]))
  refine own_st (fun t_ => XS.iconst (own_here Y4) hx rfl (hb hby own_d3_5) ) ?_
  show own_Ends _ _ _ _ (T3.setTop (mkF m 6 #[.val (.ref r0), .val (.long x1), .second, .val (.long x2), .second, .val (.long x3), .second] [(.int (1 : Int32)), (.int (0 : Int32)), (.ref r0)]))
  refine own_st (fun t_ => XS.iadd (own_here Y4) hx rfl (hb hby own_d3_6) rfl) ?_
  show own_Ends _ _ _ _ (T3.setTop (mkF m 7 #[.val (.ref r0), .val (.long x1), .second, .val (.long x2), .second, .val (.long x3), .second] [(.int (1 : Int32)), (.ref r0)]))
  refine own_putF Y4 hx hZ hown (host := "") (Or.inl (hw _ (List.mem_of_getElem? (i := 14) rfl))) Via.refl F0 E (Or.inl (hw _ (List.mem_of_getElem? (i := 15) rfl))) (hw _ (List.mem_of_getElem? (i := 1) rfl)) g (ty := .int) (by decide) rfl rfl rfl rfl (hb hby own_d3_7) (fun T5 h7 Y6 W8 F9 => ?_)
  show own_Ends _ _ _ _ (T5.setTop (mkF m 10 #[.val (.ref r0), .val (.long x1), .second, .val (.long x2), .second, .val (.long x3), .second] []))
  refine own_st (fun t_ => XS.aloadN (own_here Y6) hx rfl (hb hby own_d3_10) rfl rfl) ?_
  show own_Ends _ _ _ _ (T5.setTop (mkF m 11 #[.val (.ref r0), .val (.long x1), .second, .val (.long x2), .second, .val (.long x3), .second] [(.ref r0)]))
  refine own_st (fun t_ => XS.dup (own_here Y6) hx rfl (hb hby own_d3_11) rfl rfl) ?_
  show own_Ends _ _ _ _ (T5.setTop (mkF m 12 #[.val (.ref r0), .val (.long x1), .second, .val (.long x2), .second, .val (.long x3), .second] [(.ref r0), (.ref r0)]))
  have f10 : Fld Z h7 r0 "com/example/tierpath/tierpath/BoundsTally" "boundaryClosed" "J" (.long s1) := F1.other W8 (Or.inr (slot_ne (Or.inl (hw _ (List.mem_of_getElem? (i := 17) rfl))) (Or.inl (hw _ (List.mem_of_getElem? (i := 15) rfl))) (by decide) (t := .long) (t' := .int) (by decide) (by decide)))
  refine own_getF Y6 hx hZ hown (host := "") (Or.inl (hw _ (List.mem_of_getElem? (i := 16) rfl))) Via.refl f10 rfl rfl (hb hby own_d3_12) (fun T11 Y12 => ?_)
  show own_Ends _ _ _ _ (T11.setTop (mkF m 15 #[.val (.ref r0), .val (.long x1), .second, .val (.long x2), .second, .val (.long x3), .second] [(.long s1), (.ref r0)]))
  refine own_st (fun t_ => XS.lloadN (own_here Y12) hx rfl (hb hby own_d3_15) rfl) ?_
  show own_Ends _ _ _ _ (T11.setTop (mkF m 16 #[.val (.ref r0), .val (.long x1), .second, .val (.long x2), .second, .val (.long x3), .second] [(.long x1), (.long s1), (.ref r0)]))
  refine own_st (fun t_ => XS.ladd (own_here Y12) hx rfl (hb hby own_d3_16) rfl) ?_
  show own_Ends _ _ _ _ (T11.setTop (mkF m 17 #[.val (.ref r0), .val (.long x1), .second, .val (.long x2), .second, .val (.long x3), .second] [(.long (s1 + x1)), (.ref r0)]))
  have f13 : Exa Z h7 r0 "com/example/tierpath/tierpath/BoundsTally" := E.wr W8
  refine own_putF Y12 hx hZ hown (host := "") (Or.inl (hw _ (List.mem_of_getElem? (i := 16) rfl))) Via.refl f10 f13 (Or.inl (hw _ (List.mem_of_getElem? (i := 17) rfl))) (hw _ (List.mem_of_getElem? (i := 1) rfl)) g (ty := .long) (by decide) rfl rfl rfl rfl (hb hby own_d3_17) (fun T14 h16 Y15 W17 F18 => ?_)
  show own_Ends _ _ _ _ (T14.setTop (mkF m 20 #[.val (.ref r0), .val (.long x1), .second, .val (.long x2), .second, .val (.long x3), .second] []))
  refine own_st (fun t_ => XS.aloadN (own_here Y15) hx rfl (hb hby own_d3_20) rfl rfl) ?_
  show own_Ends _ _ _ _ (T14.setTop (mkF m 21 #[.val (.ref r0), .val (.long x1), .second, .val (.long x2), .second, .val (.long x3), .second] [(.ref r0)]))
  refine own_st (fun t_ => XS.dup (own_here Y15) hx rfl (hb hby own_d3_21) rfl rfl) ?_
  show own_Ends _ _ _ _ (T14.setTop (mkF m 22 #[.val (.ref r0), .val (.long x1), .second, .val (.long x2), .second, .val (.long x3), .second] [(.ref r0), (.ref r0)]))
  have f19 : Fld Z h7 r0 "com/example/tierpath/tierpath/BoundsTally" "setsPruned" "J" (.long s2) := F2.other W8 (Or.inr (slot_ne (Or.inl (hw _ (List.mem_of_getElem? (i := 19) rfl))) (Or.inl (hw _ (List.mem_of_getElem? (i := 15) rfl))) (by decide) (t := .long) (t' := .int) (by decide) (by decide)))
  have f20 : Fld Z h16 r0 "com/example/tierpath/tierpath/BoundsTally" "setsPruned" "J" (.long s2) := f19.other W17 (Or.inr (slot_ne (Or.inl (hw _ (List.mem_of_getElem? (i := 19) rfl))) (Or.inl (hw _ (List.mem_of_getElem? (i := 17) rfl))) (by decide) (t := .long) (t' := .long) (by decide) (by decide)))
  refine own_getF Y15 hx hZ hown (host := "") (Or.inl (hw _ (List.mem_of_getElem? (i := 18) rfl))) Via.refl f20 rfl rfl (hb hby own_d3_22) (fun T21 Y22 => ?_)
  show own_Ends _ _ _ _ (T21.setTop (mkF m 25 #[.val (.ref r0), .val (.long x1), .second, .val (.long x2), .second, .val (.long x3), .second] [(.long s2), (.ref r0)]))
  refine own_st (fun t_ => XS.lloadN (own_here Y22) hx rfl (hb hby own_d3_25) rfl) ?_
  show own_Ends _ _ _ _ (T21.setTop (mkF m 26 #[.val (.ref r0), .val (.long x1), .second, .val (.long x2), .second, .val (.long x3), .second] [(.long x2), (.long s2), (.ref r0)]))
  refine own_st (fun t_ => XS.ladd (own_here Y22) hx rfl (hb hby own_d3_26) rfl) ?_
  show own_Ends _ _ _ _ (T21.setTop (mkF m 27 #[.val (.ref r0), .val (.long x1), .second, .val (.long x2), .second, .val (.long x3), .second] [(.long (s2 + x2)), (.ref r0)]))
  have f23 : Exa Z h16 r0 "com/example/tierpath/tierpath/BoundsTally" := f13.wr W17
  refine own_putF Y22 hx hZ hown (host := "") (Or.inl (hw _ (List.mem_of_getElem? (i := 18) rfl))) Via.refl f20 f23 (Or.inl (hw _ (List.mem_of_getElem? (i := 19) rfl))) (hw _ (List.mem_of_getElem? (i := 1) rfl)) g (ty := .long) (by decide) rfl rfl rfl rfl (hb hby own_d3_27) (fun T24 h26 Y25 W27 F28 => ?_)
  show own_Ends _ _ _ _ (T24.setTop (mkF m 30 #[.val (.ref r0), .val (.long x1), .second, .val (.long x2), .second, .val (.long x3), .second] []))
  refine own_st (fun t_ => XS.aloadN (own_here Y25) hx rfl (hb hby own_d3_30) rfl rfl) ?_
  show own_Ends _ _ _ _ (T24.setTop (mkF m 31 #[.val (.ref r0), .val (.long x1), .second, .val (.long x2), .second, .val (.long x3), .second] [(.ref r0)]))
  refine own_st (fun t_ => XS.dup (own_here Y25) hx rfl (hb hby own_d3_31) rfl rfl) ?_
  show own_Ends _ _ _ _ (T24.setTop (mkF m 32 #[.val (.ref r0), .val (.long x1), .second, .val (.long x2), .second, .val (.long x3), .second] [(.ref r0), (.ref r0)]))
  have f29 : Fld Z h7 r0 "com/example/tierpath/tierpath/BoundsTally" "reads" "J" (.long s3) := F3.other W8 (Or.inr (slot_ne (Or.inl (hw _ (List.mem_of_getElem? (i := 21) rfl))) (Or.inl (hw _ (List.mem_of_getElem? (i := 15) rfl))) (by decide) (t := .long) (t' := .int) (by decide) (by decide)))
  have f30 : Fld Z h16 r0 "com/example/tierpath/tierpath/BoundsTally" "reads" "J" (.long s3) := f29.other W17 (Or.inr (slot_ne (Or.inl (hw _ (List.mem_of_getElem? (i := 21) rfl))) (Or.inl (hw _ (List.mem_of_getElem? (i := 17) rfl))) (by decide) (t := .long) (t' := .long) (by decide) (by decide)))
  have f31 : Fld Z h26 r0 "com/example/tierpath/tierpath/BoundsTally" "reads" "J" (.long s3) := f30.other W27 (Or.inr (slot_ne (Or.inl (hw _ (List.mem_of_getElem? (i := 21) rfl))) (Or.inl (hw _ (List.mem_of_getElem? (i := 19) rfl))) (by decide) (t := .long) (t' := .long) (by decide) (by decide)))
  refine own_getF Y25 hx hZ hown (host := "") (Or.inl (hw _ (List.mem_of_getElem? (i := 20) rfl))) Via.refl f31 rfl rfl (hb hby own_d3_32) (fun T32 Y33 => ?_)
  show own_Ends _ _ _ _ (T32.setTop (mkF m 35 #[.val (.ref r0), .val (.long x1), .second, .val (.long x2), .second, .val (.long x3), .second] [(.long s3), (.ref r0)]))
  refine own_st (fun t_ => XS.lload (own_here Y33) hx rfl (hb hby own_d3_35) rfl) ?_
  show own_Ends _ _ _ _ (T32.setTop (mkF m 37 #[.val (.ref r0), .val (.long x1), .second, .val (.long x2), .second, .val (.long x3), .second] [(.long x3), (.long s3), (.ref r0)]))
  refine own_st (fun t_ => XS.ladd (own_here Y33) hx rfl (hb hby own_d3_37) rfl) ?_
  show own_Ends _ _ _ _ (T32.setTop (mkF m 38 #[.val (.ref r0), .val (.long x1), .second, .val (.long x2), .second, .val (.long x3), .second] [(.long (s3 + x3)), (.ref r0)]))
  have f34 : Exa Z h26 r0 "com/example/tierpath/tierpath/BoundsTally" := f23.wr W27
  refine own_putF Y33 hx hZ hown (host := "") (Or.inl (hw _ (List.mem_of_getElem? (i := 20) rfl))) Via.refl f31 f34 (Or.inl (hw _ (List.mem_of_getElem? (i := 21) rfl))) (hw _ (List.mem_of_getElem? (i := 1) rfl)) g (ty := .long) (by decide) rfl rfl rfl rfl (hb hby own_d3_38) (fun T35 h37 Y36 W38 F39 => ?_)
  show own_Ends _ _ _ _ (T35.setTop (mkF m 41 #[.val (.ref r0), .val (.long x1), .second, .val (.long x2), .second, .val (.long x3), .second] []))
  have K40 : Keep h0 h7 [r0] := (Keep.refl h0 [r0]).wr W8 (Or.inl (List.mem_of_getElem? (i := 0) rfl))
  have K41 : Keep h0 h16 [r0] := K40.wr W17 (Or.inl (List.mem_of_getElem? (i := 0) rfl))
  have K42 : Keep h0 h26 [r0] := K41.wr W27 (Or.inl (List.mem_of_getElem? (i := 0) rfl))
  have K43 : Keep h0 h37 [r0] := K42.wr W38 (Or.inl (List.mem_of_getElem? (i := 0) rfl))
  have f44 : Fld Z h16 r0 "com/example/tierpath/tierpath/BoundsTally" "pairs" "I" (.int (1 : Int32)) := F9.other W17 (Or.inr (slot_ne (Or.inl (hw _ (List.mem_of_getElem? (i := 15) rfl))) (Or.inl (hw _ (List.mem_of_getElem? (i := 17) rfl))) (by decide) (t := .int) (t' := .long) (by decide) (by decide)))
  have f45 : Fld Z h26 r0 "com/example/tierpath/tierpath/BoundsTally" "pairs" "I" (.int (1 : Int32)) := f44.other W27 (Or.inr (slot_ne (Or.inl (hw _ (List.mem_of_getElem? (i := 15) rfl))) (Or.inl (hw _ (List.mem_of_getElem? (i := 19) rfl))) (by decide) (t := .int) (t' := .long) (by decide) (by decide)))
  have f46 : Fld Z h37 r0 "com/example/tierpath/tierpath/BoundsTally" "pairs" "I" (.int (1 : Int32)) := f45.other W38 (Or.inr (slot_ne (Or.inl (hw _ (List.mem_of_getElem? (i := 15) rfl))) (Or.inl (hw _ (List.mem_of_getElem? (i := 21) rfl))) (by decide) (t := .int) (t' := .long) (by decide) (by decide)))
  have f47 : Fld Z h26 r0 "com/example/tierpath/tierpath/BoundsTally" "boundaryClosed" "J" (.long (s1 + x1)) := F18.other W27 (Or.inr (slot_ne (Or.inl (hw _ (List.mem_of_getElem? (i := 17) rfl))) (Or.inl (hw _ (List.mem_of_getElem? (i := 19) rfl))) (by decide) (t := .long) (t' := .long) (by decide) (by decide)))
  have f48 : Fld Z h37 r0 "com/example/tierpath/tierpath/BoundsTally" "boundaryClosed" "J" (.long (s1 + x1)) := f47.other W38 (Or.inr (slot_ne (Or.inl (hw _ (List.mem_of_getElem? (i := 17) rfl))) (Or.inl (hw _ (List.mem_of_getElem? (i := 21) rfl))) (by decide) (t := .long) (t' := .long) (by decide) (by decide)))
  have f49 : Fld Z h37 r0 "com/example/tierpath/tierpath/BoundsTally" "setsPruned" "J" (.long (s2 + x2)) := F28.other W38 (Or.inr (slot_ne (Or.inl (hw _ (List.mem_of_getElem? (i := 19) rfl))) (Or.inl (hw _ (List.mem_of_getElem? (i := 21) rfl))) (by decide) (t := .long) (t' := .long) (by decide) (by decide)))
  refine own_retV Y36 hx hlk hret (hb hby own_d3_41) (by decide) (by decide) ?_
  exact ⟨rfl, K43, f46, f48, f49, F39⟩
theorem own_ef_own_rm3_1 (m : MethodId) (r0 : Addr) (x1 : Int64) (x2 : Int64) (x3 : Int64) : entryFrame m #[(.ref r0), (.long x1), (.long x2), (.long x3)] 7 = mkF m 0 #[.val (.ref r0), .val (.long x1), .second, .val (.long x2), .second, .val (.long x3), .second] [] := by first | (simp [entryFrame, mkF, argsToLocals, Value.category]; done) | rfl
def own_Q_own_rm3_1 (Z : State) (r0 : Addr) (x1 x2 x3 s1 s2 s3 : Int64) (h0 : Heap) (n0 : Nat) (v : Option Value) (h : Heap) : Prop := v = none ∧ Keep h0 h [r0] ∧ Fld Z h r0 "com/example/tierpath/tierpath/BoundsTally" "pairs" "I" (.int (2 : Int32)) ∧ Fld Z h r0 "com/example/tierpath/tierpath/BoundsTally" "boundaryClosed" "J" (.long (s1 + x1)) ∧ Fld Z h r0 "com/example/tierpath/tierpath/BoundsTally" "setsPruned" "J" (.long (s2 + x2)) ∧ Fld Z h r0 "com/example/tierpath/tierpath/BoundsTally" "reads" "J" (.long (s3 + x3))
set_option maxRecDepth 65536 in
set_option maxHeartbeats 40000000 in
theorem own_rm3_1 (l : Launch) (Z : State) (a0 : Array Value) (hw : ∀ d ∈ tables_1, d.before a0 Z = true) (ws : List Jvm.Cond) (r0 : Addr) (x1 : Int64) (x2 : Int64) (x3 : Int64) (s1 s2 s3 : Int64) (h0 : Heap) (n0 : Nat)  (E : Exa Z h0 r0 "com/example/tierpath/tierpath/BoundsTally") (F0 : Fld Z h0 r0 "com/example/tierpath/tierpath/BoundsTally" "pairs" "I" (.int (1 : Int32))) (F1 : Fld Z h0 r0 "com/example/tierpath/tierpath/BoundsTally" "boundaryClosed" "J" (.long s1)) (F2 : Fld Z h0 r0 "com/example/tierpath/tierpath/BoundsTally" "setsPruned" "J" (.long s2)) (F3 : Fld Z h0 r0 "com/example/tierpath/tierpath/BoundsTally" "reads" "J" (.long s3)) (g : n0 ≤ r0) :
    own_Con l Z (⟨"com/example/tierpath/tierpath/BoundsTally", "add", "(JJJ)V"⟩ : MethodName) prog_20_method_3_code 7 none ws ({ frames := 0, cells := 0, slots := 0, locals := 0 } : Room) #[(.ref r0), (.long x1), (.long x2), (.long x3)] h0 n0 (own_Q_own_rm3_1 Z r0 x1 x2 x3 s1 s2 s3 h0 n0) := by
  refine own_body (plainFor_of_name own_pn0) ?_
  intro p e s m below meth c T0 hx hZ hby hml hown hnm hret hlk Y0
  replace hown : s.vm.findClass "com/example/tierpath/tierpath/BoundsTally" = some m.cls := hown
  replace hnm : meth.name = "add" := hnm
  rw [own_ef_own_rm3_1 m r0 x1 x2 x3]
  show own_Ends _ _ _ _ (T0.setTop (mkF m 0 #[.val (.ref r0), .val (.long x1), .second, .val (.long x2), .second, .val (.long x3), .second] []))
  refine own_st (fun t_ => XS.aloadN (own_here Y0) hx rfl (hb hby own_d3_0) rfl rfl) ?_
  show own_Ends _ _ _ _ (T0.setTop (mkF m 1 #[.val (.ref r0), .val (.long x1), .second, .val (.long x2), .second, .val (.long x3), .second] [(.ref r0)]))
  refine own_st (fun t_ => XS.dup (own_here Y0) hx rfl (hb hby own_d3_1) rfl rfl) ?_
  show own_Ends _ _ _ _ (T0.setTop (mkF m 2 #[.val (.ref r0), .val (.long x1), .second, .val (.long x2), .second, .val (.long x3), .second] [(.ref r0), (.ref r0)]))
  refine own_getF Y0 hx hZ hown (host := "") (Or.inl (hw _ (List.mem_of_getElem? (i := 14) rfl))) Via.refl F0 rfl rfl (hb hby own_d3_2) (fun T50 Y51 => ?_)
  show own_Ends _ _ _ _ (T50.setTop (mkF m 5 #[.val (.ref r0), .val (.long x1), .second, .val (.long x2), .second, .val (.long x3), .second] [(.int (1 : Int32)), (.ref r0)]))
  refine own_st (fun t_ => XS.iconst (own_here Y51) hx rfl (hb hby own_d3_5) ) ?_
  show own_Ends _ _ _ _ (T50.setTop (mkF m 6 #[.val (.ref r0), .val (.long x1), .second, .val (.long x2), .second, .val (.long x3), .second] [(.int (1 : Int32)), (.int (1 : Int32)), (.ref r0)]))
  refine own_st (fun t_ => XS.iadd (own_here Y51) hx rfl (hb hby own_d3_6) rfl) ?_
  show own_Ends _ _ _ _ (T50.setTop (mkF m 7 #[.val (.ref r0), .val (.long x1), .second, .val (.long x2), .second, .val (.long x3), .second] [(.int (2 : Int32)), (.ref r0)]))
  refine own_putF Y51 hx hZ hown (host := "") (Or.inl (hw _ (List.mem_of_getElem? (i := 14) rfl))) Via.refl F0 E (Or.inl (hw _ (List.mem_of_getElem? (i := 15) rfl))) (hw _ (List.mem_of_getElem? (i := 1) rfl)) g (ty := .int) (by decide) rfl rfl rfl rfl (hb hby own_d3_7) (fun T52 h54 Y53 W55 F56 => ?_)
  show own_Ends _ _ _ _ (T52.setTop (mkF m 10 #[.val (.ref r0), .val (.long x1), .second, .val (.long x2), .second, .val (.long x3), .second] []))
  refine own_st (fun t_ => XS.aloadN (own_here Y53) hx rfl (hb hby own_d3_10) rfl rfl) ?_
  show own_Ends _ _ _ _ (T52.setTop (mkF m 11 #[.val (.ref r0), .val (.long x1), .second, .val (.long x2), .second, .val (.long x3), .second] [(.ref r0)]))
  refine own_st (fun t_ => XS.dup (own_here Y53) hx rfl (hb hby own_d3_11) rfl rfl) ?_
  show own_Ends _ _ _ _ (T52.setTop (mkF m 12 #[.val (.ref r0), .val (.long x1), .second, .val (.long x2), .second, .val (.long x3), .second] [(.ref r0), (.ref r0)]))
  have f57 : Fld Z h54 r0 "com/example/tierpath/tierpath/BoundsTally" "boundaryClosed" "J" (.long s1) := F1.other W55 (Or.inr (slot_ne (Or.inl (hw _ (List.mem_of_getElem? (i := 17) rfl))) (Or.inl (hw _ (List.mem_of_getElem? (i := 15) rfl))) (by decide) (t := .long) (t' := .int) (by decide) (by decide)))
  refine own_getF Y53 hx hZ hown (host := "") (Or.inl (hw _ (List.mem_of_getElem? (i := 16) rfl))) Via.refl f57 rfl rfl (hb hby own_d3_12) (fun T58 Y59 => ?_)
  show own_Ends _ _ _ _ (T58.setTop (mkF m 15 #[.val (.ref r0), .val (.long x1), .second, .val (.long x2), .second, .val (.long x3), .second] [(.long s1), (.ref r0)]))
  refine own_st (fun t_ => XS.lloadN (own_here Y59) hx rfl (hb hby own_d3_15) rfl) ?_
  show own_Ends _ _ _ _ (T58.setTop (mkF m 16 #[.val (.ref r0), .val (.long x1), .second, .val (.long x2), .second, .val (.long x3), .second] [(.long x1), (.long s1), (.ref r0)]))
  refine own_st (fun t_ => XS.ladd (own_here Y59) hx rfl (hb hby own_d3_16) rfl) ?_
  show own_Ends _ _ _ _ (T58.setTop (mkF m 17 #[.val (.ref r0), .val (.long x1), .second, .val (.long x2), .second, .val (.long x3), .second] [(.long (s1 + x1)), (.ref r0)]))
  have f60 : Exa Z h54 r0 "com/example/tierpath/tierpath/BoundsTally" := E.wr W55
  refine own_putF Y59 hx hZ hown (host := "") (Or.inl (hw _ (List.mem_of_getElem? (i := 16) rfl))) Via.refl f57 f60 (Or.inl (hw _ (List.mem_of_getElem? (i := 17) rfl))) (hw _ (List.mem_of_getElem? (i := 1) rfl)) g (ty := .long) (by decide) rfl rfl rfl rfl (hb hby own_d3_17) (fun T61 h63 Y62 W64 F65 => ?_)
  show own_Ends _ _ _ _ (T61.setTop (mkF m 20 #[.val (.ref r0), .val (.long x1), .second, .val (.long x2), .second, .val (.long x3), .second] []))
  refine own_st (fun t_ => XS.aloadN (own_here Y62) hx rfl (hb hby own_d3_20) rfl rfl) ?_
  show own_Ends _ _ _ _ (T61.setTop (mkF m 21 #[.val (.ref r0), .val (.long x1), .second, .val (.long x2), .second, .val (.long x3), .second] [(.ref r0)]))
  refine own_st (fun t_ => XS.dup (own_here Y62) hx rfl (hb hby own_d3_21) rfl rfl) ?_
  show own_Ends _ _ _ _ (T61.setTop (mkF m 22 #[.val (.ref r0), .val (.long x1), .second, .val (.long x2), .second, .val (.long x3), .second] [(.ref r0), (.ref r0)]))
  have f66 : Fld Z h54 r0 "com/example/tierpath/tierpath/BoundsTally" "setsPruned" "J" (.long s2) := F2.other W55 (Or.inr (slot_ne (Or.inl (hw _ (List.mem_of_getElem? (i := 19) rfl))) (Or.inl (hw _ (List.mem_of_getElem? (i := 15) rfl))) (by decide) (t := .long) (t' := .int) (by decide) (by decide)))
  have f67 : Fld Z h63 r0 "com/example/tierpath/tierpath/BoundsTally" "setsPruned" "J" (.long s2) := f66.other W64 (Or.inr (slot_ne (Or.inl (hw _ (List.mem_of_getElem? (i := 19) rfl))) (Or.inl (hw _ (List.mem_of_getElem? (i := 17) rfl))) (by decide) (t := .long) (t' := .long) (by decide) (by decide)))
  refine own_getF Y62 hx hZ hown (host := "") (Or.inl (hw _ (List.mem_of_getElem? (i := 18) rfl))) Via.refl f67 rfl rfl (hb hby own_d3_22) (fun T68 Y69 => ?_)
  show own_Ends _ _ _ _ (T68.setTop (mkF m 25 #[.val (.ref r0), .val (.long x1), .second, .val (.long x2), .second, .val (.long x3), .second] [(.long s2), (.ref r0)]))
  refine own_st (fun t_ => XS.lloadN (own_here Y69) hx rfl (hb hby own_d3_25) rfl) ?_
  show own_Ends _ _ _ _ (T68.setTop (mkF m 26 #[.val (.ref r0), .val (.long x1), .second, .val (.long x2), .second, .val (.long x3), .second] [(.long x2), (.long s2), (.ref r0)]))
  refine own_st (fun t_ => XS.ladd (own_here Y69) hx rfl (hb hby own_d3_26) rfl) ?_
  show own_Ends _ _ _ _ (T68.setTop (mkF m 27 #[.val (.ref r0), .val (.long x1), .second, .val (.long x2), .second, .val (.long x3), .second] [(.long (s2 + x2)), (.ref r0)]))
  have f70 : Exa Z h63 r0 "com/example/tierpath/tierpath/BoundsTally" := f60.wr W64
  refine own_putF Y69 hx hZ hown (host := "") (Or.inl (hw _ (List.mem_of_getElem? (i := 18) rfl))) Via.refl f67 f70 (Or.inl (hw _ (List.mem_of_getElem? (i := 19) rfl))) (hw _ (List.mem_of_getElem? (i := 1) rfl)) g (ty := .long) (by decide) rfl rfl rfl rfl (hb hby own_d3_27) (fun T71 h73 Y72 W74 F75 => ?_)
  show own_Ends _ _ _ _ (T71.setTop (mkF m 30 #[.val (.ref r0), .val (.long x1), .second, .val (.long x2), .second, .val (.long x3), .second] []))
  refine own_st (fun t_ => XS.aloadN (own_here Y72) hx rfl (hb hby own_d3_30) rfl rfl) ?_
  show own_Ends _ _ _ _ (T71.setTop (mkF m 31 #[.val (.ref r0), .val (.long x1), .second, .val (.long x2), .second, .val (.long x3), .second] [(.ref r0)]))
  refine own_st (fun t_ => XS.dup (own_here Y72) hx rfl (hb hby own_d3_31) rfl rfl) ?_
  show own_Ends _ _ _ _ (T71.setTop (mkF m 32 #[.val (.ref r0), .val (.long x1), .second, .val (.long x2), .second, .val (.long x3), .second] [(.ref r0), (.ref r0)]))
  have f76 : Fld Z h54 r0 "com/example/tierpath/tierpath/BoundsTally" "reads" "J" (.long s3) := F3.other W55 (Or.inr (slot_ne (Or.inl (hw _ (List.mem_of_getElem? (i := 21) rfl))) (Or.inl (hw _ (List.mem_of_getElem? (i := 15) rfl))) (by decide) (t := .long) (t' := .int) (by decide) (by decide)))
  have f77 : Fld Z h63 r0 "com/example/tierpath/tierpath/BoundsTally" "reads" "J" (.long s3) := f76.other W64 (Or.inr (slot_ne (Or.inl (hw _ (List.mem_of_getElem? (i := 21) rfl))) (Or.inl (hw _ (List.mem_of_getElem? (i := 17) rfl))) (by decide) (t := .long) (t' := .long) (by decide) (by decide)))
  have f78 : Fld Z h73 r0 "com/example/tierpath/tierpath/BoundsTally" "reads" "J" (.long s3) := f77.other W74 (Or.inr (slot_ne (Or.inl (hw _ (List.mem_of_getElem? (i := 21) rfl))) (Or.inl (hw _ (List.mem_of_getElem? (i := 19) rfl))) (by decide) (t := .long) (t' := .long) (by decide) (by decide)))
  refine own_getF Y72 hx hZ hown (host := "") (Or.inl (hw _ (List.mem_of_getElem? (i := 20) rfl))) Via.refl f78 rfl rfl (hb hby own_d3_32) (fun T79 Y80 => ?_)
  show own_Ends _ _ _ _ (T79.setTop (mkF m 35 #[.val (.ref r0), .val (.long x1), .second, .val (.long x2), .second, .val (.long x3), .second] [(.long s3), (.ref r0)]))
  refine own_st (fun t_ => XS.lload (own_here Y80) hx rfl (hb hby own_d3_35) rfl) ?_
  show own_Ends _ _ _ _ (T79.setTop (mkF m 37 #[.val (.ref r0), .val (.long x1), .second, .val (.long x2), .second, .val (.long x3), .second] [(.long x3), (.long s3), (.ref r0)]))
  refine own_st (fun t_ => XS.ladd (own_here Y80) hx rfl (hb hby own_d3_37) rfl) ?_
  show own_Ends _ _ _ _ (T79.setTop (mkF m 38 #[.val (.ref r0), .val (.long x1), .second, .val (.long x2), .second, .val (.long x3), .second] [(.long (s3 + x3)), (.ref r0)]))
  have f81 : Exa Z h73 r0 "com/example/tierpath/tierpath/BoundsTally" := f70.wr W74
  refine own_putF Y80 hx hZ hown (host := "") (Or.inl (hw _ (List.mem_of_getElem? (i := 20) rfl))) Via.refl f78 f81 (Or.inl (hw _ (List.mem_of_getElem? (i := 21) rfl))) (hw _ (List.mem_of_getElem? (i := 1) rfl)) g (ty := .long) (by decide) rfl rfl rfl rfl (hb hby own_d3_38) (fun T82 h84 Y83 W85 F86 => ?_)
  show own_Ends _ _ _ _ (T82.setTop (mkF m 41 #[.val (.ref r0), .val (.long x1), .second, .val (.long x2), .second, .val (.long x3), .second] []))
  have K87 : Keep h0 h54 [r0] := (Keep.refl h0 [r0]).wr W55 (Or.inl (List.mem_of_getElem? (i := 0) rfl))
  have K88 : Keep h0 h63 [r0] := K87.wr W64 (Or.inl (List.mem_of_getElem? (i := 0) rfl))
  have K89 : Keep h0 h73 [r0] := K88.wr W74 (Or.inl (List.mem_of_getElem? (i := 0) rfl))
  have K90 : Keep h0 h84 [r0] := K89.wr W85 (Or.inl (List.mem_of_getElem? (i := 0) rfl))
  have f91 : Fld Z h63 r0 "com/example/tierpath/tierpath/BoundsTally" "pairs" "I" (.int (2 : Int32)) := F56.other W64 (Or.inr (slot_ne (Or.inl (hw _ (List.mem_of_getElem? (i := 15) rfl))) (Or.inl (hw _ (List.mem_of_getElem? (i := 17) rfl))) (by decide) (t := .int) (t' := .long) (by decide) (by decide)))
  have f92 : Fld Z h73 r0 "com/example/tierpath/tierpath/BoundsTally" "pairs" "I" (.int (2 : Int32)) := f91.other W74 (Or.inr (slot_ne (Or.inl (hw _ (List.mem_of_getElem? (i := 15) rfl))) (Or.inl (hw _ (List.mem_of_getElem? (i := 19) rfl))) (by decide) (t := .int) (t' := .long) (by decide) (by decide)))
  have f93 : Fld Z h84 r0 "com/example/tierpath/tierpath/BoundsTally" "pairs" "I" (.int (2 : Int32)) := f92.other W85 (Or.inr (slot_ne (Or.inl (hw _ (List.mem_of_getElem? (i := 15) rfl))) (Or.inl (hw _ (List.mem_of_getElem? (i := 21) rfl))) (by decide) (t := .int) (t' := .long) (by decide) (by decide)))
  have f94 : Fld Z h73 r0 "com/example/tierpath/tierpath/BoundsTally" "boundaryClosed" "J" (.long (s1 + x1)) := F65.other W74 (Or.inr (slot_ne (Or.inl (hw _ (List.mem_of_getElem? (i := 17) rfl))) (Or.inl (hw _ (List.mem_of_getElem? (i := 19) rfl))) (by decide) (t := .long) (t' := .long) (by decide) (by decide)))
  have f95 : Fld Z h84 r0 "com/example/tierpath/tierpath/BoundsTally" "boundaryClosed" "J" (.long (s1 + x1)) := f94.other W85 (Or.inr (slot_ne (Or.inl (hw _ (List.mem_of_getElem? (i := 17) rfl))) (Or.inl (hw _ (List.mem_of_getElem? (i := 21) rfl))) (by decide) (t := .long) (t' := .long) (by decide) (by decide)))
  have f96 : Fld Z h84 r0 "com/example/tierpath/tierpath/BoundsTally" "setsPruned" "J" (.long (s2 + x2)) := F75.other W85 (Or.inr (slot_ne (Or.inl (hw _ (List.mem_of_getElem? (i := 19) rfl))) (Or.inl (hw _ (List.mem_of_getElem? (i := 21) rfl))) (by decide) (t := .long) (t' := .long) (by decide) (by decide)))
  refine own_retV Y83 hx hlk hret (hb hby own_d3_41) (by decide) (by decide) ?_
  exact ⟨rfl, K90, f93, f95, f96, F86⟩
theorem own_d5_0 : decode prog_20_method_7_code 0 = .ok (.aload_n 0, 1) := by decide +kernel
theorem own_d5_1 : decode prog_20_method_7_code 1 = .ok (.getfield 26, 3) := by decide +kernel
theorem own_d5_4 : decode prog_20_method_7_code 4 = .ok (.ifCond .ne 7, 3) := by decide +kernel
theorem own_d5_11 : decode prog_20_method_7_code 11 = .ok (.lload_n 1, 1) := by decide +kernel
theorem own_d5_12 : decode prog_20_method_7_code 12 = .ok (.l2d, 1) := by decide +kernel
theorem own_d5_13 : decode prog_20_method_7_code 13 = .ok (.aload_n 0, 1) := by decide +kernel
theorem own_d5_14 : decode prog_20_method_7_code 14 = .ok (.getfield 26, 3) := by decide +kernel
theorem own_d5_17 : decode prog_20_method_7_code 17 = .ok (.i2d, 1) := by decide +kernel
theorem own_d5_18 : decode prog_20_method_7_code 18 = .ok (.ddiv, 1) := by decide +kernel
theorem own_d5_19 : decode prog_20_method_7_code 19 = .ok (.dreturn, 1) := by decide +kernel
theorem own_ef_own_rm5_1 (m : MethodId) (r0 : Addr) (x1 : Int64) : entryFrame m #[(.ref r0), (.long x1)] 3 = mkF m 0 #[.val (.ref r0), .val (.long x1), .second] [] := by first | (simp [entryFrame, mkF, argsToLocals, Value.category]; done) | rfl
def own_Q_own_rm5_1 (Z : State) (x1 : Int64) (h0 : Heap) (n0 : Nat) (v : Option Value) (h : Heap) : Prop := v = some (.double (FP.ddiv (FP.l2d x1) (FP.i2d (1 : Int32)))) ∧ h0 = h
set_option maxRecDepth 65536 in
set_option maxHeartbeats 40000000 in
theorem own_rm5_1 (l : Launch) (Z : State) (a0 : Array Value) (hw : ∀ d ∈ tables_1, d.before a0 Z = true) (ws : List Jvm.Cond) (r0 : Addr) (x1 : Int64)  (h0 : Heap) (n0 : Nat)  (F : Fld Z h0 r0 "com/example/tierpath/tierpath/BoundsTally" "pairs" "I" (.int 1)) :
    own_Con l Z (⟨"com/example/tierpath/tierpath/BoundsTally", "mean", "(J)D"⟩ : MethodName) prog_20_method_7_code 3 (some .double) ws ({ frames := 0, cells := 0, slots := 0, locals := 0 } : Room) #[(.ref r0), (.long x1)] h0 n0 (own_Q_own_rm5_1 Z x1 h0 n0) := by
  refine own_body (plainFor_of_name own_pn0) ?_
  intro p e s m below meth c T0 hx hZ hby hml hown hnm hret hlk Y0
  replace hown : s.vm.findClass "com/example/tierpath/tierpath/BoundsTally" = some m.cls := hown
  replace hnm : meth.name = "mean" := hnm
  rw [own_ef_own_rm5_1 m r0 x1]
  show own_Ends _ _ _ _ (T0.setTop (mkF m 0 #[.val (.ref r0), .val (.long x1), .second] []))
  refine own_st (fun t_ => XS.aloadN (own_here Y0) hx rfl (hb hby own_d5_0) rfl rfl) ?_
  show own_Ends _ _ _ _ (T0.setTop (mkF m 1 #[.val (.ref r0), .val (.long x1), .second] [(.ref r0)]))
  refine own_getF Y0 hx hZ hown (host := "") (Or.inl (hw _ (List.mem_of_getElem? (i := 14) rfl))) Via.refl F rfl rfl (hb hby own_d5_1) (fun T97 Y98 => ?_)
  show own_Ends _ _ _ _ (T97.setTop (mkF m 4 #[.val (.ref r0), .val (.long x1), .second] [(.int (1 : Int32))]))
  refine own_st (fun t_ => XS.ifYes (own_here Y98) hx rfl (pc0 := 4) (pc' := 11) rfl (hb hby own_d5_4) rfl (XT.i0_ne_t (by decide)) (by decide) (by decide)) ?_
  show own_Ends _ _ _ _ (T97.setTop (mkF m 11 #[.val (.ref r0), .val (.long x1), .second] []))
  refine own_st (fun t_ => XS.lloadN (own_here Y98) hx rfl (hb hby own_d5_11) rfl) ?_
  show own_Ends _ _ _ _ (T97.setTop (mkF m 12 #[.val (.ref r0), .val (.long x1), .second] [(.long x1)]))
  refine own_st (fun t_ => XS.l2dS (own_here Y98) hx rfl (hb hby own_d5_12) rfl rfl) ?_
  show own_Ends _ _ _ _ (T97.setTop (mkF m 13 #[.val (.ref r0), .val (.long x1), .second] [(.double (FP.l2d x1))]))
  refine own_st (fun t_ => XS.aloadN (own_here Y98) hx rfl (hb hby own_d5_13) rfl rfl) ?_
  show own_Ends _ _ _ _ (T97.setTop (mkF m 14 #[.val (.ref r0), .val (.long x1), .second] [(.ref r0), (.double (FP.l2d x1))]))
  refine own_getF Y98 hx hZ hown (host := "") (Or.inl (hw _ (List.mem_of_getElem? (i := 14) rfl))) Via.refl F rfl rfl (hb hby own_d5_14) (fun T99 Y100 => ?_)
  show own_Ends _ _ _ _ (T99.setTop (mkF m 17 #[.val (.ref r0), .val (.long x1), .second] [(.int (1 : Int32)), (.double (FP.l2d x1))]))
  refine own_st (fun t_ => XS.i2dS (own_here Y100) hx rfl (hb hby own_d5_17) rfl rfl) ?_
  show own_Ends _ _ _ _ (T99.setTop (mkF m 18 #[.val (.ref r0), .val (.long x1), .second] [(.double (FP.i2d (1 : Int32))), (.double (FP.l2d x1))]))
  refine own_st (fun t_ => XS.ddivS (own_here Y100) hx rfl (hb hby own_d5_18) rfl (own_n1 _) rfl) ?_
  show own_Ends _ _ _ _ (T99.setTop (mkF m 19 #[.val (.ref r0), .val (.long x1), .second] [(.double (FP.ddiv (FP.l2d x1) (FP.i2d (1 : Int32))))]))
  refine own_retD Y100 hx hlk hret (hb hby own_d5_19) (by decide) (by decide) ?_
  exact ⟨rfl, rfl⟩
theorem own_ef_own_rm5_2 (m : MethodId) (r0 : Addr) (x1 : Int64) : entryFrame m #[(.ref r0), (.long x1)] 3 = mkF m 0 #[.val (.ref r0), .val (.long x1), .second] [] := by first | (simp [entryFrame, mkF, argsToLocals, Value.category]; done) | rfl
def own_Q_own_rm5_2 (Z : State) (x1 : Int64) (h0 : Heap) (n0 : Nat) (v : Option Value) (h : Heap) : Prop := v = some (.double (FP.ddiv (FP.l2d x1) (FP.i2d (2 : Int32)))) ∧ h0 = h
set_option maxRecDepth 65536 in
set_option maxHeartbeats 40000000 in
theorem own_rm5_2 (l : Launch) (Z : State) (a0 : Array Value) (hw : ∀ d ∈ tables_1, d.before a0 Z = true) (ws : List Jvm.Cond) (r0 : Addr) (x1 : Int64)  (h0 : Heap) (n0 : Nat)  (F : Fld Z h0 r0 "com/example/tierpath/tierpath/BoundsTally" "pairs" "I" (.int 2)) :
    own_Con l Z (⟨"com/example/tierpath/tierpath/BoundsTally", "mean", "(J)D"⟩ : MethodName) prog_20_method_7_code 3 (some .double) ws ({ frames := 0, cells := 0, slots := 0, locals := 0 } : Room) #[(.ref r0), (.long x1)] h0 n0 (own_Q_own_rm5_2 Z x1 h0 n0) := by
  refine own_body (plainFor_of_name own_pn0) ?_
  intro p e s m below meth c T0 hx hZ hby hml hown hnm hret hlk Y0
  replace hown : s.vm.findClass "com/example/tierpath/tierpath/BoundsTally" = some m.cls := hown
  replace hnm : meth.name = "mean" := hnm
  rw [own_ef_own_rm5_2 m r0 x1]
  show own_Ends _ _ _ _ (T0.setTop (mkF m 0 #[.val (.ref r0), .val (.long x1), .second] []))
  refine own_st (fun t_ => XS.aloadN (own_here Y0) hx rfl (hb hby own_d5_0) rfl rfl) ?_
  show own_Ends _ _ _ _ (T0.setTop (mkF m 1 #[.val (.ref r0), .val (.long x1), .second] [(.ref r0)]))
  refine own_getF Y0 hx hZ hown (host := "") (Or.inl (hw _ (List.mem_of_getElem? (i := 14) rfl))) Via.refl F rfl rfl (hb hby own_d5_1) (fun T101 Y102 => ?_)
  show own_Ends _ _ _ _ (T101.setTop (mkF m 4 #[.val (.ref r0), .val (.long x1), .second] [(.int (2 : Int32))]))
  refine own_st (fun t_ => XS.ifYes (own_here Y102) hx rfl (pc0 := 4) (pc' := 11) rfl (hb hby own_d5_4) rfl (XT.i0_ne_t (by decide)) (by decide) (by decide)) ?_
  show own_Ends _ _ _ _ (T101.setTop (mkF m 11 #[.val (.ref r0), .val (.long x1), .second] []))
  refine own_st (fun t_ => XS.lloadN (own_here Y102) hx rfl (hb hby own_d5_11) rfl) ?_
  show own_Ends _ _ _ _ (T101.setTop (mkF m 12 #[.val (.ref r0), .val (.long x1), .second] [(.long x1)]))
  refine own_st (fun t_ => XS.l2dS (own_here Y102) hx rfl (hb hby own_d5_12) rfl rfl) ?_
  show own_Ends _ _ _ _ (T101.setTop (mkF m 13 #[.val (.ref r0), .val (.long x1), .second] [(.double (FP.l2d x1))]))
  refine own_st (fun t_ => XS.aloadN (own_here Y102) hx rfl (hb hby own_d5_13) rfl rfl) ?_
  show own_Ends _ _ _ _ (T101.setTop (mkF m 14 #[.val (.ref r0), .val (.long x1), .second] [(.ref r0), (.double (FP.l2d x1))]))
  refine own_getF Y102 hx hZ hown (host := "") (Or.inl (hw _ (List.mem_of_getElem? (i := 14) rfl))) Via.refl F rfl rfl (hb hby own_d5_14) (fun T103 Y104 => ?_)
  show own_Ends _ _ _ _ (T103.setTop (mkF m 17 #[.val (.ref r0), .val (.long x1), .second] [(.int (2 : Int32)), (.double (FP.l2d x1))]))
  refine own_st (fun t_ => XS.i2dS (own_here Y104) hx rfl (hb hby own_d5_17) rfl rfl) ?_
  show own_Ends _ _ _ _ (T103.setTop (mkF m 18 #[.val (.ref r0), .val (.long x1), .second] [(.double (FP.i2d (2 : Int32))), (.double (FP.l2d x1))]))
  refine own_st (fun t_ => XS.ddivS (own_here Y104) hx rfl (hb hby own_d5_18) rfl (own_n2 _) rfl) ?_
  show own_Ends _ _ _ _ (T103.setTop (mkF m 19 #[.val (.ref r0), .val (.long x1), .second] [(.double (FP.ddiv (FP.l2d x1) (FP.i2d (2 : Int32))))]))
  refine own_retD Y104 hx hlk hret (hb hby own_d5_19) (by decide) (by decide) ?_
  exact ⟨rfl, rfl⟩
theorem own_pd0 : parseMethodDescriptor "(J)D" = some ⟨[.long], some .double⟩ := by decide +kernel
theorem own_d4_0 : decode prog_20_method_4_code 0 = .ok (.aload_n 0, 1) := by decide +kernel
theorem own_d4_1 : decode prog_20_method_4_code 1 = .ok (.aload_n 0, 1) := by decide +kernel
theorem own_d4_2 : decode prog_20_method_4_code 2 = .ok (.getfield 30, 3) := by decide +kernel
theorem own_d4_5 : decode prog_20_method_4_code 5 = .ok (.invokevirtual 40, 3) := by decide +kernel
theorem own_d4_8 : decode prog_20_method_4_code 8 = .ok (.dreturn, 1) := by decide +kernel
theorem own_ef_own_rm4_1 (m : MethodId) (r0 : Addr) : entryFrame m #[(.ref r0)] 1 = mkF m 0 #[.val (.ref r0)] [] := by first | (simp [entryFrame, mkF, argsToLocals, Value.category]; done) | rfl
def own_Q_own_rm4_1 (Z : State) (z : Int64) (h0 : Heap) (n0 : Nat) (v : Option Value) (h : Heap) : Prop := v = some (.double (FP.ddiv (FP.l2d z) (FP.i2d (1 : Int32)))) ∧ h0 = h
set_option maxRecDepth 65536 in
set_option maxHeartbeats 40000000 in
theorem own_rm4_1 (l : Launch) (Z : State) (a0 : Array Value) (hw : ∀ d ∈ tables_1, d.before a0 Z = true) (ws : List Jvm.Cond) (r0 : Addr) (z : Int64) (h0 : Heap) (n0 : Nat)  (E : Exa Z h0 r0 "com/example/tierpath/tierpath/BoundsTally") (F : Fld Z h0 r0 "com/example/tierpath/tierpath/BoundsTally" "pairs" "I" (.int 1)) (G : Fld Z h0 r0 "com/example/tierpath/tierpath/BoundsTally" "boundaryClosed" "J" (.long z)) :
    own_Con l Z (⟨"com/example/tierpath/tierpath/BoundsTally", "meanBoundaryClosed", "()D"⟩ : MethodName) prog_20_method_4_code 1 (some .double) ws ({ frames := 1, cells := 0, slots := 0, locals := 14 } : Room) #[(.ref r0)] h0 n0 (own_Q_own_rm4_1 Z z h0 n0) := by
  refine own_body (plainFor_of_name own_pn0) ?_
  intro p e s m below meth c T0 hx hZ hby hml hown hnm hret hlk Y0
  replace hown : s.vm.findClass "com/example/tierpath/tierpath/BoundsTally" = some m.cls := hown
  replace hnm : meth.name = "meanBoundaryClosed" := hnm
  rw [own_ef_own_rm4_1 m r0]
  show own_Ends _ _ _ _ (T0.setTop (mkF m 0 #[.val (.ref r0)] []))
  refine own_st (fun t_ => XS.aloadN (own_here Y0) hx rfl (hb hby own_d4_0) rfl rfl) ?_
  show own_Ends _ _ _ _ (T0.setTop (mkF m 1 #[.val (.ref r0)] [(.ref r0)]))
  refine own_st (fun t_ => XS.aloadN (own_here Y0) hx rfl (hb hby own_d4_1) rfl rfl) ?_
  show own_Ends _ _ _ _ (T0.setTop (mkF m 2 #[.val (.ref r0)] [(.ref r0), (.ref r0)]))
  refine own_getF Y0 hx hZ hown (host := "") (Or.inl (hw _ (List.mem_of_getElem? (i := 16) rfl))) Via.refl G rfl rfl (hb hby own_d4_2) (fun T105 Y106 => ?_)
  show own_Ends _ _ _ _ (T105.setTop (mkF m 5 #[.val (.ref r0)] [(.long z), (.ref r0)]))
  refine own_callP Y106 hx hZ (y := (⟨"com/example/tierpath/tierpath/BoundsTally", "mean", "(J)D"⟩ : MethodName)) hown (hw _ (List.mem_of_getElem? (i := 27) rfl)) (hw _ (List.mem_of_getElem? (i := 28) rfl)) (hw _ (List.mem_of_getElem? (i := 1) rfl)) (hw _ (List.mem_of_getElem? (i := 29) rfl)) (hw _ (List.mem_of_getElem? (i := 2) rfl)) (hw _ (List.mem_of_getElem? (i := 30) rfl)) (by decide) (a := r0) E (argsL := [(.long z)]) (rest := []) (own_rm5_1 l Z a0 hw [] r0 z  h0 n0  F) (W := 0) (by decide) (by decide) (by decide) (by decide) rfl (by rw [hml]; rfl) (lenOf own_pd0 rfl) rfl (by show 2 * 0 + _ ≤ _; exact Nat.le_of_eq rfl) (hb hby own_d4_5) (fun T107 h109 v110 Y108 q111 => ?_)
  obtain ⟨rfl, rfl⟩ := q111
  show own_Ends _ _ _ _ (T107.setTop (mkF m 8 #[.val (.ref r0)] [(.double (FP.ddiv (FP.l2d z) (FP.i2d (1 : Int32))))]))
  refine own_retD Y108 hx hlk hret (hb hby own_d4_8) (by decide) (by decide) ?_
  exact ⟨rfl, rfl⟩
theorem own_ef_own_rm4_2 (m : MethodId) (r0 : Addr) : entryFrame m #[(.ref r0)] 1 = mkF m 0 #[.val (.ref r0)] [] := by first | (simp [entryFrame, mkF, argsToLocals, Value.category]; done) | rfl
def own_Q_own_rm4_2 (Z : State) (z : Int64) (h0 : Heap) (n0 : Nat) (v : Option Value) (h : Heap) : Prop := v = some (.double (FP.ddiv (FP.l2d z) (FP.i2d (2 : Int32)))) ∧ h0 = h
set_option maxRecDepth 65536 in
set_option maxHeartbeats 40000000 in
theorem own_rm4_2 (l : Launch) (Z : State) (a0 : Array Value) (hw : ∀ d ∈ tables_1, d.before a0 Z = true) (ws : List Jvm.Cond) (r0 : Addr) (z : Int64) (h0 : Heap) (n0 : Nat)  (E : Exa Z h0 r0 "com/example/tierpath/tierpath/BoundsTally") (F : Fld Z h0 r0 "com/example/tierpath/tierpath/BoundsTally" "pairs" "I" (.int 2)) (G : Fld Z h0 r0 "com/example/tierpath/tierpath/BoundsTally" "boundaryClosed" "J" (.long z)) :
    own_Con l Z (⟨"com/example/tierpath/tierpath/BoundsTally", "meanBoundaryClosed", "()D"⟩ : MethodName) prog_20_method_4_code 1 (some .double) ws ({ frames := 1, cells := 0, slots := 0, locals := 14 } : Room) #[(.ref r0)] h0 n0 (own_Q_own_rm4_2 Z z h0 n0) := by
  refine own_body (plainFor_of_name own_pn0) ?_
  intro p e s m below meth c T0 hx hZ hby hml hown hnm hret hlk Y0
  replace hown : s.vm.findClass "com/example/tierpath/tierpath/BoundsTally" = some m.cls := hown
  replace hnm : meth.name = "meanBoundaryClosed" := hnm
  rw [own_ef_own_rm4_2 m r0]
  show own_Ends _ _ _ _ (T0.setTop (mkF m 0 #[.val (.ref r0)] []))
  refine own_st (fun t_ => XS.aloadN (own_here Y0) hx rfl (hb hby own_d4_0) rfl rfl) ?_
  show own_Ends _ _ _ _ (T0.setTop (mkF m 1 #[.val (.ref r0)] [(.ref r0)]))
  refine own_st (fun t_ => XS.aloadN (own_here Y0) hx rfl (hb hby own_d4_1) rfl rfl) ?_
  show own_Ends _ _ _ _ (T0.setTop (mkF m 2 #[.val (.ref r0)] [(.ref r0), (.ref r0)]))
  refine own_getF Y0 hx hZ hown (host := "") (Or.inl (hw _ (List.mem_of_getElem? (i := 16) rfl))) Via.refl G rfl rfl (hb hby own_d4_2) (fun T112 Y113 => ?_)
  show own_Ends _ _ _ _ (T112.setTop (mkF m 5 #[.val (.ref r0)] [(.long z), (.ref r0)]))
  refine own_callP Y113 hx hZ (y := (⟨"com/example/tierpath/tierpath/BoundsTally", "mean", "(J)D"⟩ : MethodName)) hown (hw _ (List.mem_of_getElem? (i := 27) rfl)) (hw _ (List.mem_of_getElem? (i := 28) rfl)) (hw _ (List.mem_of_getElem? (i := 1) rfl)) (hw _ (List.mem_of_getElem? (i := 29) rfl)) (hw _ (List.mem_of_getElem? (i := 2) rfl)) (hw _ (List.mem_of_getElem? (i := 30) rfl)) (by decide) (a := r0) E (argsL := [(.long z)]) (rest := []) (own_rm5_2 l Z a0 hw [] r0 z  h0 n0  F) (W := 0) (by decide) (by decide) (by decide) (by decide) rfl (by rw [hml]; rfl) (lenOf own_pd0 rfl) rfl (by show 2 * 0 + _ ≤ _; exact Nat.le_of_eq rfl) (hb hby own_d4_5) (fun T114 h116 v117 Y115 q118 => ?_)
  obtain ⟨rfl, rfl⟩ := q118
  show own_Ends _ _ _ _ (T114.setTop (mkF m 8 #[.val (.ref r0)] [(.double (FP.ddiv (FP.l2d z) (FP.i2d (2 : Int32))))]))
  refine own_retD Y115 hx hlk hret (hb hby own_d4_8) (by decide) (by decide) ?_
  exact ⟨rfl, rfl⟩
theorem own_d6_0 : decode prog_20_method_5_code 0 = .ok (.aload_n 0, 1) := by decide +kernel
theorem own_d6_1 : decode prog_20_method_5_code 1 = .ok (.aload_n 0, 1) := by decide +kernel
theorem own_d6_2 : decode prog_20_method_5_code 2 = .ok (.getfield 34, 3) := by decide +kernel
theorem own_d6_5 : decode prog_20_method_5_code 5 = .ok (.invokevirtual 40, 3) := by decide +kernel
theorem own_d6_8 : decode prog_20_method_5_code 8 = .ok (.dreturn, 1) := by decide +kernel
theorem own_ef_own_rm6_1 (m : MethodId) (r0 : Addr) : entryFrame m #[(.ref r0)] 1 = mkF m 0 #[.val (.ref r0)] [] := by first | (simp [entryFrame, mkF, argsToLocals, Value.category]; done) | rfl
def own_Q_own_rm6_1 (Z : State) (z : Int64) (h0 : Heap) (n0 : Nat) (v : Option Value) (h : Heap) : Prop := v = some (.double (FP.ddiv (FP.l2d z) (FP.i2d (1 : Int32)))) ∧ h0 = h
set_option maxRecDepth 65536 in
set_option maxHeartbeats 40000000 in
theorem own_rm6_1 (l : Launch) (Z : State) (a0 : Array Value) (hw : ∀ d ∈ tables_1, d.before a0 Z = true) (ws : List Jvm.Cond) (r0 : Addr) (z : Int64) (h0 : Heap) (n0 : Nat)  (E : Exa Z h0 r0 "com/example/tierpath/tierpath/BoundsTally") (F : Fld Z h0 r0 "com/example/tierpath/tierpath/BoundsTally" "pairs" "I" (.int 1)) (G : Fld Z h0 r0 "com/example/tierpath/tierpath/BoundsTally" "setsPruned" "J" (.long z)) :
    own_Con l Z (⟨"com/example/tierpath/tierpath/BoundsTally", "meanSetsPruned", "()D"⟩ : MethodName) prog_20_method_5_code 1 (some .double) ws ({ frames := 1, cells := 0, slots := 0, locals := 14 } : Room) #[(.ref r0)] h0 n0 (own_Q_own_rm6_1 Z z h0 n0) := by
  refine own_body (plainFor_of_name own_pn0) ?_
  intro p e s m below meth c T0 hx hZ hby hml hown hnm hret hlk Y0
  replace hown : s.vm.findClass "com/example/tierpath/tierpath/BoundsTally" = some m.cls := hown
  replace hnm : meth.name = "meanSetsPruned" := hnm
  rw [own_ef_own_rm6_1 m r0]
  show own_Ends _ _ _ _ (T0.setTop (mkF m 0 #[.val (.ref r0)] []))
  refine own_st (fun t_ => XS.aloadN (own_here Y0) hx rfl (hb hby own_d6_0) rfl rfl) ?_
  show own_Ends _ _ _ _ (T0.setTop (mkF m 1 #[.val (.ref r0)] [(.ref r0)]))
  refine own_st (fun t_ => XS.aloadN (own_here Y0) hx rfl (hb hby own_d6_1) rfl rfl) ?_
  show own_Ends _ _ _ _ (T0.setTop (mkF m 2 #[.val (.ref r0)] [(.ref r0), (.ref r0)]))
  refine own_getF Y0 hx hZ hown (host := "") (Or.inl (hw _ (List.mem_of_getElem? (i := 18) rfl))) Via.refl G rfl rfl (hb hby own_d6_2) (fun T119 Y120 => ?_)
  show own_Ends _ _ _ _ (T119.setTop (mkF m 5 #[.val (.ref r0)] [(.long z), (.ref r0)]))
  refine own_callP Y120 hx hZ (y := (⟨"com/example/tierpath/tierpath/BoundsTally", "mean", "(J)D"⟩ : MethodName)) hown (hw _ (List.mem_of_getElem? (i := 27) rfl)) (hw _ (List.mem_of_getElem? (i := 28) rfl)) (hw _ (List.mem_of_getElem? (i := 1) rfl)) (hw _ (List.mem_of_getElem? (i := 29) rfl)) (hw _ (List.mem_of_getElem? (i := 2) rfl)) (hw _ (List.mem_of_getElem? (i := 30) rfl)) (by decide) (a := r0) E (argsL := [(.long z)]) (rest := []) (own_rm5_1 l Z a0 hw [] r0 z  h0 n0  F) (W := 0) (by decide) (by decide) (by decide) (by decide) rfl (by rw [hml]; rfl) (lenOf own_pd0 rfl) rfl (by show 2 * 0 + _ ≤ _; exact Nat.le_of_eq rfl) (hb hby own_d6_5) (fun T121 h123 v124 Y122 q125 => ?_)
  obtain ⟨rfl, rfl⟩ := q125
  show own_Ends _ _ _ _ (T121.setTop (mkF m 8 #[.val (.ref r0)] [(.double (FP.ddiv (FP.l2d z) (FP.i2d (1 : Int32))))]))
  refine own_retD Y122 hx hlk hret (hb hby own_d6_8) (by decide) (by decide) ?_
  exact ⟨rfl, rfl⟩
theorem own_ef_own_rm6_2 (m : MethodId) (r0 : Addr) : entryFrame m #[(.ref r0)] 1 = mkF m 0 #[.val (.ref r0)] [] := by first | (simp [entryFrame, mkF, argsToLocals, Value.category]; done) | rfl
def own_Q_own_rm6_2 (Z : State) (z : Int64) (h0 : Heap) (n0 : Nat) (v : Option Value) (h : Heap) : Prop := v = some (.double (FP.ddiv (FP.l2d z) (FP.i2d (2 : Int32)))) ∧ h0 = h
set_option maxRecDepth 65536 in
set_option maxHeartbeats 40000000 in
theorem own_rm6_2 (l : Launch) (Z : State) (a0 : Array Value) (hw : ∀ d ∈ tables_1, d.before a0 Z = true) (ws : List Jvm.Cond) (r0 : Addr) (z : Int64) (h0 : Heap) (n0 : Nat)  (E : Exa Z h0 r0 "com/example/tierpath/tierpath/BoundsTally") (F : Fld Z h0 r0 "com/example/tierpath/tierpath/BoundsTally" "pairs" "I" (.int 2)) (G : Fld Z h0 r0 "com/example/tierpath/tierpath/BoundsTally" "setsPruned" "J" (.long z)) :
    own_Con l Z (⟨"com/example/tierpath/tierpath/BoundsTally", "meanSetsPruned", "()D"⟩ : MethodName) prog_20_method_5_code 1 (some .double) ws ({ frames := 1, cells := 0, slots := 0, locals := 14 } : Room) #[(.ref r0)] h0 n0 (own_Q_own_rm6_2 Z z h0 n0) := by
  refine own_body (plainFor_of_name own_pn0) ?_
  intro p e s m below meth c T0 hx hZ hby hml hown hnm hret hlk Y0
  replace hown : s.vm.findClass "com/example/tierpath/tierpath/BoundsTally" = some m.cls := hown
  replace hnm : meth.name = "meanSetsPruned" := hnm
  rw [own_ef_own_rm6_2 m r0]
  show own_Ends _ _ _ _ (T0.setTop (mkF m 0 #[.val (.ref r0)] []))
  refine own_st (fun t_ => XS.aloadN (own_here Y0) hx rfl (hb hby own_d6_0) rfl rfl) ?_
  show own_Ends _ _ _ _ (T0.setTop (mkF m 1 #[.val (.ref r0)] [(.ref r0)]))
  refine own_st (fun t_ => XS.aloadN (own_here Y0) hx rfl (hb hby own_d6_1) rfl rfl) ?_
  show own_Ends _ _ _ _ (T0.setTop (mkF m 2 #[.val (.ref r0)] [(.ref r0), (.ref r0)]))
  refine own_getF Y0 hx hZ hown (host := "") (Or.inl (hw _ (List.mem_of_getElem? (i := 18) rfl))) Via.refl G rfl rfl (hb hby own_d6_2) (fun T126 Y127 => ?_)
  show own_Ends _ _ _ _ (T126.setTop (mkF m 5 #[.val (.ref r0)] [(.long z), (.ref r0)]))
  refine own_callP Y127 hx hZ (y := (⟨"com/example/tierpath/tierpath/BoundsTally", "mean", "(J)D"⟩ : MethodName)) hown (hw _ (List.mem_of_getElem? (i := 27) rfl)) (hw _ (List.mem_of_getElem? (i := 28) rfl)) (hw _ (List.mem_of_getElem? (i := 1) rfl)) (hw _ (List.mem_of_getElem? (i := 29) rfl)) (hw _ (List.mem_of_getElem? (i := 2) rfl)) (hw _ (List.mem_of_getElem? (i := 30) rfl)) (by decide) (a := r0) E (argsL := [(.long z)]) (rest := []) (own_rm5_2 l Z a0 hw [] r0 z  h0 n0  F) (W := 0) (by decide) (by decide) (by decide) (by decide) rfl (by rw [hml]; rfl) (lenOf own_pd0 rfl) rfl (by show 2 * 0 + _ ≤ _; exact Nat.le_of_eq rfl) (hb hby own_d6_5) (fun T128 h130 v131 Y129 q132 => ?_)
  obtain ⟨rfl, rfl⟩ := q132
  show own_Ends _ _ _ _ (T128.setTop (mkF m 8 #[.val (.ref r0)] [(.double (FP.ddiv (FP.l2d z) (FP.i2d (2 : Int32))))]))
  refine own_retD Y129 hx hlk hret (hb hby own_d6_8) (by decide) (by decide) ?_
  exact ⟨rfl, rfl⟩
theorem own_d7_0 : decode prog_20_method_6_code 0 = .ok (.aload_n 0, 1) := by decide +kernel
theorem own_d7_1 : decode prog_20_method_6_code 1 = .ok (.aload_n 0, 1) := by decide +kernel
theorem own_d7_2 : decode prog_20_method_6_code 2 = .ok (.getfield 37, 3) := by decide +kernel
theorem own_d7_5 : decode prog_20_method_6_code 5 = .ok (.invokevirtual 40, 3) := by decide +kernel
theorem own_d7_8 : decode prog_20_method_6_code 8 = .ok (.dreturn, 1) := by decide +kernel
theorem own_ef_own_rm7_1 (m : MethodId) (r0 : Addr) : entryFrame m #[(.ref r0)] 1 = mkF m 0 #[.val (.ref r0)] [] := by first | (simp [entryFrame, mkF, argsToLocals, Value.category]; done) | rfl
def own_Q_own_rm7_1 (Z : State) (z : Int64) (h0 : Heap) (n0 : Nat) (v : Option Value) (h : Heap) : Prop := v = some (.double (FP.ddiv (FP.l2d z) (FP.i2d (1 : Int32)))) ∧ h0 = h
set_option maxRecDepth 65536 in
set_option maxHeartbeats 40000000 in
theorem own_rm7_1 (l : Launch) (Z : State) (a0 : Array Value) (hw : ∀ d ∈ tables_1, d.before a0 Z = true) (ws : List Jvm.Cond) (r0 : Addr) (z : Int64) (h0 : Heap) (n0 : Nat)  (E : Exa Z h0 r0 "com/example/tierpath/tierpath/BoundsTally") (F : Fld Z h0 r0 "com/example/tierpath/tierpath/BoundsTally" "pairs" "I" (.int 1)) (G : Fld Z h0 r0 "com/example/tierpath/tierpath/BoundsTally" "reads" "J" (.long z)) :
    own_Con l Z (⟨"com/example/tierpath/tierpath/BoundsTally", "meanReads", "()D"⟩ : MethodName) prog_20_method_6_code 1 (some .double) ws ({ frames := 1, cells := 0, slots := 0, locals := 14 } : Room) #[(.ref r0)] h0 n0 (own_Q_own_rm7_1 Z z h0 n0) := by
  refine own_body (plainFor_of_name own_pn0) ?_
  intro p e s m below meth c T0 hx hZ hby hml hown hnm hret hlk Y0
  replace hown : s.vm.findClass "com/example/tierpath/tierpath/BoundsTally" = some m.cls := hown
  replace hnm : meth.name = "meanReads" := hnm
  rw [own_ef_own_rm7_1 m r0]
  show own_Ends _ _ _ _ (T0.setTop (mkF m 0 #[.val (.ref r0)] []))
  refine own_st (fun t_ => XS.aloadN (own_here Y0) hx rfl (hb hby own_d7_0) rfl rfl) ?_
  show own_Ends _ _ _ _ (T0.setTop (mkF m 1 #[.val (.ref r0)] [(.ref r0)]))
  refine own_st (fun t_ => XS.aloadN (own_here Y0) hx rfl (hb hby own_d7_1) rfl rfl) ?_
  show own_Ends _ _ _ _ (T0.setTop (mkF m 2 #[.val (.ref r0)] [(.ref r0), (.ref r0)]))
  refine own_getF Y0 hx hZ hown (host := "") (Or.inl (hw _ (List.mem_of_getElem? (i := 20) rfl))) Via.refl G rfl rfl (hb hby own_d7_2) (fun T133 Y134 => ?_)
  show own_Ends _ _ _ _ (T133.setTop (mkF m 5 #[.val (.ref r0)] [(.long z), (.ref r0)]))
  refine own_callP Y134 hx hZ (y := (⟨"com/example/tierpath/tierpath/BoundsTally", "mean", "(J)D"⟩ : MethodName)) hown (hw _ (List.mem_of_getElem? (i := 27) rfl)) (hw _ (List.mem_of_getElem? (i := 28) rfl)) (hw _ (List.mem_of_getElem? (i := 1) rfl)) (hw _ (List.mem_of_getElem? (i := 29) rfl)) (hw _ (List.mem_of_getElem? (i := 2) rfl)) (hw _ (List.mem_of_getElem? (i := 30) rfl)) (by decide) (a := r0) E (argsL := [(.long z)]) (rest := []) (own_rm5_1 l Z a0 hw [] r0 z  h0 n0  F) (W := 0) (by decide) (by decide) (by decide) (by decide) rfl (by rw [hml]; rfl) (lenOf own_pd0 rfl) rfl (by show 2 * 0 + _ ≤ _; exact Nat.le_of_eq rfl) (hb hby own_d7_5) (fun T135 h137 v138 Y136 q139 => ?_)
  obtain ⟨rfl, rfl⟩ := q139
  show own_Ends _ _ _ _ (T135.setTop (mkF m 8 #[.val (.ref r0)] [(.double (FP.ddiv (FP.l2d z) (FP.i2d (1 : Int32))))]))
  refine own_retD Y136 hx hlk hret (hb hby own_d7_8) (by decide) (by decide) ?_
  exact ⟨rfl, rfl⟩
theorem own_ef_own_rm7_2 (m : MethodId) (r0 : Addr) : entryFrame m #[(.ref r0)] 1 = mkF m 0 #[.val (.ref r0)] [] := by first | (simp [entryFrame, mkF, argsToLocals, Value.category]; done) | rfl
def own_Q_own_rm7_2 (Z : State) (z : Int64) (h0 : Heap) (n0 : Nat) (v : Option Value) (h : Heap) : Prop := v = some (.double (FP.ddiv (FP.l2d z) (FP.i2d (2 : Int32)))) ∧ h0 = h
set_option maxRecDepth 65536 in
set_option maxHeartbeats 40000000 in
theorem own_rm7_2 (l : Launch) (Z : State) (a0 : Array Value) (hw : ∀ d ∈ tables_1, d.before a0 Z = true) (ws : List Jvm.Cond) (r0 : Addr) (z : Int64) (h0 : Heap) (n0 : Nat)  (E : Exa Z h0 r0 "com/example/tierpath/tierpath/BoundsTally") (F : Fld Z h0 r0 "com/example/tierpath/tierpath/BoundsTally" "pairs" "I" (.int 2)) (G : Fld Z h0 r0 "com/example/tierpath/tierpath/BoundsTally" "reads" "J" (.long z)) :
    own_Con l Z (⟨"com/example/tierpath/tierpath/BoundsTally", "meanReads", "()D"⟩ : MethodName) prog_20_method_6_code 1 (some .double) ws ({ frames := 1, cells := 0, slots := 0, locals := 14 } : Room) #[(.ref r0)] h0 n0 (own_Q_own_rm7_2 Z z h0 n0) := by
  refine own_body (plainFor_of_name own_pn0) ?_
  intro p e s m below meth c T0 hx hZ hby hml hown hnm hret hlk Y0
  replace hown : s.vm.findClass "com/example/tierpath/tierpath/BoundsTally" = some m.cls := hown
  replace hnm : meth.name = "meanReads" := hnm
  rw [own_ef_own_rm7_2 m r0]
  show own_Ends _ _ _ _ (T0.setTop (mkF m 0 #[.val (.ref r0)] []))
  refine own_st (fun t_ => XS.aloadN (own_here Y0) hx rfl (hb hby own_d7_0) rfl rfl) ?_
  show own_Ends _ _ _ _ (T0.setTop (mkF m 1 #[.val (.ref r0)] [(.ref r0)]))
  refine own_st (fun t_ => XS.aloadN (own_here Y0) hx rfl (hb hby own_d7_1) rfl rfl) ?_
  show own_Ends _ _ _ _ (T0.setTop (mkF m 2 #[.val (.ref r0)] [(.ref r0), (.ref r0)]))
  refine own_getF Y0 hx hZ hown (host := "") (Or.inl (hw _ (List.mem_of_getElem? (i := 20) rfl))) Via.refl G rfl rfl (hb hby own_d7_2) (fun T140 Y141 => ?_)
  show own_Ends _ _ _ _ (T140.setTop (mkF m 5 #[.val (.ref r0)] [(.long z), (.ref r0)]))
  refine own_callP Y141 hx hZ (y := (⟨"com/example/tierpath/tierpath/BoundsTally", "mean", "(J)D"⟩ : MethodName)) hown (hw _ (List.mem_of_getElem? (i := 27) rfl)) (hw _ (List.mem_of_getElem? (i := 28) rfl)) (hw _ (List.mem_of_getElem? (i := 1) rfl)) (hw _ (List.mem_of_getElem? (i := 29) rfl)) (hw _ (List.mem_of_getElem? (i := 2) rfl)) (hw _ (List.mem_of_getElem? (i := 30) rfl)) (by decide) (a := r0) E (argsL := [(.long z)]) (rest := []) (own_rm5_2 l Z a0 hw [] r0 z  h0 n0  F) (W := 0) (by decide) (by decide) (by decide) (by decide) rfl (by rw [hml]; rfl) (lenOf own_pd0 rfl) rfl (by show 2 * 0 + _ ≤ _; exact Nat.le_of_eq rfl) (hb hby own_d7_5) (fun T142 h144 v145 Y143 q146 => ?_)
  obtain ⟨rfl, rfl⟩ := q146
  show own_Ends _ _ _ _ (T142.setTop (mkF m 8 #[.val (.ref r0)] [(.double (FP.ddiv (FP.l2d z) (FP.i2d (2 : Int32))))]))
  refine own_retD Y143 hx hlk hret (hb hby own_d7_8) (by decide) (by decide) ?_
  exact ⟨rfl, rfl⟩
theorem own_pn1 : plainName "com/example/tierpath/tierpath/BoundsTallyAddPinLaw" = true := by first | (simp [plainName, overriddenIn]; done) | decide +kernel
theorem own_pd1 : parseMethodDescriptor "()V" = some ⟨[], none⟩ := by decide +kernel
theorem own_pd2 : parseMethodDescriptor "(JJJ)V" = some ⟨[.long, .long, .long], none⟩ := by decide +kernel
theorem own_pd3 : parseMethodDescriptor "()D" = some ⟨[], some .double⟩ := by decide +kernel
theorem own_ef_own_rm0 (m : MethodId) (x0 : Int64) (x1 : Int64) (x2 : Int64) (x3 : Int64) (x4 : Int64) (x5 : Int64) : entryFrame m #[(.long x0), (.long x1), (.long x2), (.long x3), (.long x4), (.long x5)] maxLocals = mkF m 0 #[.val (.long x0), .second, .val (.long x1), .second, .val (.long x2), .second, .val (.long x3), .second, .val (.long x4), .second, .val (.long x5), .second, .unset, .unset, .unset, .unset, .unset, .unset, .unset, .unset, .unset] [] := by first | (simp [entryFrame, mkF, argsToLocals, Value.category, maxLocals]; done) | rfl
def own_Q_own_rm0 (Z : State) (x0 : Int64) (x1 : Int64) (x2 : Int64) (x3 : Int64) (x4 : Int64) (x5 : Int64) (h0 : Heap) (n0 : Nat) (v : Option Value) (h : Heap) : Prop := v = some (.int 1)
set_option maxRecDepth 65536 in
set_option maxHeartbeats 40000000 in
theorem own_rm0 (l : Launch) (Z : State) (a0 : Array Value) (hw : ∀ d ∈ tables_1, d.before a0 Z = true) (ws : List Jvm.Cond) (x0 : Int64) (x1 : Int64) (x2 : Int64) (x3 : Int64) (x4 : Int64) (x5 : Int64)  (h0 : Heap) (n0 : Nat) (Z0 : n0 ≤ h0.size)  :
    own_Con l Z x code maxLocals ret ws room_1 #[(.long x0), (.long x1), (.long x2), (.long x3), (.long x4), (.long x5)] h0 n0 (own_Q_own_rm0 Z x0 x1 x2 x3 x4 x5 h0 n0) := by
  refine own_body (plainFor_of_name own_pn1) ?_
  intro p e s m below meth c T0 hx hZ hby hml hown hnm hret hlk Y0
  replace hown : s.vm.findClass "com/example/tierpath/tierpath/BoundsTallyAddPinLaw" = some m.cls := hown
  replace hml : c.maxLocals = 21 := hml
  replace hret : meth.sig.returnType = some .boolean := hret
  rw [own_ef_own_rm0 m x0 x1 x2 x3 x4 x5]
  show own_Ends _ _ _ _ (T0.setTop (mkF m 0 #[.val (.long x0), .second, .val (.long x1), .second, .val (.long x2), .second, .val (.long x3), .second, .val (.long x4), .second, .val (.long x5), .second, .unset, .unset, .unset, .unset, .unset, .unset, .unset, .unset, .unset] []))
  refine own_new Y0 hx hZ hown (hw _ (List.mem_of_getElem? (i := 0) rfl)) (hw _ (List.mem_of_getElem? (i := 1) rfl)) (hw _ (List.mem_of_getElem? (i := 2) rfl)) rfl (hb hby at_0) (by decide) (by decide) (fun T147 h149 b153 eb154 Y148 E150 X151 D152 => ?_)
  have g155 : n0 ≤ b153 := by rw [eb154]; exact Z0
  have F156 : Fld Z h149 b153 "com/example/tierpath/tierpath/BoundsTally" "pairs" "I" (.int (0 : Int32)) := D152 _ _ _ .int (Or.inl (hw _ (List.mem_of_getElem? (i := 15) rfl))) (by decide)
  have F157 : Fld Z h149 b153 "com/example/tierpath/tierpath/BoundsTally" "boundaryClosed" "J" (.long (0 : Int64)) := D152 _ _ _ .long (Or.inl (hw _ (List.mem_of_getElem? (i := 17) rfl))) (by decide)
  have F158 : Fld Z h149 b153 "com/example/tierpath/tierpath/BoundsTally" "setsPruned" "J" (.long (0 : Int64)) := D152 _ _ _ .long (Or.inl (hw _ (List.mem_of_getElem? (i := 19) rfl))) (by decide)
  have F159 : Fld Z h149 b153 "com/example/tierpath/tierpath/BoundsTally" "reads" "J" (.long (0 : Int64)) := D152 _ _ _ .long (Or.inl (hw _ (List.mem_of_getElem? (i := 21) rfl))) (by decide)
  show own_Ends _ _ _ _ (T147.setTop (mkF m 3 #[.val (.long x0), .second, .val (.long x1), .second, .val (.long x2), .second, .val (.long x3), .second, .val (.long x4), .second, .val (.long x5), .second, .unset, .unset, .unset, .unset, .unset, .unset, .unset, .unset, .unset] [(.ref b153)]))
  refine own_st (fun t_ => XS.dup (own_here Y148) hx rfl (hb hby at_3) rfl rfl) ?_
  show own_Ends _ _ _ _ (T147.setTop (mkF m 4 #[.val (.long x0), .second, .val (.long x1), .second, .val (.long x2), .second, .val (.long x3), .second, .val (.long x4), .second, .val (.long x5), .second, .unset, .unset, .unset, .unset, .unset, .unset, .unset, .unset, .unset] [(.ref b153), (.ref b153)]))
  refine own_callN Y148 hx hZ (y := (⟨"com/example/tierpath/tierpath/BoundsTally", "<init>", "()V"⟩ : MethodName)) rfl hown (hw _ (List.mem_of_getElem? (i := 3) rfl)) (hw _ (List.mem_of_getElem? (i := 4) rfl)) (hw _ (List.mem_of_getElem? (i := 2) rfl)) (hw _ (List.mem_of_getElem? (i := 5) rfl)) (by decide) (a := b153) (argsL := []) (rest := [(.ref b153)]) (own_rm1 l Z a0 hw [] b153  h149 n0  ) (W := 1) (by decide) (by decide) (by decide) (by decide) rfl (by rw [hml]; rfl) (lenOf own_pd1 rfl) rfl (by show 2 * 0 + _ ≤ _; exact Nat.le_of_eq rfl) (hb hby at_4) (fun T160 h162 v163 Y161 q164 => ?_)
  obtain ⟨rfl, rfl⟩ := q164
  show own_Ends _ _ _ _ (T160.setTop (mkF m 7 #[.val (.long x0), .second, .val (.long x1), .second, .val (.long x2), .second, .val (.long x3), .second, .val (.long x4), .second, .val (.long x5), .second, .unset, .unset, .unset, .unset, .unset, .unset, .unset, .unset, .unset] [(.ref b153)]))
  refine own_st (fun t_ => XS.astore (own_here Y161) hx rfl (hb hby at_7) rfl rfl (l' := #[.val (.long x0), .second, .val (.long x1), .second, .val (.long x2), .second, .val (.long x3), .second, .val (.long x4), .second, .val (.long x5), .second, .val (.ref b153), .unset, .unset, .unset, .unset, .unset, .unset, .unset, .unset]) rfl) ?_
  show own_Ends _ _ _ _ (T160.setTop (mkF m 9 #[.val (.long x0), .second, .val (.long x1), .second, .val (.long x2), .second, .val (.long x3), .second, .val (.long x4), .second, .val (.long x5), .second, .val (.ref b153), .unset, .unset, .unset, .unset, .unset, .unset, .unset, .unset] []))
  refine own_st (fun t_ => XS.aload (own_here Y161) hx rfl (hb hby at_9) rfl rfl) ?_
  show own_Ends _ _ _ _ (T160.setTop (mkF m 11 #[.val (.long x0), .second, .val (.long x1), .second, .val (.long x2), .second, .val (.long x3), .second, .val (.long x4), .second, .val (.long x5), .second, .val (.ref b153), .unset, .unset, .unset, .unset, .unset, .unset, .unset, .unset] [(.ref b153)]))
  refine own_st (fun t_ => XS.lloadN (own_here Y161) hx rfl (hb hby at_11) rfl) ?_
  show own_Ends _ _ _ _ (T160.setTop (mkF m 12 #[.val (.long x0), .second, .val (.long x1), .second, .val (.long x2), .second, .val (.long x3), .second, .val (.long x4), .second, .val (.long x5), .second, .val (.ref b153), .unset, .unset, .unset, .unset, .unset, .unset, .unset, .unset] [(.long x0), (.ref b153)]))
  refine own_st (fun t_ => XS.lloadN (own_here Y161) hx rfl (hb hby at_12) rfl) ?_
  show own_Ends _ _ _ _ (T160.setTop (mkF m 13 #[.val (.long x0), .second, .val (.long x1), .second, .val (.long x2), .second, .val (.long x3), .second, .val (.long x4), .second, .val (.long x5), .second, .val (.ref b153), .unset, .unset, .unset, .unset, .unset, .unset, .unset, .unset] [(.long x1), (.long x0), (.ref b153)]))
  refine own_st (fun t_ => XS.lload (own_here Y161) hx rfl (hb hby at_13) rfl) ?_
  show own_Ends _ _ _ _ (T160.setTop (mkF m 15 #[.val (.long x0), .second, .val (.long x1), .second, .val (.long x2), .second, .val (.long x3), .second, .val (.long x4), .second, .val (.long x5), .second, .val (.ref b153), .unset, .unset, .unset, .unset, .unset, .unset, .unset, .unset] [(.long x2), (.long x1), (.long x0), (.ref b153)]))
  refine own_callV Y161 hx hZ (y := (⟨"com/example/tierpath/tierpath/BoundsTally", "add", "(JJJ)V"⟩ : MethodName)) (z := (⟨"com/example/tierpath/tierpath/BoundsTally", "add", "(JJJ)V"⟩ : MethodName)) hown (hw _ (List.mem_of_getElem? (i := 9) rfl)) (hw _ (List.mem_of_getElem? (i := 10) rfl)) (notFace_of_selects (args := #[]) (mvT hZ (hw _ (List.mem_of_getElem? (i := 12) rfl)))) (hw _ (List.mem_of_getElem? (i := 12) rfl)) (hw _ (List.mem_of_getElem? (i := 11) rfl)) (hw _ (List.mem_of_getElem? (i := 2) rfl)) (hw _ (List.mem_of_getElem? (i := 13) rfl)) (by decide) (a := b153) X151 (argsL := [(.long x0), (.long x1), (.long x2)]) (rest := []) (own_rm3_0 l Z a0 hw [] b153 x0 x1 x2 (0 : Int64) (0 : Int64) (0 : Int64) h149 n0  X151 F156 F157 F158 F159 g155) (W := 0) (by decide) (by decide) (by decide) (by decide) rfl (by rw [hml]; rfl) (lenOf own_pd2 rfl) rfl (by show 2 * 0 + _ ≤ _; exact Nat.le_of_eq rfl) (hb hby at_15) (fun T165 h167 v168 Y166 q169 => ?_)
  obtain ⟨rfl, K170, F171, F172, F173, F174⟩ := q169
  show own_Ends _ _ _ _ (T165.setTop (mkF m 18 #[.val (.long x0), .second, .val (.long x1), .second, .val (.long x2), .second, .val (.long x3), .second, .val (.long x4), .second, .val (.long x5), .second, .val (.ref b153), .unset, .unset, .unset, .unset, .unset, .unset, .unset, .unset] []))
  refine own_st (fun t_ => XS.aload (own_here Y166) hx rfl (hb hby at_18) rfl rfl) ?_
  show own_Ends _ _ _ _ (T165.setTop (mkF m 20 #[.val (.long x0), .second, .val (.long x1), .second, .val (.long x2), .second, .val (.long x3), .second, .val (.long x4), .second, .val (.long x5), .second, .val (.ref b153), .unset, .unset, .unset, .unset, .unset, .unset, .unset, .unset] [(.ref b153)]))
  have f175 : Exa Z h167 b153 "com/example/tierpath/tierpath/BoundsTally" := X151.keep K170
  refine own_callV Y166 hx hZ (y := (⟨"com/example/tierpath/tierpath/BoundsTally", "meanBoundaryClosed", "()D"⟩ : MethodName)) (z := (⟨"com/example/tierpath/tierpath/BoundsTally", "meanBoundaryClosed", "()D"⟩ : MethodName)) hown (hw _ (List.mem_of_getElem? (i := 22) rfl)) (hw _ (List.mem_of_getElem? (i := 23) rfl)) (notFace_of_selects (args := #[]) (mvT hZ (hw _ (List.mem_of_getElem? (i := 25) rfl)))) (hw _ (List.mem_of_getElem? (i := 25) rfl)) (hw _ (List.mem_of_getElem? (i := 24) rfl)) (hw _ (List.mem_of_getElem? (i := 2) rfl)) (hw _ (List.mem_of_getElem? (i := 26) rfl)) (by decide) (a := b153) f175 (argsL := []) (rest := []) (own_rm4_1 l Z a0 hw [] b153 ((0 : Int64) + x0) h167 n0  f175 F171 F172) (W := 0) (by decide) (by decide) (by decide) (by decide) rfl (by rw [hml]; rfl) (lenOf own_pd3 rfl) rfl (by show 2 * 0 + _ ≤ _; exact Nat.le_of_eq rfl) (hb hby at_20) (fun T176 h178 v179 Y177 q180 => ?_)
  obtain ⟨rfl, rfl⟩ := q180
  show own_Ends _ _ _ _ (T176.setTop (mkF m 23 #[.val (.long x0), .second, .val (.long x1), .second, .val (.long x2), .second, .val (.long x3), .second, .val (.long x4), .second, .val (.long x5), .second, .val (.ref b153), .unset, .unset, .unset, .unset, .unset, .unset, .unset, .unset] [(.double (FP.ddiv (FP.l2d ((0 : Int64) + x0)) (FP.i2d (1 : Int32))))]))
  refine own_st (fun t_ => XS.lloadN (own_here Y177) hx rfl (hb hby at_23) rfl) ?_
  show own_Ends _ _ _ _ (T176.setTop (mkF m 24 #[.val (.long x0), .second, .val (.long x1), .second, .val (.long x2), .second, .val (.long x3), .second, .val (.long x4), .second, .val (.long x5), .second, .val (.ref b153), .unset, .unset, .unset, .unset, .unset, .unset, .unset, .unset] [(.long x0), (.double (FP.ddiv (FP.l2d ((0 : Int64) + x0)) (FP.i2d (1 : Int32))))]))
  refine own_st (fun t_ => XS.l2dS (own_here Y177) hx rfl (hb hby at_24) rfl rfl) ?_
  show own_Ends _ _ _ _ (T176.setTop (mkF m 25 #[.val (.long x0), .second, .val (.long x1), .second, .val (.long x2), .second, .val (.long x3), .second, .val (.long x4), .second, .val (.long x5), .second, .val (.ref b153), .unset, .unset, .unset, .unset, .unset, .unset, .unset, .unset] [(.double (FP.l2d x0)), (.double (FP.ddiv (FP.l2d ((0 : Int64) + x0)) (FP.i2d (1 : Int32))))]))
  refine own_st (fun t_ => XS.dcmpS (own_here Y177) hx rfl (hb hby at_25) rfl (own_cmp1 _)) ?_
  show own_Ends _ _ _ _ (T176.setTop (mkF m 26 #[.val (.long x0), .second, .val (.long x1), .second, .val (.long x2), .second, .val (.long x3), .second, .val (.long x4), .second, .val (.long x5), .second, .val (.ref b153), .unset, .unset, .unset, .unset, .unset, .unset, .unset, .unset] [(.int (0 : Int32))]))
  refine own_st (fun t_ => XS.ifNo (own_here Y177) hx rfl (hb hby at_26) rfl (XT.i0_ne_f (by decide))) ?_
  show own_Ends _ _ _ _ (T176.setTop (mkF m 29 #[.val (.long x0), .second, .val (.long x1), .second, .val (.long x2), .second, .val (.long x3), .second, .val (.long x4), .second, .val (.long x5), .second, .val (.ref b153), .unset, .unset, .unset, .unset, .unset, .unset, .unset, .unset] []))
  refine own_st (fun t_ => XS.aload (own_here Y177) hx rfl (hb hby at_29) rfl rfl) ?_
  show own_Ends _ _ _ _ (T176.setTop (mkF m 31 #[.val (.long x0), .second, .val (.long x1), .second, .val (.long x2), .second, .val (.long x3), .second, .val (.long x4), .second, .val (.long x5), .second, .val (.ref b153), .unset, .unset, .unset, .unset, .unset, .unset, .unset, .unset] [(.ref b153)]))
  refine own_callV Y177 hx hZ (y := (⟨"com/example/tierpath/tierpath/BoundsTally", "meanSetsPruned", "()D"⟩ : MethodName)) (z := (⟨"com/example/tierpath/tierpath/BoundsTally", "meanSetsPruned", "()D"⟩ : MethodName)) hown (hw _ (List.mem_of_getElem? (i := 31) rfl)) (hw _ (List.mem_of_getElem? (i := 32) rfl)) (notFace_of_selects (args := #[]) (mvT hZ (hw _ (List.mem_of_getElem? (i := 34) rfl)))) (hw _ (List.mem_of_getElem? (i := 34) rfl)) (hw _ (List.mem_of_getElem? (i := 33) rfl)) (hw _ (List.mem_of_getElem? (i := 2) rfl)) (hw _ (List.mem_of_getElem? (i := 35) rfl)) (by decide) (a := b153) f175 (argsL := []) (rest := []) (own_rm6_1 l Z a0 hw [] b153 ((0 : Int64) + x1) h167 n0  f175 F171 F173) (W := 0) (by decide) (by decide) (by decide) (by decide) rfl (by rw [hml]; rfl) (lenOf own_pd3 rfl) rfl (by show 2 * 0 + _ ≤ _; exact Nat.le_of_eq rfl) (hb hby at_31) (fun T181 h183 v184 Y182 q185 => ?_)
  obtain ⟨rfl, rfl⟩ := q185
  show own_Ends _ _ _ _ (T181.setTop (mkF m 34 #[.val (.long x0), .second, .val (.long x1), .second, .val (.long x2), .second, .val (.long x3), .second, .val (.long x4), .second, .val (.long x5), .second, .val (.ref b153), .unset, .unset, .unset, .unset, .unset, .unset, .unset, .unset] [(.double (FP.ddiv (FP.l2d ((0 : Int64) + x1)) (FP.i2d (1 : Int32))))]))
  refine own_st (fun t_ => XS.lloadN (own_here Y182) hx rfl (hb hby at_34) rfl) ?_
  show own_Ends _ _ _ _ (T181.setTop (mkF m 35 #[.val (.long x0), .second, .val (.long x1), .second, .val (.long x2), .second, .val (.long x3), .second, .val (.long x4), .second, .val (.long x5), .second, .val (.ref b153), .unset, .unset, .unset, .unset, .unset, .unset, .unset, .unset] [(.long x1), (.double (FP.ddiv (FP.l2d ((0 : Int64) + x1)) (FP.i2d (1 : Int32))))]))
  refine own_st (fun t_ => XS.l2dS (own_here Y182) hx rfl (hb hby at_35) rfl rfl) ?_
  show own_Ends _ _ _ _ (T181.setTop (mkF m 36 #[.val (.long x0), .second, .val (.long x1), .second, .val (.long x2), .second, .val (.long x3), .second, .val (.long x4), .second, .val (.long x5), .second, .val (.ref b153), .unset, .unset, .unset, .unset, .unset, .unset, .unset, .unset] [(.double (FP.l2d x1)), (.double (FP.ddiv (FP.l2d ((0 : Int64) + x1)) (FP.i2d (1 : Int32))))]))
  refine own_st (fun t_ => XS.dcmpS (own_here Y182) hx rfl (hb hby at_36) rfl (own_cmp1 _)) ?_
  show own_Ends _ _ _ _ (T181.setTop (mkF m 37 #[.val (.long x0), .second, .val (.long x1), .second, .val (.long x2), .second, .val (.long x3), .second, .val (.long x4), .second, .val (.long x5), .second, .val (.ref b153), .unset, .unset, .unset, .unset, .unset, .unset, .unset, .unset] [(.int (0 : Int32))]))
  refine own_st (fun t_ => XS.ifNo (own_here Y182) hx rfl (hb hby at_37) rfl (XT.i0_ne_f (by decide))) ?_
  show own_Ends _ _ _ _ (T181.setTop (mkF m 40 #[.val (.long x0), .second, .val (.long x1), .second, .val (.long x2), .second, .val (.long x3), .second, .val (.long x4), .second, .val (.long x5), .second, .val (.ref b153), .unset, .unset, .unset, .unset, .unset, .unset, .unset, .unset] []))
  refine own_st (fun t_ => XS.aload (own_here Y182) hx rfl (hb hby at_40) rfl rfl) ?_
  show own_Ends _ _ _ _ (T181.setTop (mkF m 42 #[.val (.long x0), .second, .val (.long x1), .second, .val (.long x2), .second, .val (.long x3), .second, .val (.long x4), .second, .val (.long x5), .second, .val (.ref b153), .unset, .unset, .unset, .unset, .unset, .unset, .unset, .unset] [(.ref b153)]))
  refine own_callV Y182 hx hZ (y := (⟨"com/example/tierpath/tierpath/BoundsTally", "meanReads", "()D"⟩ : MethodName)) (z := (⟨"com/example/tierpath/tierpath/BoundsTally", "meanReads", "()D"⟩ : MethodName)) hown (hw _ (List.mem_of_getElem? (i := 36) rfl)) (hw _ (List.mem_of_getElem? (i := 37) rfl)) (notFace_of_selects (args := #[]) (mvT hZ (hw _ (List.mem_of_getElem? (i := 39) rfl)))) (hw _ (List.mem_of_getElem? (i := 39) rfl)) (hw _ (List.mem_of_getElem? (i := 38) rfl)) (hw _ (List.mem_of_getElem? (i := 2) rfl)) (hw _ (List.mem_of_getElem? (i := 40) rfl)) (by decide) (a := b153) f175 (argsL := []) (rest := []) (own_rm7_1 l Z a0 hw [] b153 ((0 : Int64) + x2) h167 n0  f175 F171 F174) (W := 0) (by decide) (by decide) (by decide) (by decide) rfl (by rw [hml]; rfl) (lenOf own_pd3 rfl) rfl (by show 2 * 0 + _ ≤ _; exact Nat.le_of_eq rfl) (hb hby at_42) (fun T186 h188 v189 Y187 q190 => ?_)
  obtain ⟨rfl, rfl⟩ := q190
  show own_Ends _ _ _ _ (T186.setTop (mkF m 45 #[.val (.long x0), .second, .val (.long x1), .second, .val (.long x2), .second, .val (.long x3), .second, .val (.long x4), .second, .val (.long x5), .second, .val (.ref b153), .unset, .unset, .unset, .unset, .unset, .unset, .unset, .unset] [(.double (FP.ddiv (FP.l2d ((0 : Int64) + x2)) (FP.i2d (1 : Int32))))]))
  refine own_st (fun t_ => XS.lload (own_here Y187) hx rfl (hb hby at_45) rfl) ?_
  show own_Ends _ _ _ _ (T186.setTop (mkF m 47 #[.val (.long x0), .second, .val (.long x1), .second, .val (.long x2), .second, .val (.long x3), .second, .val (.long x4), .second, .val (.long x5), .second, .val (.ref b153), .unset, .unset, .unset, .unset, .unset, .unset, .unset, .unset] [(.long x2), (.double (FP.ddiv (FP.l2d ((0 : Int64) + x2)) (FP.i2d (1 : Int32))))]))
  refine own_st (fun t_ => XS.l2dS (own_here Y187) hx rfl (hb hby at_47) rfl rfl) ?_
  show own_Ends _ _ _ _ (T186.setTop (mkF m 48 #[.val (.long x0), .second, .val (.long x1), .second, .val (.long x2), .second, .val (.long x3), .second, .val (.long x4), .second, .val (.long x5), .second, .val (.ref b153), .unset, .unset, .unset, .unset, .unset, .unset, .unset, .unset] [(.double (FP.l2d x2)), (.double (FP.ddiv (FP.l2d ((0 : Int64) + x2)) (FP.i2d (1 : Int32))))]))
  refine own_st (fun t_ => XS.dcmpS (own_here Y187) hx rfl (hb hby at_48) rfl (own_cmp1 _)) ?_
  show own_Ends _ _ _ _ (T186.setTop (mkF m 49 #[.val (.long x0), .second, .val (.long x1), .second, .val (.long x2), .second, .val (.long x3), .second, .val (.long x4), .second, .val (.long x5), .second, .val (.ref b153), .unset, .unset, .unset, .unset, .unset, .unset, .unset, .unset] [(.int (0 : Int32))]))
  refine own_st (fun t_ => XS.ifNo (own_here Y187) hx rfl (hb hby at_49) rfl (XT.i0_ne_f (by decide))) ?_
  show own_Ends _ _ _ _ (T186.setTop (mkF m 52 #[.val (.long x0), .second, .val (.long x1), .second, .val (.long x2), .second, .val (.long x3), .second, .val (.long x4), .second, .val (.long x5), .second, .val (.ref b153), .unset, .unset, .unset, .unset, .unset, .unset, .unset, .unset] []))
  refine own_st (fun t_ => XS.iconst (own_here Y187) hx rfl (hb hby at_52) ) ?_
  show own_Ends _ _ _ _ (T186.setTop (mkF m 53 #[.val (.long x0), .second, .val (.long x1), .second, .val (.long x2), .second, .val (.long x3), .second, .val (.long x4), .second, .val (.long x5), .second, .val (.ref b153), .unset, .unset, .unset, .unset, .unset, .unset, .unset, .unset] [(.int (1 : Int32))]))
  refine own_st (fun t_ => XS.goto (own_here Y187) hx rfl (pc0 := 53) (pc' := 57) rfl (hb hby at_53) (by decide) (by decide)) ?_
  show own_Ends _ _ _ _ (T186.setTop (mkF m 57 #[.val (.long x0), .second, .val (.long x1), .second, .val (.long x2), .second, .val (.long x3), .second, .val (.long x4), .second, .val (.long x5), .second, .val (.ref b153), .unset, .unset, .unset, .unset, .unset, .unset, .unset, .unset] [(.int (1 : Int32))]))
  refine own_st (fun t_ => XS.istore (own_here Y187) hx rfl (hb hby at_57) rfl (l' := #[.val (.long x0), .second, .val (.long x1), .second, .val (.long x2), .second, .val (.long x3), .second, .val (.long x4), .second, .val (.long x5), .second, .val (.ref b153), .val (.int (1 : Int32)), .unset, .unset, .unset, .unset, .unset, .unset, .unset]) rfl) ?_
  show own_Ends _ _ _ _ (T186.setTop (mkF m 59 #[.val (.long x0), .second, .val (.long x1), .second, .val (.long x2), .second, .val (.long x3), .second, .val (.long x4), .second, .val (.long x5), .second, .val (.ref b153), .val (.int (1 : Int32)), .unset, .unset, .unset, .unset, .unset, .unset, .unset] []))
  refine own_st (fun t_ => XS.aload (own_here Y187) hx rfl (hb hby at_59) rfl rfl) ?_
  show own_Ends _ _ _ _ (T186.setTop (mkF m 61 #[.val (.long x0), .second, .val (.long x1), .second, .val (.long x2), .second, .val (.long x3), .second, .val (.long x4), .second, .val (.long x5), .second, .val (.ref b153), .val (.int (1 : Int32)), .unset, .unset, .unset, .unset, .unset, .unset, .unset] [(.ref b153)]))
  refine own_st (fun t_ => XS.lload (own_here Y187) hx rfl (hb hby at_61) rfl) ?_
  show own_Ends _ _ _ _ (T186.setTop (mkF m 63 #[.val (.long x0), .second, .val (.long x1), .second, .val (.long x2), .second, .val (.long x3), .second, .val (.long x4), .second, .val (.long x5), .second, .val (.ref b153), .val (.int (1 : Int32)), .unset, .unset, .unset, .unset, .unset, .unset, .unset] [(.long x3), (.ref b153)]))
  refine own_st (fun t_ => XS.lload (own_here Y187) hx rfl (hb hby at_63) rfl) ?_
  show own_Ends _ _ _ _ (T186.setTop (mkF m 65 #[.val (.long x0), .second, .val (.long x1), .second, .val (.long x2), .second, .val (.long x3), .second, .val (.long x4), .second, .val (.long x5), .second, .val (.ref b153), .val (.int (1 : Int32)), .unset, .unset, .unset, .unset, .unset, .unset, .unset] [(.long x4), (.long x3), (.ref b153)]))
  refine own_st (fun t_ => XS.lload (own_here Y187) hx rfl (hb hby at_65) rfl) ?_
  show own_Ends _ _ _ _ (T186.setTop (mkF m 67 #[.val (.long x0), .second, .val (.long x1), .second, .val (.long x2), .second, .val (.long x3), .second, .val (.long x4), .second, .val (.long x5), .second, .val (.ref b153), .val (.int (1 : Int32)), .unset, .unset, .unset, .unset, .unset, .unset, .unset] [(.long x5), (.long x4), (.long x3), (.ref b153)]))
  refine own_callV Y187 hx hZ (y := (⟨"com/example/tierpath/tierpath/BoundsTally", "add", "(JJJ)V"⟩ : MethodName)) (z := (⟨"com/example/tierpath/tierpath/BoundsTally", "add", "(JJJ)V"⟩ : MethodName)) hown (hw _ (List.mem_of_getElem? (i := 9) rfl)) (hw _ (List.mem_of_getElem? (i := 10) rfl)) (notFace_of_selects (args := #[]) (mvT hZ (hw _ (List.mem_of_getElem? (i := 12) rfl)))) (hw _ (List.mem_of_getElem? (i := 12) rfl)) (hw _ (List.mem_of_getElem? (i := 11) rfl)) (hw _ (List.mem_of_getElem? (i := 2) rfl)) (hw _ (List.mem_of_getElem? (i := 13) rfl)) (by decide) (a := b153) f175 (argsL := [(.long x3), (.long x4), (.long x5)]) (rest := []) (own_rm3_1 l Z a0 hw [] b153 x3 x4 x5 ((0 : Int64) + x0) ((0 : Int64) + x1) ((0 : Int64) + x2) h167 n0  f175 F171 F172 F173 F174 g155) (W := 0) (by decide) (by decide) (by decide) (by decide) rfl (by rw [hml]; rfl) (lenOf own_pd2 rfl) rfl (by show 2 * 0 + _ ≤ _; exact Nat.le_of_eq rfl) (hb hby at_67) (fun T191 h193 v194 Y192 q195 => ?_)
  obtain ⟨rfl, K196, F197, F198, F199, F200⟩ := q195
  show own_Ends _ _ _ _ (T191.setTop (mkF m 70 #[.val (.long x0), .second, .val (.long x1), .second, .val (.long x2), .second, .val (.long x3), .second, .val (.long x4), .second, .val (.long x5), .second, .val (.ref b153), .val (.int (1 : Int32)), .unset, .unset, .unset, .unset, .unset, .unset, .unset] []))
  refine own_st (fun t_ => XS.lloadN (own_here Y192) hx rfl (hb hby at_70) rfl) ?_
  show own_Ends _ _ _ _ (T191.setTop (mkF m 71 #[.val (.long x0), .second, .val (.long x1), .second, .val (.long x2), .second, .val (.long x3), .second, .val (.long x4), .second, .val (.long x5), .second, .val (.ref b153), .val (.int (1 : Int32)), .unset, .unset, .unset, .unset, .unset, .unset, .unset] [(.long x0)]))
  refine own_st (fun t_ => XS.lload (own_here Y192) hx rfl (hb hby at_71) rfl) ?_
  show own_Ends _ _ _ _ (T191.setTop (mkF m 73 #[.val (.long x0), .second, .val (.long x1), .second, .val (.long x2), .second, .val (.long x3), .second, .val (.long x4), .second, .val (.long x5), .second, .val (.ref b153), .val (.int (1 : Int32)), .unset, .unset, .unset, .unset, .unset, .unset, .unset] [(.long x3), (.long x0)]))
  refine own_st (fun t_ => XS.ladd (own_here Y192) hx rfl (hb hby at_73) rfl) ?_
  show own_Ends _ _ _ _ (T191.setTop (mkF m 74 #[.val (.long x0), .second, .val (.long x1), .second, .val (.long x2), .second, .val (.long x3), .second, .val (.long x4), .second, .val (.long x5), .second, .val (.ref b153), .val (.int (1 : Int32)), .unset, .unset, .unset, .unset, .unset, .unset, .unset] [(.long (x0 + x3))]))
  refine own_st (fun t_ => XS.lstore (own_here Y192) hx rfl (hb hby at_74) rfl (l' := #[.val (.long x0), .second, .val (.long x1), .second, .val (.long x2), .second, .val (.long x3), .second, .val (.long x4), .second, .val (.long x5), .second, .val (.ref b153), .val (.int (1 : Int32)), .val (.long (x0 + x3)), .second, .unset, .unset, .unset, .unset, .unset]) rfl) ?_
  show own_Ends _ _ _ _ (T191.setTop (mkF m 76 #[.val (.long x0), .second, .val (.long x1), .second, .val (.long x2), .second, .val (.long x3), .second, .val (.long x4), .second, .val (.long x5), .second, .val (.ref b153), .val (.int (1 : Int32)), .val (.long (x0 + x3)), .second, .unset, .unset, .unset, .unset, .unset] []))
  refine own_st (fun t_ => XS.lloadN (own_here Y192) hx rfl (hb hby at_76) rfl) ?_
  show own_Ends _ _ _ _ (T191.setTop (mkF m 77 #[.val (.long x0), .second, .val (.long x1), .second, .val (.long x2), .second, .val (.long x3), .second, .val (.long x4), .second, .val (.long x5), .second, .val (.ref b153), .val (.int (1 : Int32)), .val (.long (x0 + x3)), .second, .unset, .unset, .unset, .unset, .unset] [(.long x1)]))
  refine own_st (fun t_ => XS.lload (own_here Y192) hx rfl (hb hby at_77) rfl) ?_
  show own_Ends _ _ _ _ (T191.setTop (mkF m 79 #[.val (.long x0), .second, .val (.long x1), .second, .val (.long x2), .second, .val (.long x3), .second, .val (.long x4), .second, .val (.long x5), .second, .val (.ref b153), .val (.int (1 : Int32)), .val (.long (x0 + x3)), .second, .unset, .unset, .unset, .unset, .unset] [(.long x4), (.long x1)]))
  refine own_st (fun t_ => XS.ladd (own_here Y192) hx rfl (hb hby at_79) rfl) ?_
  show own_Ends _ _ _ _ (T191.setTop (mkF m 80 #[.val (.long x0), .second, .val (.long x1), .second, .val (.long x2), .second, .val (.long x3), .second, .val (.long x4), .second, .val (.long x5), .second, .val (.ref b153), .val (.int (1 : Int32)), .val (.long (x0 + x3)), .second, .unset, .unset, .unset, .unset, .unset] [(.long (x1 + x4))]))
  refine own_st (fun t_ => XS.lstore (own_here Y192) hx rfl (hb hby at_80) rfl (l' := #[.val (.long x0), .second, .val (.long x1), .second, .val (.long x2), .second, .val (.long x3), .second, .val (.long x4), .second, .val (.long x5), .second, .val (.ref b153), .val (.int (1 : Int32)), .val (.long (x0 + x3)), .second, .val (.long (x1 + x4)), .second, .unset, .unset, .unset]) rfl) ?_
  show own_Ends _ _ _ _ (T191.setTop (mkF m 82 #[.val (.long x0), .second, .val (.long x1), .second, .val (.long x2), .second, .val (.long x3), .second, .val (.long x4), .second, .val (.long x5), .second, .val (.ref b153), .val (.int (1 : Int32)), .val (.long (x0 + x3)), .second, .val (.long (x1 + x4)), .second, .unset, .unset, .unset] []))
  refine own_st (fun t_ => XS.lload (own_here Y192) hx rfl (hb hby at_82) rfl) ?_
  show own_Ends _ _ _ _ (T191.setTop (mkF m 84 #[.val (.long x0), .second, .val (.long x1), .second, .val (.long x2), .second, .val (.long x3), .second, .val (.long x4), .second, .val (.long x5), .second, .val (.ref b153), .val (.int (1 : Int32)), .val (.long (x0 + x3)), .second, .val (.long (x1 + x4)), .second, .unset, .unset, .unset] [(.long x2)]))
  refine own_st (fun t_ => XS.lload (own_here Y192) hx rfl (hb hby at_84) rfl) ?_
  show own_Ends _ _ _ _ (T191.setTop (mkF m 86 #[.val (.long x0), .second, .val (.long x1), .second, .val (.long x2), .second, .val (.long x3), .second, .val (.long x4), .second, .val (.long x5), .second, .val (.ref b153), .val (.int (1 : Int32)), .val (.long (x0 + x3)), .second, .val (.long (x1 + x4)), .second, .unset, .unset, .unset] [(.long x5), (.long x2)]))
  refine own_st (fun t_ => XS.ladd (own_here Y192) hx rfl (hb hby at_86) rfl) ?_
  show own_Ends _ _ _ _ (T191.setTop (mkF m 87 #[.val (.long x0), .second, .val (.long x1), .second, .val (.long x2), .second, .val (.long x3), .second, .val (.long x4), .second, .val (.long x5), .second, .val (.ref b153), .val (.int (1 : Int32)), .val (.long (x0 + x3)), .second, .val (.long (x1 + x4)), .second, .unset, .unset, .unset] [(.long (x2 + x5))]))
  refine own_st (fun t_ => XS.lstore (own_here Y192) hx rfl (hb hby at_87) rfl (l' := #[.val (.long x0), .second, .val (.long x1), .second, .val (.long x2), .second, .val (.long x3), .second, .val (.long x4), .second, .val (.long x5), .second, .val (.ref b153), .val (.int (1 : Int32)), .val (.long (x0 + x3)), .second, .val (.long (x1 + x4)), .second, .val (.long (x2 + x5)), .second, .unset]) rfl) ?_
  show own_Ends _ _ _ _ (T191.setTop (mkF m 89 #[.val (.long x0), .second, .val (.long x1), .second, .val (.long x2), .second, .val (.long x3), .second, .val (.long x4), .second, .val (.long x5), .second, .val (.ref b153), .val (.int (1 : Int32)), .val (.long (x0 + x3)), .second, .val (.long (x1 + x4)), .second, .val (.long (x2 + x5)), .second, .unset] []))
  refine own_st (fun t_ => XS.aload (own_here Y192) hx rfl (hb hby at_89) rfl rfl) ?_
  show own_Ends _ _ _ _ (T191.setTop (mkF m 91 #[.val (.long x0), .second, .val (.long x1), .second, .val (.long x2), .second, .val (.long x3), .second, .val (.long x4), .second, .val (.long x5), .second, .val (.ref b153), .val (.int (1 : Int32)), .val (.long (x0 + x3)), .second, .val (.long (x1 + x4)), .second, .val (.long (x2 + x5)), .second, .unset] [(.ref b153)]))
  have f201 : Exa Z h193 b153 "com/example/tierpath/tierpath/BoundsTally" := f175.keep K196
  refine own_callV Y192 hx hZ (y := (⟨"com/example/tierpath/tierpath/BoundsTally", "meanBoundaryClosed", "()D"⟩ : MethodName)) (z := (⟨"com/example/tierpath/tierpath/BoundsTally", "meanBoundaryClosed", "()D"⟩ : MethodName)) hown (hw _ (List.mem_of_getElem? (i := 22) rfl)) (hw _ (List.mem_of_getElem? (i := 23) rfl)) (notFace_of_selects (args := #[]) (mvT hZ (hw _ (List.mem_of_getElem? (i := 25) rfl)))) (hw _ (List.mem_of_getElem? (i := 25) rfl)) (hw _ (List.mem_of_getElem? (i := 24) rfl)) (hw _ (List.mem_of_getElem? (i := 2) rfl)) (hw _ (List.mem_of_getElem? (i := 26) rfl)) (by decide) (a := b153) f201 (argsL := []) (rest := []) (own_rm4_2 l Z a0 hw [] b153 (((0 : Int64) + x0) + x3) h193 n0  f201 F197 F198) (W := 0) (by decide) (by decide) (by decide) (by decide) rfl (by rw [hml]; rfl) (lenOf own_pd3 rfl) rfl (by show 2 * 0 + _ ≤ _; exact Nat.le_of_eq rfl) (hb hby at_91) (fun T202 h204 v205 Y203 q206 => ?_)
  obtain ⟨rfl, rfl⟩ := q206
  show own_Ends _ _ _ _ (T202.setTop (mkF m 94 #[.val (.long x0), .second, .val (.long x1), .second, .val (.long x2), .second, .val (.long x3), .second, .val (.long x4), .second, .val (.long x5), .second, .val (.ref b153), .val (.int (1 : Int32)), .val (.long (x0 + x3)), .second, .val (.long (x1 + x4)), .second, .val (.long (x2 + x5)), .second, .unset] [(.double (FP.ddiv (FP.l2d (((0 : Int64) + x0) + x3)) (FP.i2d (2 : Int32))))]))
  refine own_st (fun t_ => XS.lload (own_here Y203) hx rfl (hb hby at_94) rfl) ?_
  show own_Ends _ _ _ _ (T202.setTop (mkF m 96 #[.val (.long x0), .second, .val (.long x1), .second, .val (.long x2), .second, .val (.long x3), .second, .val (.long x4), .second, .val (.long x5), .second, .val (.ref b153), .val (.int (1 : Int32)), .val (.long (x0 + x3)), .second, .val (.long (x1 + x4)), .second, .val (.long (x2 + x5)), .second, .unset] [(.long (x0 + x3)), (.double (FP.ddiv (FP.l2d (((0 : Int64) + x0) + x3)) (FP.i2d (2 : Int32))))]))
  refine own_st (fun t_ => XS.l2dS (own_here Y203) hx rfl (hb hby at_96) rfl rfl) ?_
  show own_Ends _ _ _ _ (T202.setTop (mkF m 97 #[.val (.long x0), .second, .val (.long x1), .second, .val (.long x2), .second, .val (.long x3), .second, .val (.long x4), .second, .val (.long x5), .second, .val (.ref b153), .val (.int (1 : Int32)), .val (.long (x0 + x3)), .second, .val (.long (x1 + x4)), .second, .val (.long (x2 + x5)), .second, .unset] [(.double (FP.l2d (x0 + x3))), (.double (FP.ddiv (FP.l2d (((0 : Int64) + x0) + x3)) (FP.i2d (2 : Int32))))]))
  refine own_ldcD Y203 hx hZ hown (hw _ (List.mem_of_getElem? (i := 41) rfl)) rfl (hb hby at_97) ?_
  show own_Ends _ _ _ _ (T202.setTop (mkF m 100 #[.val (.long x0), .second, .val (.long x1), .second, .val (.long x2), .second, .val (.long x3), .second, .val (.long x4), .second, .val (.long x5), .second, .val (.ref b153), .val (.int (1 : Int32)), .val (.long (x0 + x3)), .second, .val (.long (x1 + x4)), .second, .val (.long (x2 + x5)), .second, .unset] [(.double 4611686018427387904), (.double (FP.l2d (x0 + x3))), (.double (FP.ddiv (FP.l2d (((0 : Int64) + x0) + x3)) (FP.i2d (2 : Int32))))]))
  refine own_st (fun t_ => XS.ddivS (own_here Y203) hx rfl (hb hby at_100) rfl (own_n2' _) rfl) ?_
  show own_Ends _ _ _ _ (T202.setTop (mkF m 101 #[.val (.long x0), .second, .val (.long x1), .second, .val (.long x2), .second, .val (.long x3), .second, .val (.long x4), .second, .val (.long x5), .second, .val (.ref b153), .val (.int (1 : Int32)), .val (.long (x0 + x3)), .second, .val (.long (x1 + x4)), .second, .val (.long (x2 + x5)), .second, .unset] [(.double (FP.ddiv (FP.l2d (x0 + x3)) 4611686018427387904)), (.double (FP.ddiv (FP.l2d (((0 : Int64) + x0) + x3)) (FP.i2d (2 : Int32))))]))
  refine own_st (fun t_ => XS.dcmpS (own_here Y203) hx rfl (hb hby at_101) rfl (own_cmp2 _ _)) ?_
  show own_Ends _ _ _ _ (T202.setTop (mkF m 102 #[.val (.long x0), .second, .val (.long x1), .second, .val (.long x2), .second, .val (.long x3), .second, .val (.long x4), .second, .val (.long x5), .second, .val (.ref b153), .val (.int (1 : Int32)), .val (.long (x0 + x3)), .second, .val (.long (x1 + x4)), .second, .val (.long (x2 + x5)), .second, .unset] [(.int (0 : Int32))]))
  refine own_st (fun t_ => XS.ifNo (own_here Y203) hx rfl (hb hby at_102) rfl (XT.i0_ne_f (by decide))) ?_
  show own_Ends _ _ _ _ (T202.setTop (mkF m 105 #[.val (.long x0), .second, .val (.long x1), .second, .val (.long x2), .second, .val (.long x3), .second, .val (.long x4), .second, .val (.long x5), .second, .val (.ref b153), .val (.int (1 : Int32)), .val (.long (x0 + x3)), .second, .val (.long (x1 + x4)), .second, .val (.long (x2 + x5)), .second, .unset] []))
  refine own_st (fun t_ => XS.aload (own_here Y203) hx rfl (hb hby at_105) rfl rfl) ?_
  show own_Ends _ _ _ _ (T202.setTop (mkF m 107 #[.val (.long x0), .second, .val (.long x1), .second, .val (.long x2), .second, .val (.long x3), .second, .val (.long x4), .second, .val (.long x5), .second, .val (.ref b153), .val (.int (1 : Int32)), .val (.long (x0 + x3)), .second, .val (.long (x1 + x4)), .second, .val (.long (x2 + x5)), .second, .unset] [(.ref b153)]))
  refine own_callV Y203 hx hZ (y := (⟨"com/example/tierpath/tierpath/BoundsTally", "meanSetsPruned", "()D"⟩ : MethodName)) (z := (⟨"com/example/tierpath/tierpath/BoundsTally", "meanSetsPruned", "()D"⟩ : MethodName)) hown (hw _ (List.mem_of_getElem? (i := 31) rfl)) (hw _ (List.mem_of_getElem? (i := 32) rfl)) (notFace_of_selects (args := #[]) (mvT hZ (hw _ (List.mem_of_getElem? (i := 34) rfl)))) (hw _ (List.mem_of_getElem? (i := 34) rfl)) (hw _ (List.mem_of_getElem? (i := 33) rfl)) (hw _ (List.mem_of_getElem? (i := 2) rfl)) (hw _ (List.mem_of_getElem? (i := 35) rfl)) (by decide) (a := b153) f201 (argsL := []) (rest := []) (own_rm6_2 l Z a0 hw [] b153 (((0 : Int64) + x1) + x4) h193 n0  f201 F197 F199) (W := 0) (by decide) (by decide) (by decide) (by decide) rfl (by rw [hml]; rfl) (lenOf own_pd3 rfl) rfl (by show 2 * 0 + _ ≤ _; exact Nat.le_of_eq rfl) (hb hby at_107) (fun T207 h209 v210 Y208 q211 => ?_)
  obtain ⟨rfl, rfl⟩ := q211
  show own_Ends _ _ _ _ (T207.setTop (mkF m 110 #[.val (.long x0), .second, .val (.long x1), .second, .val (.long x2), .second, .val (.long x3), .second, .val (.long x4), .second, .val (.long x5), .second, .val (.ref b153), .val (.int (1 : Int32)), .val (.long (x0 + x3)), .second, .val (.long (x1 + x4)), .second, .val (.long (x2 + x5)), .second, .unset] [(.double (FP.ddiv (FP.l2d (((0 : Int64) + x1) + x4)) (FP.i2d (2 : Int32))))]))
  refine own_st (fun t_ => XS.lload (own_here Y208) hx rfl (hb hby at_110) rfl) ?_
  show own_Ends _ _ _ _ (T207.setTop (mkF m 112 #[.val (.long x0), .second, .val (.long x1), .second, .val (.long x2), .second, .val (.long x3), .second, .val (.long x4), .second, .val (.long x5), .second, .val (.ref b153), .val (.int (1 : Int32)), .val (.long (x0 + x3)), .second, .val (.long (x1 + x4)), .second, .val (.long (x2 + x5)), .second, .unset] [(.long (x1 + x4)), (.double (FP.ddiv (FP.l2d (((0 : Int64) + x1) + x4)) (FP.i2d (2 : Int32))))]))
  refine own_st (fun t_ => XS.l2dS (own_here Y208) hx rfl (hb hby at_112) rfl rfl) ?_
  show own_Ends _ _ _ _ (T207.setTop (mkF m 113 #[.val (.long x0), .second, .val (.long x1), .second, .val (.long x2), .second, .val (.long x3), .second, .val (.long x4), .second, .val (.long x5), .second, .val (.ref b153), .val (.int (1 : Int32)), .val (.long (x0 + x3)), .second, .val (.long (x1 + x4)), .second, .val (.long (x2 + x5)), .second, .unset] [(.double (FP.l2d (x1 + x4))), (.double (FP.ddiv (FP.l2d (((0 : Int64) + x1) + x4)) (FP.i2d (2 : Int32))))]))
  refine own_ldcD Y208 hx hZ hown (hw _ (List.mem_of_getElem? (i := 41) rfl)) rfl (hb hby at_113) ?_
  show own_Ends _ _ _ _ (T207.setTop (mkF m 116 #[.val (.long x0), .second, .val (.long x1), .second, .val (.long x2), .second, .val (.long x3), .second, .val (.long x4), .second, .val (.long x5), .second, .val (.ref b153), .val (.int (1 : Int32)), .val (.long (x0 + x3)), .second, .val (.long (x1 + x4)), .second, .val (.long (x2 + x5)), .second, .unset] [(.double 4611686018427387904), (.double (FP.l2d (x1 + x4))), (.double (FP.ddiv (FP.l2d (((0 : Int64) + x1) + x4)) (FP.i2d (2 : Int32))))]))
  refine own_st (fun t_ => XS.ddivS (own_here Y208) hx rfl (hb hby at_116) rfl (own_n2' _) rfl) ?_
  show own_Ends _ _ _ _ (T207.setTop (mkF m 117 #[.val (.long x0), .second, .val (.long x1), .second, .val (.long x2), .second, .val (.long x3), .second, .val (.long x4), .second, .val (.long x5), .second, .val (.ref b153), .val (.int (1 : Int32)), .val (.long (x0 + x3)), .second, .val (.long (x1 + x4)), .second, .val (.long (x2 + x5)), .second, .unset] [(.double (FP.ddiv (FP.l2d (x1 + x4)) 4611686018427387904)), (.double (FP.ddiv (FP.l2d (((0 : Int64) + x1) + x4)) (FP.i2d (2 : Int32))))]))
  refine own_st (fun t_ => XS.dcmpS (own_here Y208) hx rfl (hb hby at_117) rfl (own_cmp2 _ _)) ?_
  show own_Ends _ _ _ _ (T207.setTop (mkF m 118 #[.val (.long x0), .second, .val (.long x1), .second, .val (.long x2), .second, .val (.long x3), .second, .val (.long x4), .second, .val (.long x5), .second, .val (.ref b153), .val (.int (1 : Int32)), .val (.long (x0 + x3)), .second, .val (.long (x1 + x4)), .second, .val (.long (x2 + x5)), .second, .unset] [(.int (0 : Int32))]))
  refine own_st (fun t_ => XS.ifNo (own_here Y208) hx rfl (hb hby at_118) rfl (XT.i0_ne_f (by decide))) ?_
  show own_Ends _ _ _ _ (T207.setTop (mkF m 121 #[.val (.long x0), .second, .val (.long x1), .second, .val (.long x2), .second, .val (.long x3), .second, .val (.long x4), .second, .val (.long x5), .second, .val (.ref b153), .val (.int (1 : Int32)), .val (.long (x0 + x3)), .second, .val (.long (x1 + x4)), .second, .val (.long (x2 + x5)), .second, .unset] []))
  refine own_st (fun t_ => XS.aload (own_here Y208) hx rfl (hb hby at_121) rfl rfl) ?_
  show own_Ends _ _ _ _ (T207.setTop (mkF m 123 #[.val (.long x0), .second, .val (.long x1), .second, .val (.long x2), .second, .val (.long x3), .second, .val (.long x4), .second, .val (.long x5), .second, .val (.ref b153), .val (.int (1 : Int32)), .val (.long (x0 + x3)), .second, .val (.long (x1 + x4)), .second, .val (.long (x2 + x5)), .second, .unset] [(.ref b153)]))
  refine own_callV Y208 hx hZ (y := (⟨"com/example/tierpath/tierpath/BoundsTally", "meanReads", "()D"⟩ : MethodName)) (z := (⟨"com/example/tierpath/tierpath/BoundsTally", "meanReads", "()D"⟩ : MethodName)) hown (hw _ (List.mem_of_getElem? (i := 36) rfl)) (hw _ (List.mem_of_getElem? (i := 37) rfl)) (notFace_of_selects (args := #[]) (mvT hZ (hw _ (List.mem_of_getElem? (i := 39) rfl)))) (hw _ (List.mem_of_getElem? (i := 39) rfl)) (hw _ (List.mem_of_getElem? (i := 38) rfl)) (hw _ (List.mem_of_getElem? (i := 2) rfl)) (hw _ (List.mem_of_getElem? (i := 40) rfl)) (by decide) (a := b153) f201 (argsL := []) (rest := []) (own_rm7_2 l Z a0 hw [] b153 (((0 : Int64) + x2) + x5) h193 n0  f201 F197 F200) (W := 0) (by decide) (by decide) (by decide) (by decide) rfl (by rw [hml]; rfl) (lenOf own_pd3 rfl) rfl (by show 2 * 0 + _ ≤ _; exact Nat.le_of_eq rfl) (hb hby at_123) (fun T212 h214 v215 Y213 q216 => ?_)
  obtain ⟨rfl, rfl⟩ := q216
  show own_Ends _ _ _ _ (T212.setTop (mkF m 126 #[.val (.long x0), .second, .val (.long x1), .second, .val (.long x2), .second, .val (.long x3), .second, .val (.long x4), .second, .val (.long x5), .second, .val (.ref b153), .val (.int (1 : Int32)), .val (.long (x0 + x3)), .second, .val (.long (x1 + x4)), .second, .val (.long (x2 + x5)), .second, .unset] [(.double (FP.ddiv (FP.l2d (((0 : Int64) + x2) + x5)) (FP.i2d (2 : Int32))))]))
  refine own_st (fun t_ => XS.lload (own_here Y213) hx rfl (hb hby at_126) rfl) ?_
  show own_Ends _ _ _ _ (T212.setTop (mkF m 128 #[.val (.long x0), .second, .val (.long x1), .second, .val (.long x2), .second, .val (.long x3), .second, .val (.long x4), .second, .val (.long x5), .second, .val (.ref b153), .val (.int (1 : Int32)), .val (.long (x0 + x3)), .second, .val (.long (x1 + x4)), .second, .val (.long (x2 + x5)), .second, .unset] [(.long (x2 + x5)), (.double (FP.ddiv (FP.l2d (((0 : Int64) + x2) + x5)) (FP.i2d (2 : Int32))))]))
  refine own_st (fun t_ => XS.l2dS (own_here Y213) hx rfl (hb hby at_128) rfl rfl) ?_
  show own_Ends _ _ _ _ (T212.setTop (mkF m 129 #[.val (.long x0), .second, .val (.long x1), .second, .val (.long x2), .second, .val (.long x3), .second, .val (.long x4), .second, .val (.long x5), .second, .val (.ref b153), .val (.int (1 : Int32)), .val (.long (x0 + x3)), .second, .val (.long (x1 + x4)), .second, .val (.long (x2 + x5)), .second, .unset] [(.double (FP.l2d (x2 + x5))), (.double (FP.ddiv (FP.l2d (((0 : Int64) + x2) + x5)) (FP.i2d (2 : Int32))))]))
  refine own_ldcD Y213 hx hZ hown (hw _ (List.mem_of_getElem? (i := 41) rfl)) rfl (hb hby at_129) ?_
  show own_Ends _ _ _ _ (T212.setTop (mkF m 132 #[.val (.long x0), .second, .val (.long x1), .second, .val (.long x2), .second, .val (.long x3), .second, .val (.long x4), .second, .val (.long x5), .second, .val (.ref b153), .val (.int (1 : Int32)), .val (.long (x0 + x3)), .second, .val (.long (x1 + x4)), .second, .val (.long (x2 + x5)), .second, .unset] [(.double 4611686018427387904), (.double (FP.l2d (x2 + x5))), (.double (FP.ddiv (FP.l2d (((0 : Int64) + x2) + x5)) (FP.i2d (2 : Int32))))]))
  refine own_st (fun t_ => XS.ddivS (own_here Y213) hx rfl (hb hby at_132) rfl (own_n2' _) rfl) ?_
  show own_Ends _ _ _ _ (T212.setTop (mkF m 133 #[.val (.long x0), .second, .val (.long x1), .second, .val (.long x2), .second, .val (.long x3), .second, .val (.long x4), .second, .val (.long x5), .second, .val (.ref b153), .val (.int (1 : Int32)), .val (.long (x0 + x3)), .second, .val (.long (x1 + x4)), .second, .val (.long (x2 + x5)), .second, .unset] [(.double (FP.ddiv (FP.l2d (x2 + x5)) 4611686018427387904)), (.double (FP.ddiv (FP.l2d (((0 : Int64) + x2) + x5)) (FP.i2d (2 : Int32))))]))
  refine own_st (fun t_ => XS.dcmpS (own_here Y213) hx rfl (hb hby at_133) rfl (own_cmp2 _ _)) ?_
  show own_Ends _ _ _ _ (T212.setTop (mkF m 134 #[.val (.long x0), .second, .val (.long x1), .second, .val (.long x2), .second, .val (.long x3), .second, .val (.long x4), .second, .val (.long x5), .second, .val (.ref b153), .val (.int (1 : Int32)), .val (.long (x0 + x3)), .second, .val (.long (x1 + x4)), .second, .val (.long (x2 + x5)), .second, .unset] [(.int (0 : Int32))]))
  refine own_st (fun t_ => XS.ifNo (own_here Y213) hx rfl (hb hby at_134) rfl (XT.i0_ne_f (by decide))) ?_
  show own_Ends _ _ _ _ (T212.setTop (mkF m 137 #[.val (.long x0), .second, .val (.long x1), .second, .val (.long x2), .second, .val (.long x3), .second, .val (.long x4), .second, .val (.long x5), .second, .val (.ref b153), .val (.int (1 : Int32)), .val (.long (x0 + x3)), .second, .val (.long (x1 + x4)), .second, .val (.long (x2 + x5)), .second, .unset] []))
  refine own_st (fun t_ => XS.iconst (own_here Y213) hx rfl (hb hby at_137) ) ?_
  show own_Ends _ _ _ _ (T212.setTop (mkF m 138 #[.val (.long x0), .second, .val (.long x1), .second, .val (.long x2), .second, .val (.long x3), .second, .val (.long x4), .second, .val (.long x5), .second, .val (.ref b153), .val (.int (1 : Int32)), .val (.long (x0 + x3)), .second, .val (.long (x1 + x4)), .second, .val (.long (x2 + x5)), .second, .unset] [(.int (1 : Int32))]))
  refine own_st (fun t_ => XS.goto (own_here Y213) hx rfl (pc0 := 138) (pc' := 142) rfl (hb hby at_138) (by decide) (by decide)) ?_
  show own_Ends _ _ _ _ (T212.setTop (mkF m 142 #[.val (.long x0), .second, .val (.long x1), .second, .val (.long x2), .second, .val (.long x3), .second, .val (.long x4), .second, .val (.long x5), .second, .val (.ref b153), .val (.int (1 : Int32)), .val (.long (x0 + x3)), .second, .val (.long (x1 + x4)), .second, .val (.long (x2 + x5)), .second, .unset] [(.int (1 : Int32))]))
  refine own_st (fun t_ => XS.istore (own_here Y213) hx rfl (hb hby at_142) rfl (l' := #[.val (.long x0), .second, .val (.long x1), .second, .val (.long x2), .second, .val (.long x3), .second, .val (.long x4), .second, .val (.long x5), .second, .val (.ref b153), .val (.int (1 : Int32)), .val (.long (x0 + x3)), .second, .val (.long (x1 + x4)), .second, .val (.long (x2 + x5)), .second, .val (.int (1 : Int32))]) rfl) ?_
  show own_Ends _ _ _ _ (T212.setTop (mkF m 144 #[.val (.long x0), .second, .val (.long x1), .second, .val (.long x2), .second, .val (.long x3), .second, .val (.long x4), .second, .val (.long x5), .second, .val (.ref b153), .val (.int (1 : Int32)), .val (.long (x0 + x3)), .second, .val (.long (x1 + x4)), .second, .val (.long (x2 + x5)), .second, .val (.int (1 : Int32))] []))
  refine own_st (fun t_ => XS.iload (own_here Y213) hx rfl (hb hby at_144) rfl) ?_
  show own_Ends _ _ _ _ (T212.setTop (mkF m 146 #[.val (.long x0), .second, .val (.long x1), .second, .val (.long x2), .second, .val (.long x3), .second, .val (.long x4), .second, .val (.long x5), .second, .val (.ref b153), .val (.int (1 : Int32)), .val (.long (x0 + x3)), .second, .val (.long (x1 + x4)), .second, .val (.long (x2 + x5)), .second, .val (.int (1 : Int32))] [(.int (1 : Int32))]))
  refine own_st (fun t_ => XS.ifNo (own_here Y213) hx rfl (hb hby at_146) rfl (XT.i0_eq_f (by decide))) ?_
  show own_Ends _ _ _ _ (T212.setTop (mkF m 149 #[.val (.long x0), .second, .val (.long x1), .second, .val (.long x2), .second, .val (.long x3), .second, .val (.long x4), .second, .val (.long x5), .second, .val (.ref b153), .val (.int (1 : Int32)), .val (.long (x0 + x3)), .second, .val (.long (x1 + x4)), .second, .val (.long (x2 + x5)), .second, .val (.int (1 : Int32))] []))
  refine own_st (fun t_ => XS.iload (own_here Y213) hx rfl (hb hby at_149) rfl) ?_
  show own_Ends _ _ _ _ (T212.setTop (mkF m 151 #[.val (.long x0), .second, .val (.long x1), .second, .val (.long x2), .second, .val (.long x3), .second, .val (.long x4), .second, .val (.long x5), .second, .val (.ref b153), .val (.int (1 : Int32)), .val (.long (x0 + x3)), .second, .val (.long (x1 + x4)), .second, .val (.long (x2 + x5)), .second, .val (.int (1 : Int32))] [(.int (1 : Int32))]))
  refine own_st (fun t_ => XS.ifNo (own_here Y213) hx rfl (hb hby at_151) rfl (XT.i0_eq_f (by decide))) ?_
  show own_Ends _ _ _ _ (T212.setTop (mkF m 154 #[.val (.long x0), .second, .val (.long x1), .second, .val (.long x2), .second, .val (.long x3), .second, .val (.long x4), .second, .val (.long x5), .second, .val (.ref b153), .val (.int (1 : Int32)), .val (.long (x0 + x3)), .second, .val (.long (x1 + x4)), .second, .val (.long (x2 + x5)), .second, .val (.int (1 : Int32))] []))
  refine own_st (fun t_ => XS.iconst (own_here Y213) hx rfl (hb hby at_154) ) ?_
  show own_Ends _ _ _ _ (T212.setTop (mkF m 155 #[.val (.long x0), .second, .val (.long x1), .second, .val (.long x2), .second, .val (.long x3), .second, .val (.long x4), .second, .val (.long x5), .second, .val (.ref b153), .val (.int (1 : Int32)), .val (.long (x0 + x3)), .second, .val (.long (x1 + x4)), .second, .val (.long (x2 + x5)), .second, .val (.int (1 : Int32))] [(.int (1 : Int32))]))
  refine own_st (fun t_ => XS.goto (own_here Y213) hx rfl (pc0 := 155) (pc' := 159) rfl (hb hby at_155) (by decide) (by decide)) ?_
  show own_Ends _ _ _ _ (T212.setTop (mkF m 159 #[.val (.long x0), .second, .val (.long x1), .second, .val (.long x2), .second, .val (.long x3), .second, .val (.long x4), .second, .val (.long x5), .second, .val (.ref b153), .val (.int (1 : Int32)), .val (.long (x0 + x3)), .second, .val (.long (x1 + x4)), .second, .val (.long (x2 + x5)), .second, .val (.int (1 : Int32))] [(.int (1 : Int32))]))
  refine own_retN Y213 hx hlk (t := .boolean) hret (by simp) (hb hby at_159) (by decide) (by decide) ?_
  exact rfl
set_option maxRecDepth 65536 in
set_option maxHeartbeats 40000000 in
theorem own_comes_1 {Post : Tables → Env → Array Value → State → Outcome → State → Prop} (hpost : ∀ tb e args s v u, (limb_1_1.after args s (.returned v) u = true ∧ limb_1_2.after args s (.returned v) u = true ∧ True) → FrameEnd s (.returned v) u (Jvm.fieldLocs frame_1_writes args s ++ Jvm.arrayLocs frame_1_arrays args s ++ Jvm.staticLocs frame_1_statics s) 16 128 → Post tb e args s (.returned v) u) :
    ArmFor flags0 classFile x code maxLocals ret World_1 tables_1 room_1 Calls_1 rest_1 Pre_1 Post := by
  intro l hfl _ _ p e ha hc hk s m args below hf hA hF happ hP
  obtain ⟨hcalls, hrest, hpre⟩ := hP
  obtain ⟨-, -, -, hnamed, -, -, -, hat⟩ := (Spec.applies_iff hf).mp happ
  obtain ⟨hg, hn⟩ := and_e (Cond.before_iff.mp (show (Jvm.Cond.and given_1 narrow_1).before args s = true from hpre))
  obtain ⟨g1, g2⟩ := and_e hg
  obtain ⟨g3, g4⟩ := and_e g2
  obtain ⟨g5, g6⟩ := and_e g4
  obtain ⟨g7, g8⟩ := and_e g6
  obtain ⟨g9, g10⟩ := and_e g8
  obtain ⟨g11, g12⟩ := and_e g10
  obtain ⟨w0, w1, w2, w3, w4, w5, rfl⟩ : ∃ w0 w1 w2 w3 w4 w5 : Value, args = #[w0, w1, w2, w3, w4, w5] := by
    have hs : args.size = 6 := by simpa [Cond.value, given_1] using g1
    obtain ⟨L⟩ := args
    match L, hs with
    | [w0, w1, w2, w3, w4, w5], _ => exact ⟨w0, w1, w2, w3, w4, w5, rfl⟩
  have hw := fun d (hd : d ∈ tables_1) => atoms_spec (ws := Jvm.Cond.code x code maxLocals ret :: tables_1) hat d (List.mem_cons_of_mem _ hd)
  have hfit : Fit s := fun {y c} hc i hi => by
    obtain ⟨ha, rfl⟩ := Array.getElem?_eq_some_iff.mp hc
    have q := List.all_eq_true.mp ((Array.all_eq_true_iff_forall_mem.mp hF) _ (Array.getElem_mem ha)) i (List.mem_range.mpr hi)
    simpa [Array.getElem?_eq_getElem hi] using q
  obtain ⟨i0, ei0⟩ := isL_v g3
  obtain rfl : w0 = (.long i0) := Option.some.inj ei0
  obtain ⟨i1, ei1⟩ := isL_v g5
  obtain rfl : w1 = (.long i1) := Option.some.inj ei1
  obtain ⟨i2, ei2⟩ := isL_v g7
  obtain rfl : w2 = (.long i2) := Option.some.inj ei2
  obtain ⟨i3, ei3⟩ := isL_v g9
  obtain rfl : w3 = (.long i3) := Option.some.inj ei3
  obtain ⟨i4, ei4⟩ := isL_v g11
  obtain rfl : w4 = (.long i4) := Option.some.inj ei4
  obtain ⟨i5, ei5⟩ := isL_v g12
  obtain rfl : w5 = (.long i5) := Option.some.inj ei5
  obtain ⟨n, o, h1, h2, h3, _, L, rfl, ⟨N, rfl⟩, hq⟩ := own_rm0 l s _ hw tables_1 i0 i1 i2 i3 i4 i5  s.heap s.heap.size (Nat.le_refl _)  p e ha hc hk s m _ below hf ((Spec.applies_iff_loose hf).mp happ).1 ⟨rfl, State.Warmed39.refl s, rfl⟩ trivial
  refine ⟨n, _, h1, h2, h3, hpost _ _ _ _ _ _ ⟨Cond.after_iff.mpr rfl, Cond.after_iff.mpr (eq_i res_at (Term.int_eval (1)) rfl), trivial⟩ ⟨hq.1, hq.2.1, (hq.2.2.sift fun y hy => Or.inr (N y hy)).mono (by decide) (by decide)⟩⟩
theorem main_1_1 : Claimed_1_1 := own_comes_1 fun _ _ _ _ _ _ h hF => ⟨h.1, hF⟩
theorem main_1_2 : Claimed_1_2 := own_comes_1 fun _ _ _ _ _ _ h hF => ⟨h.2.1, hF⟩
end Jvm.Pilot.@@N@@
namespace Jvm.Pilot.@@N@@
open Jvm Jvm.ClassFile Sem Op Lib Jvm.Free Jvm.Stand Jvm.Pilot.@@N@@.Jvm.D
/-! MADE BY PROGRAM (witnessworld.py) out of the Statement's table words and the real class files: 9 classes; the members and pool entries that the words name. The judged class is class 1, her method 1. -/
namespace start1
open Jvm.ClassFile
def u (s : String) : CpInfo := .utf8 (stringToUtf16 s)
/-- a pool by its gaps: so many unusable entries, then the entry; so many at the end -/
def gap : Nat → List CpInfo → List CpInfo
  | 0, r => r
  | n + 1, r => .unusable :: gap n r
def poolList (es : List (Nat × CpInfo)) (last : Nat) : List CpInfo := es.foldr (fun e r => gap e.1 (e.2 :: r)) (gap last [])
def pool (es : List (Nat × CpInfo)) (last : Nat) : Array CpInfo := ⟨poolList es last⟩
def fileOf (pool : Array CpInfo) (this : Nat) (attrs : Array Attribute := #[]) (ms : Array MethodInfo := #[]) (fl : Nat := 33) (sup : Nat := 0) (ifs : Array Nat := #[]) (fds : Array FieldInfo := #[]) : ClassFile where
  minorVersion := 0
  majorVersion := 65
  constantPool := pool
  accessFlags := fl
  thisClass := this
  superClass := sup
  interfaces := ifs
  fields := fds
  methods := ms
  attributes := attrs
def plain (name : String) (sup : Option ClassId) : Class where
  name := name
  kind := .ordinary
  loader := none
  accessFlags := 33
  super := sup
  interfaces := #[]
  cf := none
  fields := #[]
  methods := #[]
  instanceTypes := #[]
  staticTypes := #[]
  resolved := #[]
  callSites := []
  init := .initialized
  statics := none
  mirror := none

def pool0 : Array CpInfo := pool [(5, u "<init>"), (0, u "()V"), (1, .class_ 10), (1, u "java/lang/Object")] 113

def k0c0 : Code := { maxStack := 0, maxLocals := 1, code := object_method_1_code, exceptionTable := #[], attributes := #[] }
def k0m0 : Method := { name := "<init>", desc := "()V", sig := { parameters := [], returnType := none }, accessFlags := 1, code := some k0c0 }
/-- java/lang/Object -/
def k0 : Class := { plain "java/lang/Object" none with
  accessFlags := 33
  interfaces := #[]
  cf := some (fileOf pool0 8 #[] #[{ accessFlags := 1, nameIndex := 5, descriptorIndex := 6, attributes := #[] }] 33 0 #[] #[])
  fields := #[]
  methods := #[k0m0]
  instanceTypes := #[]
  staticTypes := #[]
  resolved := Array.replicate 124 none
  statics := none }

def pool1 : Array CpInfo := pool [(2, .class_ 4), (0, .nameAndType 5 6), (0, u "java/lang/Object"), (0, u "<init>"), (0, u "()V"), (0, .class_ 8), (0, u "com/example/tierpath/tierpath/BoundsTally"), (0, .methodref 7 3), (0, .methodref 7 11), (0, .nameAndType 12 13), (0, u "add"), (0, u "(JJJ)V"), (0, .methodref 7 15), (0, .nameAndType 16 17), (0, u "meanBoundaryClosed"), (0, u "()D"), (0, .methodref 7 19), (0, .nameAndType 20 17), (0, u "meanSetsPruned"), (0, .methodref 7 22), (0, .nameAndType 23 17), (0, u "meanReads"), (0, .double 4611686018427387904), (1, .class_ 27), (0, u "com/example/tierpath/tierpath/BoundsTallyAddPinLaw"), (2, u "law"), (0, u "(JJJJJJ)Z")] 3

def k1m0 : Method := { name := "<init>", desc := "()V", sig := { parameters := [], returnType := none }, accessFlags := 1, code := none }
def k1c1 : Code := { maxStack := 7, maxLocals := 21, code := code, exceptionTable := #[], attributes := #[] }
def k1m1 : Method := { name := "law", desc := "(JJJJJJ)Z", sig := { parameters := [.long, .long, .long, .long, .long, .long], returnType := some .boolean }, accessFlags := 9, code := some k1c1 }
/-- com/example/tierpath/tierpath/BoundsTallyAddPinLaw -/
def k1 : Class := { plain "com/example/tierpath/tierpath/BoundsTallyAddPinLaw" (some 0) with
  accessFlags := 49
  interfaces := #[]
  cf := some (fileOf pool1 26 #[] #[{ accessFlags := 1, nameIndex := 5, descriptorIndex := 6, attributes := #[] }, { accessFlags := 9, nameIndex := 30, descriptorIndex := 31, attributes := #[] }] 49 2 #[] #[])
  fields := #[]
  methods := #[k1m0, k1m1]
  instanceTypes := #[]
  staticTypes := #[]
  resolved := Array.replicate 35 none
  statics := none }

def pool2 : Array CpInfo := pool [(1, .methodref 2 3), (0, .class_ 4), (0, .nameAndType 5 6), (0, u "java/lang/Object"), (0, u "<init>"), (0, u "()V"), (0, .class_ 8), (0, u "com/example/tierpath/tierpath/BoundsTally"), (17, .fieldref 7 27), (0, .nameAndType 28 29), (0, u "pairs"), (0, u "I"), (0, .fieldref 7 31), (0, .nameAndType 32 33), (0, u "boundaryClosed"), (0, u "J"), (0, .fieldref 7 35), (0, .nameAndType 36 33), (0, u "setsPruned"), (0, .fieldref 7 38), (0, .nameAndType 39 33), (0, u "reads"), (0, .methodref 7 41), (0, .nameAndType 42 43), (0, u "mean"), (0, u "(J)D"), (7, u "add"), (0, u "(JJJ)V"), (0, u "meanBoundaryClosed"), (0, u "()D"), (0, u "meanSetsPruned"), (0, u "meanReads")] 2

def k2c0 : Code := { maxStack := 1, maxLocals := 1, code := prog_20_method_1_code, exceptionTable := #[], attributes := #[] }
def k2m0 : Method := { name := "<init>", desc := "()V", sig := { parameters := [], returnType := none }, accessFlags := 0, code := some k2c0 }
def k2c1 : Code := { maxStack := 5, maxLocals := 7, code := prog_20_method_3_code, exceptionTable := #[], attributes := #[] }
def k2m1 : Method := { name := "add", desc := "(JJJ)V", sig := { parameters := [.long, .long, .long], returnType := none }, accessFlags := 0, code := some k2c1 }
def k2c2 : Code := { maxStack := 3, maxLocals := 1, code := prog_20_method_4_code, exceptionTable := #[], attributes := #[] }
def k2m2 : Method := { name := "meanBoundaryClosed", desc := "()D", sig := { parameters := [], returnType := some .double }, accessFlags := 0, code := some k2c2 }
def k2c3 : Code := { maxStack := 3, maxLocals := 1, code := prog_20_method_5_code, exceptionTable := #[], attributes := #[] }
def k2m3 : Method := { name := "meanSetsPruned", desc := "()D", sig := { parameters := [], returnType := some .double }, accessFlags := 0, code := some k2c3 }
def k2c4 : Code := { maxStack := 3, maxLocals := 1, code := prog_20_method_6_code, exceptionTable := #[], attributes := #[] }
def k2m4 : Method := { name := "meanReads", desc := "()D", sig := { parameters := [], returnType := some .double }, accessFlags := 0, code := some k2c4 }
def k2c5 : Code := { maxStack := 4, maxLocals := 3, code := prog_20_method_7_code, exceptionTable := #[], attributes := #[] }
def k2m5 : Method := { name := "mean", desc := "(J)D", sig := { parameters := [.long], returnType := some .double }, accessFlags := 2, code := some k2c5 }
/-- com/example/tierpath/tierpath/BoundsTally -/
def k2 : Class := { plain "com/example/tierpath/tierpath/BoundsTally" (some 0) with
  accessFlags := 48
  interfaces := #[]
  cf := some (fileOf pool2 7 #[] #[{ accessFlags := 0, nameIndex := 5, descriptorIndex := 6, attributes := #[] }, { accessFlags := 0, nameIndex := 51, descriptorIndex := 52, attributes := #[] }, { accessFlags := 0, nameIndex := 53, descriptorIndex := 54, attributes := #[] }, { accessFlags := 0, nameIndex := 55, descriptorIndex := 54, attributes := #[] }, { accessFlags := 0, nameIndex := 56, descriptorIndex := 54, attributes := #[] }, { accessFlags := 2, nameIndex := 42, descriptorIndex := 43, attributes := #[] }] 48 2 #[] #[{ accessFlags := 2, nameIndex := 28, descriptorIndex := 29, attributes := #[] }, { accessFlags := 2, nameIndex := 32, descriptorIndex := 33, attributes := #[] }, { accessFlags := 2, nameIndex := 36, descriptorIndex := 33, attributes := #[] }, { accessFlags := 2, nameIndex := 39, descriptorIndex := 33, attributes := #[] }])
  fields := #[{ name := "pairs", type := .int, accessFlags := 2, slot := 0, constantValue := 0 }, { name := "boundaryClosed", type := .long, accessFlags := 2, slot := 1, constantValue := 0 }, { name := "setsPruned", type := .long, accessFlags := 2, slot := 2, constantValue := 0 }, { name := "reads", type := .long, accessFlags := 2, slot := 3, constantValue := 0 }]
  methods := #[k2m0, k2m1, k2m2, k2m3, k2m4, k2m5]
  instanceTypes := #[.int, .long, .long, .long]
  staticTypes := #[]
  resolved := Array.replicate 59 none
  statics := none }

def pool3 : Array CpInfo := pool [(1, u "java/lang/Cloneable"), (0, .class_ 1), (0, u "java/lang/Object"), (0, .class_ 3)] 3

/-- java/lang/Cloneable -/
def k3 : Class := { plain "java/lang/Cloneable" (some 0) with
  accessFlags := 1537
  interfaces := #[]
  cf := some (fileOf pool3 2 #[] #[] 1537 4 #[] #[])
  fields := #[]
  methods := #[]
  instanceTypes := #[]
  staticTypes := #[]
  resolved := Array.replicate 8 none
  statics := none }

def pool4 : Array CpInfo := pool [(1, u "java/io/Serializable"), (0, .class_ 1), (0, u "java/lang/Object"), (0, .class_ 3)] 3

/-- java/io/Serializable -/
def k4 : Class := { plain "java/io/Serializable" (some 0) with
  accessFlags := 1537
  interfaces := #[]
  cf := some (fileOf pool4 2 #[] #[] 1537 4 #[] #[])
  fields := #[]
  methods := #[]
  instanceTypes := #[]
  staticTypes := #[]
  resolved := Array.replicate 8 none
  statics := none }

/-- the primitive byte -/
def k5 : Class := { plain "byte" none with kind := .primitive 'B', accessFlags := 0x411 }
/-- [B -/
def k6 : Class := { plain "[B" (some 0) with kind := .array 5 .byte, interfaces := #[3, 4], accessFlags := 1041 }

/-- the primitive int -/
def k7 : Class := { plain "int" none with kind := .primitive 'I', accessFlags := 0x411 }
/-- [I -/
def k8 : Class := { plain "[I" (some 0) with kind := .array 7 .int, interfaces := #[3, 4], accessFlags := 1041 }

def heap : Heap := #[]
def classes : Array Class := #[k0, k1, k2, k3, k4, k5, k6, k7, k8]
def interned : List (Array UInt16 × Addr) := []
def slotsUsed : Nat := 0
def theMethod : MethodId := ⟨1, 1⟩
def args0 : Array Value := #[.long 5, .long 3, .long 3, .long 5, .long 1, .long 3]
def aboutOver (below : List Frame) : State where
  vm := { classes := classes, interned := interned.toArray }
  heap := heap
  slotsUsed := slotsUsed
  threads := #[{ frames := .invoking theMethod args0 :: below }]
def below0 : List Frame := [.native { method := ⟨0, 0⟩, args := #[] }]
def about1 : State := aboutOver below0
def p0 : Program := .bare "" "" ""
def e0 : Env := launch0.env 0 0 0
theorem w_frames : about1.frames = Frame.invoking theMethod args0 :: below0 := rfl
set_option maxRecDepth 65536 in
theorem w_args : argsFit about1.vm theMethod args0 = true := by decide +kernel
set_option maxRecDepth 65536 in
theorem w_heap : heapFits about1 = true := by decide +kernel
set_option maxRecDepth 65536 in
theorem w_runnable : about1.curStatus? = some .runnable := by decide +kernel
set_option maxRecDepth 65536 in
theorem w_alone : about1.alone = true := by decide +kernel
set_option maxRecDepth 65536 in
theorem w_named : about1.methodNamed? x = some theMethod := by decide +kernel
set_option maxRecDepth 65536 in
theorem w_hears : about1.hears theMethod below0 = true := by decide +kernel
set_option maxRecDepth 65536 in
theorem w_ripe : about1.ripe theMethod args0 below0 = true := by decide +kernel
theorem w_running : about1.status = .running := rfl
set_option maxRecDepth 65536 in
theorem w_room : about1.hasRoom e0.platform room_1 = true :=
  launch0.hasRoom_least _ room_1 (by decide +kernel) (by decide +kernel) (by decide +kernel) (by decide +kernel) (by decide +kernel) (by decide +kernel)
theorem allAtoms_all (ts : List Jvm.Cond) (a : Array Jvm.Value) (st : Jvm.State) : (allAtoms ts).before a st = ts.all (fun c => c.before a st) := by
  induction ts with
  | nil => rfl
  | cons c t ih =>
    show (Jvm.Cond.and c (allAtoms t)).before a st = _
    rw [Jvm.Cond.before_and, ih, List.all_cons]
def words1 : List Jvm.Cond := Jvm.Cond.code x code maxLocals ret :: tables_1
/-- a 'code' word, met by the world's own term for the bytes: nothing is compared byte by byte -/
theorem code_word {y : MethodName} {bytes : ByteArray} {mx : Nat} {rt : Option FieldType} {a : Array Value} {s : State} {m : MethodId} {meth : Method} {c : Code} (h1 : s.methodNamed? y = some m) (h2 : s.vm.method? m = some meth) (h3 : meth.code = some c) (h4 : c.code = bytes)
    (h5 : (c.maxLocals == mx && c.exceptionTable.isEmpty && decide (c.maxStack ≤ mostOperands) && decide (meth.sig.returnType = rt) && !meth.locks && decide (parseMethodDescriptor y.desc = some meth.sig)) = true) : (Jvm.Cond.code y bytes mx rt).before a s = true := by
  simp only [Bool.and_eq_true, beq_iff_eq, Bool.not_eq_true', decide_eq_true_eq] at h5
  obtain ⟨⟨⟨⟨⟨g1, g2⟩, g3⟩, g4⟩, g5⟩, g6⟩ := h5
  simp [Cond.before, Cond.holds, Cond.value, h1, h2, h3, h4, g1, g2, g3, g4, g5, g6]
def isCode : Jvm.Cond → Bool
  | .code _ _ _ _ => true
  | _ => false
theorem all_split {L : List Jvm.Cond} {P : Jvm.Cond → Bool} (h1 : L.all (fun c => isCode c || P c) = true) (h2 : ∀ c ∈ L.filter isCode, P c = true) : L.all P = true := by
  refine List.all_eq_true.mpr fun c hc => ?_
  have h := List.all_eq_true.mp h1 c hc
  rcases Bool.eq_false_or_eq_true (isCode c) with hi | hi
  · exact h2 c (List.mem_filter.mpr ⟨hc, hi⟩)
  · simpa [hi] using h
set_option maxRecDepth 65536 in
theorem w_c0 : (Jvm.Cond.code x code maxLocals ret).before args0 about1 = true := code_word (m := ⟨1, 1⟩) (meth := k1m1) (c := k1c1) (by decide +kernel) rfl rfl rfl (by decide +kernel)
set_option maxRecDepth 65536 in
theorem w_c1 : (Jvm.Cond.code ({ cls := "com/example/tierpath/tierpath/BoundsTally", name := "<init>", desc := "()V" } : Jvm.MethodName) prog_20_method_1_code (1 : Nat) (Option.none : Option Jvm.ClassFile.FieldType)).before args0 about1 = true := code_word (m := ⟨2, 0⟩) (meth := k2m0) (c := k2c0) (by decide +kernel) rfl rfl rfl (by decide +kernel)
set_option maxRecDepth 65536 in
theorem w_c2 : (Jvm.Cond.code ({ cls := "java/lang/Object", name := "<init>", desc := "()V" } : Jvm.MethodName) object_method_1_code (1 : Nat) (Option.none : Option Jvm.ClassFile.FieldType)).before args0 about1 = true := code_word (m := ⟨0, 0⟩) (meth := k0m0) (c := k0c0) (by decide +kernel) rfl rfl rfl (by decide +kernel)
set_option maxRecDepth 65536 in
theorem w_c3 : (Jvm.Cond.code ({ cls := "com/example/tierpath/tierpath/BoundsTally", name := "add", desc := "(JJJ)V" } : Jvm.MethodName) prog_20_method_3_code (7 : Nat) (Option.none : Option Jvm.ClassFile.FieldType)).before args0 about1 = true := code_word (m := ⟨2, 1⟩) (meth := k2m1) (c := k2c1) (by decide +kernel) rfl rfl rfl (by decide +kernel)
set_option maxRecDepth 65536 in
theorem w_c4 : (Jvm.Cond.code ({ cls := "com/example/tierpath/tierpath/BoundsTally", name := "meanBoundaryClosed", desc := "()D" } : Jvm.MethodName) prog_20_method_4_code (1 : Nat) (Option.some Jvm.ClassFile.FieldType.double)).before args0 about1 = true := code_word (m := ⟨2, 2⟩) (meth := k2m2) (c := k2c2) (by decide +kernel) rfl rfl rfl (by decide +kernel)
set_option maxRecDepth 65536 in
theorem w_c5 : (Jvm.Cond.code ({ cls := "com/example/tierpath/tierpath/BoundsTally", name := "mean", desc := "(J)D" } : Jvm.MethodName) prog_20_method_7_code (3 : Nat) (Option.some Jvm.ClassFile.FieldType.double)).before args0 about1 = true := code_word (m := ⟨2, 5⟩) (meth := k2m5) (c := k2c5) (by decide +kernel) rfl rfl rfl (by decide +kernel)
set_option maxRecDepth 65536 in
theorem w_c6 : (Jvm.Cond.code ({ cls := "com/example/tierpath/tierpath/BoundsTally", name := "meanSetsPruned", desc := "()D" } : Jvm.MethodName) prog_20_method_5_code (1 : Nat) (Option.some Jvm.ClassFile.FieldType.double)).before args0 about1 = true := code_word (m := ⟨2, 3⟩) (meth := k2m3) (c := k2c3) (by decide +kernel) rfl rfl rfl (by decide +kernel)
set_option maxRecDepth 65536 in
theorem w_c7 : (Jvm.Cond.code ({ cls := "com/example/tierpath/tierpath/BoundsTally", name := "meanReads", desc := "()D" } : Jvm.MethodName) prog_20_method_6_code (1 : Nat) (Option.some Jvm.ClassFile.FieldType.double)).before args0 about1 = true := code_word (m := ⟨2, 4⟩) (meth := k2m4) (c := k2c4) (by decide +kernel) rfl rfl rfl (by decide +kernel)
def codes1 : List Jvm.Cond := [Jvm.Cond.code x code maxLocals ret, Jvm.Cond.code ({ cls := "com/example/tierpath/tierpath/BoundsTally", name := "<init>", desc := "()V" } : Jvm.MethodName) prog_20_method_1_code (1 : Nat) (Option.none : Option Jvm.ClassFile.FieldType), Jvm.Cond.code ({ cls := "java/lang/Object", name := "<init>", desc := "()V" } : Jvm.MethodName) object_method_1_code (1 : Nat) (Option.none : Option Jvm.ClassFile.FieldType), Jvm.Cond.code ({ cls := "com/example/tierpath/tierpath/BoundsTally", name := "add", desc := "(JJJ)V" } : Jvm.MethodName) prog_20_method_3_code (7 : Nat) (Option.none : Option Jvm.ClassFile.FieldType), Jvm.Cond.code ({ cls := "com/example/tierpath/tierpath/BoundsTally", name := "meanBoundaryClosed", desc := "()D" } : Jvm.MethodName) prog_20_method_4_code (1 : Nat) (Option.some Jvm.ClassFile.FieldType.double), Jvm.Cond.code ({ cls := "com/example/tierpath/tierpath/BoundsTally", name := "mean", desc := "(J)D" } : Jvm.MethodName) prog_20_method_7_code (3 : Nat) (Option.some Jvm.ClassFile.FieldType.double), Jvm.Cond.code ({ cls := "com/example/tierpath/tierpath/BoundsTally", name := "meanSetsPruned", desc := "()D" } : Jvm.MethodName) prog_20_method_5_code (1 : Nat) (Option.some Jvm.ClassFile.FieldType.double), Jvm.Cond.code ({ cls := "com/example/tierpath/tierpath/BoundsTally", name := "meanReads", desc := "()D" } : Jvm.MethodName) prog_20_method_6_code (1 : Nat) (Option.some Jvm.ClassFile.FieldType.double)]
set_option maxRecDepth 65536 in
theorem codes_eq : words1.filter isCode = codes1 := rfl
theorem w_codes : ∀ c ∈ words1.filter isCode, c.before args0 about1 = true := by
  rw [codes_eq]
  intro c hc
  simp only [codes1, List.mem_cons, List.not_mem_nil, or_false] at hc
  rcases hc with rfl | rfl | rfl | rfl | rfl | rfl | rfl | rfl
  · exact w_c0
  · exact w_c1
  · exact w_c2
  · exact w_c3
  · exact w_c4
  · exact w_c5
  · exact w_c6
  · exact w_c7
set_option maxRecDepth 65536 in
theorem w_t1 : (words1.take 24).all (fun c => isCode c || c.before args0 about1) = true := by decide +kernel
set_option maxRecDepth 65536 in
theorem w_t2 : (words1.drop 24).all (fun c => isCode c || c.before args0 about1) = true := by decide +kernel
theorem w_tables : (allAtoms (Jvm.Cond.code x code maxLocals ret :: tables_1)).before args0 about1 = true := by
  rw [allAtoms_all]
  show words1.all (fun c => c.before args0 about1) = true
  refine all_split ?_ w_codes
  rw [← List.take_append_drop 24 words1, List.all_append, w_t1, w_t2]
  rfl
set_option maxRecDepth 65536 in
theorem w_case : (Jvm.Cond.and given_1 narrow_1).before args0 about1 = true := by decide +kernel
theorem w_applies : (headSpec (Jvm.Cond.code x code maxLocals ret :: tables_1) room_1).applies x e0.platform about1 = true :=
  (Spec.applies_iff w_frames).mpr ⟨w_running, w_runnable, w_alone, w_named, w_hears, w_ripe, w_room, w_tables⟩
theorem atStart : AtStart classFile x code maxLocals ret World_1 tables_1 room_1 Calls_1 rest_1 Pre_1 launch0 p0 e0 about1 theMethod args0 below0 :=
  ⟨lists_1, trivial, launch0.admits_env _ _ _, launch0.least_env, fairChoices_fair.cas, fairChoices_fair.clock, w_frames, w_args, w_heap, w_applies, trivial, trivial, w_case⟩
end start1
theorem witness_1 : WitnessClaimed_1 := ⟨start1.p0, start1.e0, start1.about1, start1.theMethod, start1.args0, start1.below0, start1.atStart⟩
end Jvm.Pilot.@@N@@
