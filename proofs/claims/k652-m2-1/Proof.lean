import JvmDerived
import JvmDerived.Pilot.@@N@@Statement
import JvmDerived.Pilot.@@N@@Code
set_option linter.unusedVariables false
set_option linter.unusedSimpArgs false
namespace Jvm.Pilot.@@N@@
open Jvm Jvm.ClassFile Sem Op Lib Jvm.Free Jvm.Stand Jvm.LawKit Jvm.RoadKit Bundle Jvm.Pilot.@@N@@.Jvm.D
section OwnLayer
/-- the run from A ends, and P holds of how it ends -/
def own_Ends (tb : Tables) (e : Env) (below : List Frame) (P : Outcome → State → Prop) (A : State) : Prop :=
  ∃ s₂ o, Steps tb e below A s₂ ∧ s₂.status = .running ∧ Ended s₂ below o ∧ P o s₂
theorem own_st {tb : Tables} {e : Env} {below : List Frame} {P : Outcome → State → Prop} {A B : State} (h : ∀ t, Steps tb e below B t → Steps tb e below A t) (k : own_Ends tb e below P B) : own_Ends tb e below P A := by
  obtain ⟨s2, o, h1, h2⟩ := k
  exact ⟨s2, o, h _ h1, h2⟩
/-- where the walk stands: the state T, its heap h, k cells and n slots made, nothing below n0 written -/
def own_S (p : Program) (l : Launch) (e : Env) (R : Room) (s : State) (m : MethodId) (args : Array Value) (below : List Frame) (meth : Method) (c : Code) (n0 : Nat) (T : State) (h : Heap) (k n : Nat) : Prop :=
  ∃ locs, Stand p l e R s m args below meth c T locs k n ∧ T.heap = h ∧ Fr n0 locs
def own_P (s : State) (n0 : Nat) (Qf : Option Value → Heap → Prop) (C S : Nat) (o : Outcome) (U' : State) : Prop := ∃ v L, o = .returned v ∧ (Fr n0 L ∧ Qf v U'.heap) ∧ FrameEnd s o U' L C S
/-- a body's contract: called with 'as' at the heap h0 it returns, and Qf holds of what it returns and of the heap -/
def own_Con (l : Launch) (Z : State) (y : MethodName) (bytes : ByteArray) (maxL : Nat) (ret : Option FieldType) (ws : List Jvm.Cond) (rm : Room) (as' : Array Value) (h0 : Heap) (n0 : Nat) (Qf : Option Value → Heap → Prop) : Prop :=
  MetFree l y (head1 (Jvm.Cond.code y bytes maxL ret :: ws) rm) (fun a U => a = as' ∧ Z.Warmed39 U.vm ∧ U.heap = h0) (fun _ _ _ _ _ => True) (fun _ U o U' => ∃ v L, o = .returned v ∧ (Fr n0 L ∧ Qf v U'.heap) ∧ FrameEnd U o U' L rm.cells rm.slots)
variable {p : Program} {l : Launch} {e : Env} {R : Room} {s : State} {m : MethodId} {args : Array Value} {below : List Frame} {meth : Method} {c : Code} {n0 : Nat} {T : State} {h : Heap} {k n : Nat} {Z : State} {a0 : Array Value} {P : Outcome → State → Prop}
theorem own_here (Y : own_S p l e R s m args below meth c n0 T h k n) : At T m c below := by
  obtain ⟨_, X, -⟩ := Y
  exact X.here
theorem own_body {y : MethodName} {bytes : ByteArray} {maxL : Nat} {ret : Option FieldType} {ws : List Jvm.Cond} {rm : Room} {as' : Array Value} {h0 : Heap} {Qf : Option Value → Heap → Prop} (hpn : plainFor y = true)
    (hbody : ∀ (p : Program) (e : Env) (s : State) (m : MethodId) (below : List Frame) (meth : Method) (c : Code) (T : State), p.tables.exec = Jvm.exec → Z.Warmed39 s.vm → c.code = bytes → c.maxLocals = maxL → s.vm.findClass y.cls = some m.cls → meth.name = y.name → meth.sig.returnType = ret → meth.locks = false →
      own_S p l e rm s m as' below meth c n0 T h0 0 0 → own_Ends p.tables e below (own_P s n0 Qf rm.cells rm.slots) (T.setTop (entryFrame m as' maxL))) : own_Con l Z y bytes maxL ret ws rm as' h0 n0 Qf := by
  refine MetFree.of_bodySF hpn hisR ?_
  intro p e s m args below meth c s₁ Bd hml0 hP hK
  obtain ⟨rfl, hZ, hh⟩ := hP
  have hown : s.vm.findClass y.cls = some m.cls := findClass_of_methodNamed Bd.named
  have hnm := (name_of_methodNamed Bd.named Bd.method).1
  exact hbody p e s m below meth c s₁ Bd.exec hZ Bd.bytes hml0 hown hnm Bd.returns Bd.notSynchronized ⟨[], Stand.of_body Bd, by rw [← hh, Bd.state]; rfl, Fr.nil n0⟩
theorem own_leave (Y : own_S p l e R s m args below meth c n0 T h k n) (hlk : meth.locks = false) {v : Option Value} (hv : meth.sig.returnType = none → v = none) {Qf : Option Value → Heap → Prop} {C S : Nat} (hk : k ≤ C) (hn : n ≤ S) (hQ : Qf v h) {A : State}
    (st : ∀ (locs : List Loc) (fs : List Frame), Stand p l e R s m args below meth c T locs k n → (∀ (f : JFrame) (acts : List Action), f.method = m → f.locked = none → f.entered = [] → (doReturn e (T.setTop f) acts v).1 = T.setFrames fs) → Steps p.tables e below A (T.setFrames fs)) : own_Ends p.tables e below (own_P s n0 Qf C S) A := by
  obtain ⟨locs, X, e1, N⟩ := Y
  obtain ⟨fs, hr, hrun, hended, hW, hsame⟩ := X.leave hv hlk
  refine ⟨_, _, st locs fs X hr, hrun, hended, v, locs, rfl, ⟨N, ?_⟩, ⟨_, rfl⟩, hW, hsame.mono hk hn⟩
  show Qf v T.heap
  rw [e1]; exact hQ
theorem own_ret (Y : own_S p l e R s m args below meth c n0 T h k n) (hx : p.tables.exec = Jvm.exec) (hlk : meth.locks = false) {pc : Nat} {Ls : Array Slot} {w : Value} {t : FieldType} {i : Instr} {rest : List Value} (hret : meth.sig.returnType = some t) (hd : decode c.code pc = .ok (i, 1)) (hn : narrow t w = w)
    (hi : (i = .ireturn ∧ (t = .int ∨ t = .boolean ∨ t = .byte ∨ t = .char ∨ t = .short) ∧ ∃ z, w = .int z) ∨ (i = .lreturn ∧ t = .long ∧ ∃ z, w = .long z) ∨ (i = .dreturn ∧ t = .double ∧ ∃ z, w = .double z) ∨ (i = .freturn ∧ t = .float ∧ ∃ z, w = .float z) ∨ (i = .areturn ∧ t.isReference = true ∧ w.isRef = true))
    {Qf : Option Value → Heap → Prop} {C S : Nat} (hk : k ≤ C) (hs : n ≤ S) (hQ : Qf (some w) h) : own_Ends p.tables e below (own_P s n0 Qf C S) (T.setTop (mkF m pc Ls (w :: rest))) :=
  own_leave Y hlk (fun q => by rw [hret] at q; cases q) hk hs hQ fun _ _ X hr => retOut X hx hret hn hi hd hr
theorem own_retI (Y : own_S p l e R s m args below meth c n0 T h k n) (hx : p.tables.exec = Jvm.exec) (hlk : meth.locks = false) {pc : Nat} {Ls : Array Slot} {z : Int32} {rest : List Value} (hret : meth.sig.returnType = some .int) (hd : decode c.code pc = .ok (.ireturn, 1))
    {Qf : Option Value → Heap → Prop} {C S : Nat} (hk : k ≤ C) (hs : n ≤ S) (hQ : Qf (some (.int z)) h) : own_Ends p.tables e below (own_P s n0 Qf C S) (T.setTop (mkF m pc Ls (.int z :: rest))) :=
  own_ret Y hx hlk hret hd rfl (Or.inl ⟨rfl, Or.inl rfl, _, rfl⟩) hk hs hQ
theorem own_retN (Y : own_S p l e R s m args below meth c n0 T h k n) (hx : p.tables.exec = Jvm.exec) (hlk : meth.locks = false) {pc : Nat} {Ls : Array Slot} {z : Int32} {t : FieldType} {rest : List Value} (hret : meth.sig.returnType = some t) (ht : t = .boolean ∨ t = .byte ∨ t = .char ∨ t = .short) (hd : decode c.code pc = .ok (.ireturn, 1))
    {Qf : Option Value → Heap → Prop} {C S : Nat} (hk : k ≤ C) (hs : n ≤ S) (hQ : Qf (some (.int (nar t z))) h) : own_Ends p.tables e below (own_P s n0 Qf C S) (T.setTop (mkF m pc Ls (.int z :: rest))) :=
  own_leave Y hlk (fun q => by rw [hret] at q; cases q) hk hs hQ fun _ _ X hr => retN X hx hret ht hd hr
theorem own_retJ (Y : own_S p l e R s m args below meth c n0 T h k n) (hx : p.tables.exec = Jvm.exec) (hlk : meth.locks = false) {pc : Nat} {Ls : Array Slot} {z : Int64} {rest : List Value} (hret : meth.sig.returnType = some .long) (hd : decode c.code pc = .ok (.lreturn, 1))
    {Qf : Option Value → Heap → Prop} {C S : Nat} (hk : k ≤ C) (hs : n ≤ S) (hQ : Qf (some (.long z)) h) : own_Ends p.tables e below (own_P s n0 Qf C S) (T.setTop (mkF m pc Ls (.long z :: rest))) :=
  own_ret Y hx hlk hret hd rfl (Or.inr (Or.inl ⟨rfl, rfl, _, rfl⟩)) hk hs hQ
theorem own_retA (Y : own_S p l e R s m args below meth c n0 T h k n) (hx : p.tables.exec = Jvm.exec) (hlk : meth.locks = false) {pc : Nat} {Ls : Array Slot} {w : Value} {t : FieldType} {rest : List Value} (hret : meth.sig.returnType = some t) (ht : t.isReference = true) (hw : w.isRef = true) (hn : narrow t w = w) (hd : decode c.code pc = .ok (.areturn, 1))
    {Qf : Option Value → Heap → Prop} {C S : Nat} (hk : k ≤ C) (hs : n ≤ S) (hQ : Qf (some w) h) : own_Ends p.tables e below (own_P s n0 Qf C S) (T.setTop (mkF m pc Ls (w :: rest))) :=
  own_ret Y hx hlk hret hd hn (Or.inr (Or.inr (Or.inr (Or.inr ⟨rfl, ht, hw⟩)))) hk hs hQ
theorem own_retV (Y : own_S p l e R s m args below meth c n0 T h k n) (hx : p.tables.exec = Jvm.exec) (hlk : meth.locks = false) {pc : Nat} {Ls : Array Slot} (hret : meth.sig.returnType = none) (hd : decode c.code pc = .ok (.return_, 1))
    {Qf : Option Value → Heap → Prop} {C S : Nat} (hk : k ≤ C) (hs : n ≤ S) (hQ : Qf none h) : own_Ends p.tables e below (own_P s n0 Qf C S) (T.setTop (mkF m pc Ls [])) :=
  own_leave Y hlk (fun _ => rfl) hk hs hQ fun _ _ X hr => X.returnOut hx hret hd hr
/-! fields -/
theorem own_getF (Y : own_S p l e R s m args below meth c n0 T h k n) (hx : p.tables.exec = Jvm.exec) (hZ : Z.Warmed39 s.vm) {own R0 O f d host : String} {index : Nat} (hown : s.vm.findClass own = some m.cls) (w : (Jvm.Cond.fieldLink own index R0 f d).before a0 Z = true ∨ (Jvm.Cond.fieldLinkNest own index R0 f d host).before a0 Z = true) (via : Via Z R0 O f d) {a : Addr} {v : Value} (F : Fld Z h a O f d v)
    {g : JFrame} (hg : g.method = m) {rest : List Value} (hs : g.stack = .ref a :: rest) (hd : decode c.code g.pc = .ok (.getfield index, 3)) (K : ∀ T', own_S p l e R s m args below meth c n0 T' h k n → own_Ends p.tables e below P (T'.setTop { g with pc := g.pc + 3, stack := v :: rest })) : own_Ends p.tables e below P (T.setTop g) := by
  obtain ⟨locs, X, e1, N⟩ := Y
  obtain ⟨T', X', e', st⟩ := getF X hx hZ hown w via e1 F hg hs hd
  exact own_st st (K T' ⟨locs, X', e', N⟩)
theorem own_putF (Y : own_S p l e R s m args below meth c n0 T h k n) (hx : p.tables.exec = Jvm.exec) (hZ : Z.Warmed39 s.vm) {own R0 O f d host C : String} {index kk : Nat} {ty : FieldType} (hown : s.vm.findClass own = some m.cls) (w : (Jvm.Cond.fieldLink own index R0 f d).before a0 Z = true ∨ (Jvm.Cond.fieldLinkNest own index R0 f d host).before a0 Z = true) (via : Via Z R0 O f d) {a : Addr} {v old : Value} (F : Fld Z h a O f d old) (E : Exa Z h a C)
    (L : (Jvm.Cond.lays C O f d).before a0 Z = true ∨ ((Jvm.Cond.laysFinal C O f d).before a0 Z = true ∧ own = O ∧ meth.name = "<init>")) (wi : (Jvm.Cond.instantiable C kk).before a0 Z = true) (ha : n0 ≤ a) (hty : parseFieldDescriptor d = some ty) (hn : narrow ty v = v) (hf : fits ty v = true) {g : JFrame} (hg : g.method = m) {rest : List Value} (hs : g.stack = v :: .ref a :: rest) (hd : decode c.code g.pc = .ok (.putfield index, 3))
    (K : ∀ T' h', own_S p l e R s m args below meth c n0 T' h' k n → Wr h h' a (Jvm.RoadKit.slotOf Z O f d) v → Fld Z h' a O f d v → own_Ends p.tables e below P (T'.setTop { g with pc := g.pc + 3, stack := rest })) : own_Ends p.tables e below P (T.setTop g) := by
  obtain ⟨locs, X, e1, N⟩ := Y
  obtain ⟨T', h', X', e', W, st⟩ := putF X hx hZ hown w via e1 F E L wi hty hn hf hg hs hd
  exact own_st st (K T' h' ⟨_, X', e', Fr.snoc X' N ha⟩ W (F.same W))
theorem own_putFN (Y : own_S p l e R s m args below meth c n0 T h k n) (hx : p.tables.exec = Jvm.exec) (hZ : Z.Warmed39 s.vm) {own R0 O f d C : String} {index kk : Nat} {ty : FieldType} (hown : s.vm.findClass own = some m.cls) (w : (Jvm.Cond.fieldLink own index R0 f d).before a0 Z = true) (via : Via Z R0 O f d) {a : Addr} {v v' old : Value} (F : Fld Z h a O f d old) (E : Exa Z h a C)
    (L : (Jvm.Cond.lays C O f d).before a0 Z = true ∨ ((Jvm.Cond.laysFinal C O f d).before a0 Z = true ∧ own = O ∧ meth.name = "<init>")) (wi : (Jvm.Cond.instantiable C kk).before a0 Z = true) (ha : n0 ≤ a) (hty : parseFieldDescriptor d = some ty) (hn : narrow ty v = v') (hf : fits ty v' = true) {g : JFrame} (hg : g.method = m) {rest : List Value} (hs : g.stack = v :: .ref a :: rest) (hd : decode c.code g.pc = .ok (.putfield index, 3))
    (K : ∀ T' h', own_S p l e R s m args below meth c n0 T' h' k n → Wr h h' a (Jvm.RoadKit.slotOf Z O f d) v' → Fld Z h' a O f d v' → own_Ends p.tables e below P (T'.setTop { g with pc := g.pc + 3, stack := rest })) : own_Ends p.tables e below P (T.setTop g) := by
  obtain ⟨locs, X, e1, N⟩ := Y
  obtain ⟨T', h', X', e', W, st⟩ := putFN X hx hZ hown w via e1 F E L wi hty hn hf hg hs hd
  exact own_st st (K T' h' ⟨_, X', e', Fr.snoc X' N ha⟩ W (F.same W))
theorem own_getS (Y : own_S p l e R s m args below meth c n0 T h k n) (hx : p.tables.exec = Jvm.exec) (hZ : Z.Warmed39 s.vm) {own R0 O f d host : String} {index : Nat} (hown : s.vm.findClass own = some m.cls) (w : (Jvm.Cond.fieldLink own index R0 f d).before a0 Z = true ∨ (Jvm.Cond.fieldLinkNest own index R0 f d host).before a0 Z = true) (via : Via Z R0 O f d) {v : Value} (F : Sta Z h O f d v)
    {g : JFrame} (hg : g.method = m) (hd : decode c.code g.pc = .ok (.getstatic index, 3)) (K : ∀ T', own_S p l e R s m args below meth c n0 T' h k n → own_Ends p.tables e below P (T'.setTop { g with pc := g.pc + 3, stack := v :: g.stack })) : own_Ends p.tables e below P (T.setTop g) := by
  obtain ⟨locs, X, e1, N⟩ := Y
  obtain ⟨T', X', e', st⟩ := getS2 X hx hZ hown w via e1 F hg hd
  exact own_st st (K T' ⟨locs, X', e', N⟩)
/-! new objects -/
theorem own_new (Y : own_S p l e R s m args below meth c n0 T h k n) (hx : p.tables.exec = Jvm.exec) (hZ : Z.Warmed39 s.vm) {own C : String} {index nn : Nat} (hown : s.vm.findClass own = some m.cls) (w : (Jvm.Cond.classLink own index C).before a0 Z = true) (wi : (Jvm.Cond.instantiable C nn).before a0 Z = true) (wz : (Jvm.Cond.initialized C).before a0 Z = true)
    {g : JFrame} (hg : g.method = m) (hd : decode c.code g.pc = .ok (.new index, 3)) (hc : k + 1 ≤ R.cells) (hl : n + nn ≤ R.slots)
    (K : ∀ T' h' b, b = h.size → own_S p l e R s m args below meth c n0 T' h' (k + 1) (n + nn) → Ext h h' → Exa Z h' b C → (∀ (O nm d : String) (ty : FieldType), Laid Z a0 C O nm d → parseFieldDescriptor d = some ty → Fld Z h' b O nm d (defaultValue ty)) →
      own_Ends p.tables e below P (T'.setTop { g with pc := g.pc + 3, stack := .ref b :: g.stack })) : own_Ends p.tables e below P (T.setTop g) := by
  obtain ⟨locs, X, e1, N⟩ := Y
  obtain ⟨T', h', X', e', E, A, D, -, st⟩ := newO X hx hZ hown w wi wz e1 hg hd hc hl
  exact own_st st (K T' h' _ rfl ⟨locs, X', e', N⟩ E A (fun _ _ _ _ q r => D q r))
theorem own_initO (Y : own_S p l e R s m args below meth c n0 T h k n) (hx : p.tables.exec = Jvm.exec) (hZ : Z.Warmed39 s.vm) {own : String} {idx : Nat} (hown : s.vm.findClass own = some m.cls) (w1 : (Jvm.Cond.methodLink own idx Lib.objectInit).before a0 Z = true) (w2 : (Jvm.Cond.instanceMethod Lib.objectInit).before a0 Z = true) (w3 : (Jvm.Cond.code Lib.objectInit ⟨#[0xb1]⟩ 1 none).before a0 Z = true)
    {g : JFrame} (hg : g.method = m) (hsize : g.locals.size = c.maxLocals) {a : Addr} {rest : List Value} (hs : g.stack = .ref a :: rest) (hd : decode c.code g.pc = .ok (.invokespecial idx, 3)) (hf : 1 ≤ R.frames) {W : Nat} (hW : 2 * g.monitorRoom + (rest.map fun v => v.category).sum ≤ W) (hl : W + 12 ≤ R.locals)
    (K : ∀ T', own_S p l e R s m args below meth c n0 T' h k n → own_Ends p.tables e below P (T'.setTop { g with pc := g.pc + 3, stack := rest })) : own_Ends p.tables e below P (T.setTop g) := by
  obtain ⟨locs, X, e1, N⟩ := Y
  obtain ⟨T', X', e', st⟩ := initO X hx hZ hown w1 w2 w3 e1 hg hsize hs hd hf hW hl
  exact own_st st (K T' ⟨locs, X', e', N⟩)
/-! arrays: the cell's slots are the list vs -/
def own_A (Z : State) (h : Heap) (a : Addr) (ty : FieldType) (vs : List Value) : Prop := ∃ c : Cell, Arr Z h a c ty ∧ c.slots.toList = vs ∧ vs.length < 2 ^ 31
theorem own_A.lt {a : Addr} {ty : FieldType} {vs : List Value} (A : own_A Z h a ty vs) : a < h.size := by obtain ⟨c, A, -⟩ := A; exact A.lt
theorem own_A.ext {h' : Heap} {a : Addr} {ty : FieldType} {vs : List Value} (A : own_A Z h a ty vs) (E : Ext h h') : own_A Z h' a ty vs := by obtain ⟨c, A, r⟩ := A; exact ⟨c, A.ext E, r⟩
theorem own_A.other {h' : Heap} {a b : Addr} {sl : Nat} {v : Value} {ty : FieldType} {vs : List Value} (A : own_A Z h a ty vs) (W : Wr h h' b sl v) (q : a ≠ b) : own_A Z h' a ty vs := by obtain ⟨c, A, r⟩ := A; exact ⟨c, A.other W q, r⟩
theorem own_A.keep {h' : Heap} {a : Addr} {ws : List Addr} {ty : FieldType} {vs : List Value} (A : own_A Z h a ty vs) (K : Keep h h' ws) (q : a ∉ ws) : own_A Z h' a ty vs := by obtain ⟨c, A, r⟩ := A; exact ⟨c, ⟨K.2.1 a c A.1 q, A.2⟩, r⟩
theorem own_sz {c : Cell} {vs : List Value} (q : c.slots.toList = vs) : c.slots.size = vs.length := by rw [← q]; simp
theorem own_in {c : Cell} {vs : List Value} {j : Int32} {i : Nat} (q : c.slots.toList = vs) (hj : ¬ j < 0) (hi : j.toNatClampNeg = i) (hl : i < vs.length) : ¬ (j < 0 ∨ c.slots.size ≤ j.toNatClampNeg) := by
  rw [own_sz q, hi]; intro z; rcases z with z | z
  · exact hj z
  · omega
theorem own_get {c : Cell} {vs : List Value} {j : Int32} {i : Nat} {v : Value} (q : c.slots.toList = vs) (hi : j.toNatClampNeg = i) (hv : vs[i]? = some v) : c.slots[j.toNatClampNeg]? = some v := by
  rw [hi, ← Array.getElem?_toList, q, hv]
theorem own_A.set {h' : Heap} {a : Addr} {ty : FieldType} {vs : List Value} {cl : Cell} {i : Nat} {v : Value} (A : Arr Z h a cl ty) (q : cl.slots.toList = vs) (hl : vs.length < 2 ^ 31) (W : Wr h h' a i v) : own_A Z h' a ty (vs.set i v) :=
  ⟨_, A.same W, by simp [Cell.setSlot, q], by simpa using hl⟩
theorem own_newP (Y : own_S p l e R s m args below meth c n0 T h k n) (hx : p.tables.exec = Jvm.exec) (hZ : Z.Warmed39 s.vm) {aty : ArrayType} (w : (Jvm.Cond.arrayClass (newarray.typeOf aty)).before a0 Z = true) {g : JFrame} (hg : g.method = m) (hd : decode c.code g.pc = .ok (.newarray aty, 2)) {z : Int32} {rest : List Value} (hs : g.stack = .int z :: rest)
    (hz : ¬ z < 0) {nz cap : Nat} (hn : z.toNatClampNeg = nz) (hcap : nz ≤ cap) (hb : cap * 8 ≤ 536870912) (hc : k + 1 ≤ R.cells) (hl : n + cap ≤ R.slots) {ty : FieldType} (hty : newarray.typeOf aty = ty)
    (K : ∀ T' h' b, b = h.size → own_S p l e R s m args below meth c n0 T' h' (k + 1) (n + cap) → Ext h h' → own_A Z h' b ty (List.replicate nz (defaultValue ty)) → own_Ends p.tables e below P (T'.setTop { g with pc := g.pc + 2, stack := .ref b :: rest })) : own_Ends p.tables e below P (T.setTop g) := by
  obtain ⟨locs, X, e1, N⟩ := Y
  subst hty
  obtain ⟨T', h', cA, X', e', E, A, st⟩ := newP X hx hZ w e1 hg hd hs hz (cap := cap) (by rw [hn]; exact hcap) hb hc hl
  refine own_st st (K T' h' _ rfl ⟨locs, X', e', N⟩ E ⟨_, A, ?_, ?_⟩)
  · simp [newA, hn]
  · simp; omega
theorem own_newR (Y : own_S p l e R s m args below meth c n0 T h k n) (hx : p.tables.exec = Jvm.exec) (hZ : Z.Warmed39 s.vm) {own C : String} {index : Nat} (hown : s.vm.findClass own = some m.cls) (w1 : (Jvm.Cond.classLink own index C).before a0 Z = true) (w2 : (Jvm.Cond.arrayOver (.object C)).before a0 Z = true) {g : JFrame} (hg : g.method = m) (hd : decode c.code g.pc = .ok (.anewarray index, 3)) {z : Int32} {rest : List Value} (hs : g.stack = .int z :: rest)
    (hz : ¬ z < 0) {nz cap : Nat} (hn : z.toNatClampNeg = nz) (hcap : nz ≤ cap) (hb : cap * 8 ≤ 536870912) (hc : k + 1 ≤ R.cells) (hl : n + cap ≤ R.slots)
    (K : ∀ T' h' b, b = h.size → own_S p l e R s m args below meth c n0 T' h' (k + 1) (n + cap) → Ext h h' → own_A Z h' b (.object C) (List.replicate nz .null) → own_Ends p.tables e below P (T'.setTop { g with pc := g.pc + 3, stack := .ref b :: rest })) : own_Ends p.tables e below P (T.setTop g) := by
  obtain ⟨locs, X, e1, N⟩ := Y
  obtain ⟨T', h', cA, X', e', E, A, O, st⟩ := newR X hx hZ hown w1 w2 e1 hg hd hs hz (cap := cap) (by rw [hn]; exact hcap) hb hc hl
  refine own_st st (K T' h' _ rfl ⟨locs, X', e', N⟩ E ⟨_, A, ?_, ?_⟩)
  · simp [newA, hn, defaultValue]
  · simp; omega
theorem own_mono (Y : own_S p l e R s m args below meth c n0 T h k n) {k' n' : Nat} (hk : k ≤ k') (hn : n ≤ n') : own_S p l e R s m args below meth c n0 T h k' n' := by
  obtain ⟨locs, X, r⟩ := Y
  exact ⟨locs, { X with same := X.same.mono hk hn }, r⟩
theorem own_stI (Y : own_S p l e R s m args below meth c n0 T h k n) (hx : p.tables.exec = Jvm.exec) (hZ : Z.Warmed39 s.vm) {a : Addr} {vs : List Value} (A : own_A Z h a .int vs) (ha : n0 ≤ a) {j x : Int32} {i : Nat} (hj : ¬ j < 0) (hi : j.toNatClampNeg = i) (hl : i < vs.length) {g : JFrame} (hg : g.method = m) {rest : List Value} (hs : g.stack = .int x :: .int j :: .ref a :: rest) (hd : decode c.code g.pc = .ok (.iastore, 1))
    (K : ∀ T' h', own_S p l e R s m args below meth c n0 T' h' k n → Wr h h' a i (.int x) → own_A Z h' a .int (vs.set i (.int x)) → own_Ends p.tables e below P (T'.setTop { g with pc := g.pc + 1, stack := rest })) : own_Ends p.tables e below P (T.setTop g) := by
  obtain ⟨locs, X, e1, N⟩ := Y
  obtain ⟨cl, A, q, r⟩ := A
  obtain ⟨T', h', X', e', W, st⟩ := stI X hx hZ e1 A (own_in q hj hi hl) hg hs hd
  have W' := W; rw [hi] at W'
  exact own_st st (K T' h' ⟨_, X', e', Fr.snoc X' N ha⟩ W' (own_A.set A q r W'))
theorem own_stJ (Y : own_S p l e R s m args below meth c n0 T h k n) (hx : p.tables.exec = Jvm.exec) (hZ : Z.Warmed39 s.vm) {a : Addr} {vs : List Value} (A : own_A Z h a .long vs) (ha : n0 ≤ a) {j : Int32} {x : Int64} {i : Nat} (hj : ¬ j < 0) (hi : j.toNatClampNeg = i) (hl : i < vs.length) {g : JFrame} (hg : g.method = m) {rest : List Value} (hs : g.stack = .long x :: .int j :: .ref a :: rest) (hd : decode c.code g.pc = .ok (.lastore, 1))
    (K : ∀ T' h', own_S p l e R s m args below meth c n0 T' h' k n → Wr h h' a i (.long x) → own_A Z h' a .long (vs.set i (.long x)) → own_Ends p.tables e below P (T'.setTop { g with pc := g.pc + 1, stack := rest })) : own_Ends p.tables e below P (T.setTop g) := by
  obtain ⟨locs, X, e1, N⟩ := Y
  obtain ⟨cl, A, q, r⟩ := A
  obtain ⟨T', h', X', e', W, st⟩ := stJ X hx hZ e1 A (own_in q hj hi hl) hg hs hd
  have W' := W; rw [hi] at W'
  exact own_st st (K T' h' ⟨_, X', e', Fr.snoc X' N ha⟩ W' (own_A.set A q r W'))
theorem own_stB (Y : own_S p l e R s m args below meth c n0 T h k n) (hx : p.tables.exec = Jvm.exec) (hZ : Z.Warmed39 s.vm) {a : Addr} {vs : List Value} (A : own_A Z h a .byte vs) (ha : n0 ≤ a) {j x : Int32} {i : Nat} (hj : ¬ j < 0) (hi : j.toNatClampNeg = i) (hl : i < vs.length) {g : JFrame} (hg : g.method = m) {rest : List Value} (hs : g.stack = .int x :: .int j :: .ref a :: rest) (hd : decode c.code g.pc = .ok (.bastore, 1))
    (K : ∀ T' h', own_S p l e R s m args below meth c n0 T' h' k n → Wr h h' a i (.int x.toInt8.toInt32) → own_A Z h' a .byte (vs.set i (.int x.toInt8.toInt32)) → own_Ends p.tables e below P (T'.setTop { g with pc := g.pc + 1, stack := rest })) : own_Ends p.tables e below P (T.setTop g) := by
  obtain ⟨locs, X, e1, N⟩ := Y
  obtain ⟨cl, A, q, r⟩ := A
  obtain ⟨T', h', X', e', W, st⟩ := stB X hx hZ e1 A (own_in q hj hi hl) hg hs hd
  have W' := W; rw [hi] at W'
  exact own_st st (K T' h' ⟨_, X', e', Fr.snoc X' N ha⟩ W' (own_A.set A q r W'))
theorem own_stC (Y : own_S p l e R s m args below meth c n0 T h k n) (hx : p.tables.exec = Jvm.exec) (hZ : Z.Warmed39 s.vm) {a : Addr} {vs : List Value} (A : own_A Z h a .char vs) (ha : n0 ≤ a) {j x : Int32} {i : Nat} (hj : ¬ j < 0) (hi : j.toNatClampNeg = i) (hl : i < vs.length) {g : JFrame} (hg : g.method = m) {rest : List Value} (hs : g.stack = .int x :: .int j :: .ref a :: rest) (hd : decode c.code g.pc = .ok (.castore, 1))
    (K : ∀ T' h', own_S p l e R s m args below meth c n0 T' h' k n → Wr h h' a i (.int x.toUInt32.toUInt16.toUInt32.toInt32) → own_A Z h' a .char (vs.set i (.int x.toUInt32.toUInt16.toUInt32.toInt32)) → own_Ends p.tables e below P (T'.setTop { g with pc := g.pc + 1, stack := rest })) : own_Ends p.tables e below P (T.setTop g) := by
  obtain ⟨locs, X, e1, N⟩ := Y
  obtain ⟨cl, A, q, r⟩ := A
  obtain ⟨T', h', X', e', W, st⟩ := stC X hx hZ e1 A (own_in q hj hi hl) hg hs hd
  have W' := W; rw [hi] at W'
  exact own_st st (K T' h' ⟨_, X', e', Fr.snoc X' N ha⟩ W' (own_A.set A q r W'))
theorem own_len (Y : own_S p l e R s m args below meth c n0 T h k n) (hx : p.tables.exec = Jvm.exec) (hZ : Z.Warmed39 s.vm) {a : Addr} {ty : FieldType} {vs : List Value} (A : own_A Z h a ty vs) {z : Int32} (hz : vs.length.toInt32 = z) {g : JFrame} (hg : g.method = m) {rest : List Value} (hs : g.stack = .ref a :: rest) (hd : decode c.code g.pc = .ok (.arraylength, 1))
    (K : own_Ends p.tables e below P (T.setTop { g with pc := g.pc + 1, stack := .int z :: rest })) : own_Ends p.tables e below P (T.setTop g) := by
  obtain ⟨locs, X, e1, N⟩ := Y
  obtain ⟨cl, A, q, r⟩ := A
  refine own_st (fun t => X.arraylength hx (by rw [e1]; exact A.1) (State.isArrayOf_alike hZ.alike A.2.1) hg hs hd t) ?_
  rw [own_sz q, hz]; exact K
theorem own_ldI (Y : own_S p l e R s m args below meth c n0 T h k n) (hx : p.tables.exec = Jvm.exec) (hZ : Z.Warmed39 s.vm) {a : Addr} {vs : List Value} (A : own_A Z h a .int vs) {j : Int32} {i : Nat} (hj : ¬ j < 0) (hi : j.toNatClampNeg = i) (hl : i < vs.length) {v : Value} (hv : vs[i]? = some v) {g : JFrame} (hg : g.method = m) {rest : List Value} (hs : g.stack = .int j :: .ref a :: rest) (hd : decode c.code g.pc = .ok (.iaload, 1))
    (K : own_Ends p.tables e below P (T.setTop { g with pc := g.pc + 1, stack := v :: rest })) : own_Ends p.tables e below P (T.setTop g) := by
  obtain ⟨locs, X, e1, N⟩ := Y
  obtain ⟨cl, A, q, r⟩ := A
  exact own_st (fun t => X.iaload hx (by rw [e1]; exact A.1) (State.isArrayOf_alike hZ.alike A.2.1) A.2.2 (own_in q hj hi hl) (own_get q hi hv) hg hs hd t) K
theorem own_ldB (Y : own_S p l e R s m args below meth c n0 T h k n) (hx : p.tables.exec = Jvm.exec) (hZ : Z.Warmed39 s.vm) {a : Addr} {vs : List Value} (A : own_A Z h a .byte vs) {j : Int32} {i : Nat} (hj : ¬ j < 0) (hi : j.toNatClampNeg = i) (hl : i < vs.length) {v : Value} (hv : vs[i]? = some v) {g : JFrame} (hg : g.method = m) {rest : List Value} (hs : g.stack = .int j :: .ref a :: rest) (hd : decode c.code g.pc = .ok (.baload, 1))
    (K : own_Ends p.tables e below P (T.setTop { g with pc := g.pc + 1, stack := v :: rest })) : own_Ends p.tables e below P (T.setTop g) := by
  obtain ⟨locs, X, e1, N⟩ := Y
  obtain ⟨cl, A, q, r⟩ := A
  exact own_st (fun t => X.baloadBytes hx (by rw [e1]; exact A.1) (State.isArrayOf_alike hZ.alike A.2.1) A.2.2 (own_in q hj hi hl) (own_get q hi hv) hg hs hd t) K
theorem own_ldC (Y : own_S p l e R s m args below meth c n0 T h k n) (hx : p.tables.exec = Jvm.exec) (hZ : Z.Warmed39 s.vm) {a : Addr} {vs : List Value} (A : own_A Z h a .char vs) {j : Int32} {i : Nat} (hj : ¬ j < 0) (hi : j.toNatClampNeg = i) (hl : i < vs.length) {v : Value} (hv : vs[i]? = some v) {g : JFrame} (hg : g.method = m) {rest : List Value} (hs : g.stack = .int j :: .ref a :: rest) (hd : decode c.code g.pc = .ok (.caload, 1))
    (K : own_Ends p.tables e below P (T.setTop { g with pc := g.pc + 1, stack := v :: rest })) : own_Ends p.tables e below P (T.setTop g) := by
  obtain ⟨locs, X, e1, N⟩ := Y
  obtain ⟨cl, A, q, r⟩ := A
  exact own_st (fun t => X.caload hx (by rw [e1]; exact A.1) (State.isArrayOf_alike hZ.alike A.2.1) A.2.2 (own_in q hj hi hl) (own_get q hi hv) hg hs hd t) K
theorem own_ldJ (Y : own_S p l e R s m args below meth c n0 T h k n) (hx : p.tables.exec = Jvm.exec) (hZ : Z.Warmed39 s.vm) {a : Addr} {vs : List Value} (A : own_A Z h a .long vs) {j : Int32} {i : Nat} (hj : ¬ j < 0) (hi : j.toNatClampNeg = i) (hl : i < vs.length) {v : Value} (hv : vs[i]? = some v) {g : JFrame} (hg : g.method = m) {rest : List Value} (hs : g.stack = .int j :: .ref a :: rest) (hd : decode c.code g.pc = .ok (.laload, 1))
    (K : own_Ends p.tables e below P (T.setTop { g with pc := g.pc + 1, stack := v :: rest })) : own_Ends p.tables e below P (T.setTop g) := by
  obtain ⟨locs, X, e1, N⟩ := Y
  obtain ⟨cl, A, q, r⟩ := A
  exact own_st (fun t => X.laload hx (by rw [e1]; exact A.1) (State.isArrayOf_alike hZ.alike A.2.1) A.2.2 (own_in q hj hi hl) (own_get q hi hv) hg hs hd t) K
/-! constants -/
theorem own_ldcI (Y : own_S p l e R s m args below meth c n0 T h k n) (hx : p.tables.exec = Jvm.exec) (hZ : Z.Warmed39 s.vm) {own : String} {index : Nat} {v : Int32} (hown : s.vm.findClass own = some m.cls) (w : (Jvm.Cond.constant own index v).before a0 Z = true) {g : JFrame} (hg : g.method = m) (hd : decode c.code g.pc = .ok (.ldc index, 2))
    (K : own_Ends p.tables e below P (T.setTop { g with pc := g.pc + 2, stack := .int v :: g.stack })) : own_Ends p.tables e below P (T.setTop g) := by
  obtain ⟨locs, X, e1, N⟩ := Y
  exact own_st (X.ldcInt hx hown (mvT hZ w) hg hd) K
theorem own_ldcJ (Y : own_S p l e R s m args below meth c n0 T h k n) (hx : p.tables.exec = Jvm.exec) (hZ : Z.Warmed39 s.vm) {own : String} {index : Nat} {v : Int64} (hown : s.vm.findClass own = some m.cls) (w : (Jvm.Cond.constantLong own index v).before a0 Z = true) {g : JFrame} (hg : g.method = m) (hd : decode c.code g.pc = .ok (.ldc2_w index, 3))
    (K : own_Ends p.tables e below P (T.setTop { g with pc := g.pc + 3, stack := .long v :: g.stack })) : own_Ends p.tables e below P (T.setTop g) := by
  obtain ⟨locs, X, e1, N⟩ := Y
  exact own_st (X.ldc2Long hx hown (mvT hZ w) hg hd) K
theorem own_irem (Y : own_S p l e R s m args below meth c n0 T h k n) (hx : p.tables.exec = Jvm.exec) {g : JFrame} (hg : g.method = m) {x y : Int32} {rest : List Value} (hd : decode c.code g.pc = .ok (.irem, 1)) (hs : g.stack = .int y :: .int x :: rest) (hy : y ≠ 0)
    (K : own_Ends p.tables e below P (T.setTop { g with pc := g.pc + 1, stack := .int (x % y) :: rest })) : own_Ends p.tables e below P (T.setTop g) := by
  obtain ⟨locs, X, e1, N⟩ := Y
  exact own_st (fun t => iremM X hx hg hd hs hy) K
/-! calls by contract -/
theorem own_callS (Y : own_S p l e R s m args below meth c n0 T h k n) (hx : p.tables.exec = Jvm.exec) (hZ : Z.Warmed39 s.vm) {own : String} {index : Nat} {y : MethodName} {bytes : ByteArray} {maxL : Nat} {ret : Option FieldType} (hown : s.vm.findClass own = some m.cls) (wl : (Jvm.Cond.methodLink own index y).before a0 Z = true) (wst : (Jvm.Cond.static y).before a0 Z = true) (wi : (Jvm.Cond.initialized y.cls).before a0 Z = true) (wc : (Jvm.Cond.code y bytes maxL ret).before a0 Z = true)
    (hy : y.cls ≠ "java/lang/invoke/MethodHandle" ∧ y.cls ≠ "java/lang/invoke/VarHandle") {rm : Room} {argsL rest : List Value} {Qf : Option Value → Heap → Prop} (hM : own_Con l Z y bytes maxL ret [] rm argsL.toArray h n0 Qf) {W : Nat} (hfr : rm.frames + 1 ≤ R.frames) (hlo : W + (maxL + 11) + rm.locals ≤ R.locals) (hc : k + rm.cells ≤ R.cells) (hsl : n + rm.slots ≤ R.slots)
    {g : JFrame} (hg : g.method = m) (hsize : g.locals.size = c.maxLocals) (hlen : ∀ sig, parseMethodDescriptor y.desc = some sig → argsL.length = sig.parameters.length) (hs : g.stack = argsL.reverse ++ rest) (hW : 2 * g.monitorRoom + (rest.map fun v => v.category).sum ≤ W) (hd : decode c.code g.pc = .ok (.invokestatic index, 3))
    (K : ∀ T' h' v, own_S p l e R s m args below meth c n0 T' h' (k + rm.cells) (n + rm.slots) → Qf v h' → own_Ends p.tables e below P (T'.setTop { g with pc := g.pc + 3, stack := v.toList ++ rest })) : own_Ends p.tables e below P (T.setTop g) := by
  obtain ⟨locs, X, e1, N⟩ := Y
  obtain ⟨v, vm1, ⟨T', L', k', n'⟩, -, X', ⟨L, hQ, l1, y1, z1⟩, st⟩ := Jvm.LawKit.callS X hx hown (mvT hZ wl) (mvT hZ wst) (mvT hZ wi) (mvT hZ wc) hy (backOf (W := W) (Q := fun v h L => Fr n0 L ∧ Qf v h) hM hZ wc wi hfr hlo) hg hsize hlen hs hW hd (fun _ _ => ⟨rfl, e1, hc, hsl⟩)
  dsimp only [Pt.U, Pt.locs, Pt.cells, Pt.slots] at X' l1 y1 z1 st hQ
  subst l1 y1 z1
  exact own_st st (K T' _ v ⟨_, X', rfl, Fr.app N hQ.1⟩ hQ.2)
theorem own_callN (Y : own_S p l e R s m args below meth c n0 T h k n) (hx : p.tables.exec = Jvm.exec) (hZ : Z.Warmed39 s.vm) {own : String} {index : Nat} {y : MethodName} {bytes : ByteArray} {maxL : Nat} (hy1 : y.name = "<init>") (hown : s.vm.findClass own = some m.cls) (wl : (Jvm.Cond.methodLink own index y).before a0 Z = true) (win : (Jvm.Cond.instanceMethod y).before a0 Z = true) (wi : (Jvm.Cond.initialized y.cls).before a0 Z = true) (wc : (Jvm.Cond.code y bytes maxL none).before a0 Z = true)
    (hy : y.cls ≠ "java/lang/invoke/MethodHandle" ∧ y.cls ≠ "java/lang/invoke/VarHandle") {rm : Room} {a : Addr} {argsL rest : List Value} {Qf : Option Value → Heap → Prop} (hM : own_Con l Z y bytes maxL none [] rm (.ref a :: argsL).toArray h n0 Qf) {W : Nat} (hfr : rm.frames + 1 ≤ R.frames) (hlo : W + (maxL + 11) + rm.locals ≤ R.locals) (hc : k + rm.cells ≤ R.cells) (hsl : n + rm.slots ≤ R.slots)
    {g : JFrame} (hg : g.method = m) (hsize : g.locals.size = c.maxLocals) (hlen : ∀ sig, parseMethodDescriptor y.desc = some sig → argsL.length = sig.parameters.length) (hs : g.stack = argsL.reverse ++ .ref a :: rest) (hW : 2 * g.monitorRoom + (rest.map fun v => v.category).sum ≤ W) (hd : decode c.code g.pc = .ok (.invokespecial index, 3))
    (K : ∀ T' h' v, own_S p l e R s m args below meth c n0 T' h' (k + rm.cells) (n + rm.slots) → Qf v h' → own_Ends p.tables e below P (T'.setTop { g with pc := g.pc + 3, stack := v.toList ++ rest })) : own_Ends p.tables e below P (T.setTop g) := by
  obtain ⟨locs, X, e1, N⟩ := Y
  obtain ⟨v, vm1, ⟨T', L', k', n'⟩, -, X', ⟨L, hQ, l1, y1, z1⟩, st⟩ := X.specialBack hx hy1 hown (mvT hZ wl) (mvT hZ win) (mvT hZ wc) hy (backOf (W := W) (Q := fun v h L => Fr n0 L ∧ Qf v h) hM hZ wc wi hfr hlo) hg hsize (Steps.refl _) hlen hs hW hd (fun _ _ => ⟨rfl, e1, hc, hsl⟩)
  dsimp only [Pt.U, Pt.locs, Pt.cells, Pt.slots] at X' l1 y1 z1 st hQ
  subst l1 y1 z1
  exact own_st (fun t q => st.trans q) (K T' _ v ⟨_, X', rfl, Fr.app N hQ.1⟩ hQ.2)
theorem own_callV (Y : own_S p l e R s m args below meth c n0 T h k n) (hx : p.tables.exec = Jvm.exec) (hZ : Z.Warmed39 s.vm) {own C : String} {index : Nat} {y z : MethodName} {bytes : ByteArray} {maxL : Nat} {ret : Option FieldType} (hown : s.vm.findClass own = some m.cls) (wl : (Jvm.Cond.methodLink own index y).before a0 Z = true) (wd : (Jvm.Cond.declares y).before a0 Z = true) (hnf : NotFace s y) (wse : (Jvm.Cond.selects C y z).before a0 Z = true) (win : (Jvm.Cond.instanceMethod z).before a0 Z = true) (wi : (Jvm.Cond.initialized z.cls).before a0 Z = true) (wc : (Jvm.Cond.code z bytes maxL ret).before a0 Z = true)
    (hy : y.cls ≠ "java/lang/invoke/MethodHandle" ∧ y.cls ≠ "java/lang/invoke/VarHandle") {rm : Room} {a : Addr} (E : Exa Z h a C) {argsL rest : List Value} {Qf : Option Value → Heap → Prop} (hM : own_Con l Z z bytes maxL ret [] rm (.ref a :: argsL).toArray h n0 Qf) {W : Nat} (hfr : rm.frames + 1 ≤ R.frames) (hlo : W + (maxL + 11) + rm.locals ≤ R.locals) (hc : k + rm.cells ≤ R.cells) (hsl : n + rm.slots ≤ R.slots)
    {g : JFrame} (hg : g.method = m) (hsize : g.locals.size = c.maxLocals) (hlen : ∀ sig, parseMethodDescriptor y.desc = some sig → argsL.length = sig.parameters.length) (hs : g.stack = argsL.reverse ++ .ref a :: rest) (hW : 2 * g.monitorRoom + (rest.map fun v => v.category).sum ≤ W) (hd : decode c.code g.pc = .ok (.invokevirtual index, 3))
    (K : ∀ T' h' v, own_S p l e R s m args below meth c n0 T' h' (k + rm.cells) (n + rm.slots) → Qf v h' → own_Ends p.tables e below P (T'.setTop { g with pc := g.pc + 3, stack := v.toList ++ rest })) : own_Ends p.tables e below P (T.setTop g) := by
  obtain ⟨locs, X, e1, N⟩ := Y
  obtain ⟨cq, kq, qa, qb, qc⟩ := isOf hZ e1 E
  obtain ⟨v, vm1, ⟨T', L', k', n'⟩, -, X', ⟨L, hQ, l1, y1, z1⟩, st⟩ := X.virtualBack hx hown (mvT hZ wl) (mvT hZ wd) hnf (mvT hZ wse) (mvT hZ win) hy (backOf (W := W) (Q := fun v h L => Fr n0 L ∧ Qf v h) hM hZ wc wi hfr hlo) qa qc hg hsize (Steps.refl _) hlen hs hW hd (fun _ _ => ⟨rfl, e1, hc, hsl⟩)
  dsimp only [Pt.U, Pt.locs, Pt.cells, Pt.slots] at X' l1 y1 z1 st hQ
  subst l1 y1 z1
  exact own_st (fun t q => st.trans q) (K T' _ v ⟨_, X', rfl, Fr.app N hQ.1⟩ hQ.2)
theorem own_callU (Y : own_S p l e R s m args below meth c n0 T h k n) (hx : p.tables.exec = Jvm.exec) (hZ : Z.Warmed39 s.vm) {own C owner : String} {index : Nat} {y z : MethodName} {bytes : ByteArray} {maxL : Nat} {ret : Option FieldType} (hown : s.vm.findClass own = some m.cls) (wl : (Jvm.Cond.methodLink own index y).before a0 Z = true) (wsm : (Jvm.Cond.sameMethod y.cls owner y.name y.desc).before a0 Z = true) (wd : (Jvm.Cond.declares ⟨owner, y.name, y.desc⟩).before a0 Z = true) (wse : (Jvm.Cond.selects C y z).before a0 Z = true) (win : (Jvm.Cond.instanceMethod z).before a0 Z = true) (wi : (Jvm.Cond.initialized z.cls).before a0 Z = true) (wc : (Jvm.Cond.code z bytes maxL ret).before a0 Z = true)
    (hy : owner ≠ "java/lang/invoke/MethodHandle" ∧ owner ≠ "java/lang/invoke/VarHandle") {rm : Room} {a : Addr} (E : Exa Z h a C) {argsL rest : List Value} {Qf : Option Value → Heap → Prop} (hM : own_Con l Z z bytes maxL ret [] rm (.ref a :: argsL).toArray h n0 Qf) {W : Nat} (hfr : rm.frames + 1 ≤ R.frames) (hlo : W + (maxL + 11) + rm.locals ≤ R.locals) (hc : k + rm.cells ≤ R.cells) (hsl : n + rm.slots ≤ R.slots)
    {g : JFrame} (hg : g.method = m) (hsize : g.locals.size = c.maxLocals) (hlen : ∀ sig, parseMethodDescriptor y.desc = some sig → argsL.length = sig.parameters.length) (hs : g.stack = argsL.reverse ++ .ref a :: rest) (hW : 2 * g.monitorRoom + (rest.map fun v => v.category).sum ≤ W) (hd : decode c.code g.pc = .ok (.invokevirtual index, 3))
    (K : ∀ T' h' v, own_S p l e R s m args below meth c n0 T' h' (k + rm.cells) (n + rm.slots) → Qf v h' → own_Ends p.tables e below P (T'.setTop { g with pc := g.pc + 3, stack := v.toList ++ rest })) : own_Ends p.tables e below P (T.setTop g) := by
  obtain ⟨locs, X, e1, N⟩ := Y
  obtain ⟨cq, kq, qa, qb, qc⟩ := isOf hZ e1 E
  obtain ⟨v, vm1, ⟨T', L', k', n'⟩, -, X', ⟨L, hQ, l1, y1, z1⟩, st⟩ := X.virtualBackUp hx hown (mvT hZ wl) (mvT hZ wsm) (mvT hZ wd) hy (mvT hZ wse) (mvT hZ win) (backOf (W := W) (Q := fun v h L => Fr n0 L ∧ Qf v h) hM hZ wc wi hfr hlo) qa qc hg hsize (Steps.refl _) hlen hs hW hd (fun _ _ => ⟨rfl, e1, hc, hsl⟩)
  dsimp only [Pt.U, Pt.locs, Pt.cells, Pt.slots] at X' l1 y1 z1 st hQ
  subst l1 y1 z1
  exact own_st (fun t q => st.trans q) (K T' _ v ⟨_, X', rfl, Fr.app N hQ.1⟩ hQ.2)
theorem own_callP (Y : own_S p l e R s m args below meth c n0 T h k n) (hx : p.tables.exec = Jvm.exec) (hZ : Z.Warmed39 s.vm) {own C : String} {index : Nat} {y : MethodName} {bytes : ByteArray} {maxL : Nat} {ret : Option FieldType} (hown : s.vm.findClass own = some m.cls) (wl : (Jvm.Cond.methodLink own index y).before a0 Z = true) {nn : Nat} (win : (Jvm.Cond.instanceMethod y).before a0 Z = true) (wn : (Jvm.Cond.instantiable y.cls nn).before a0 Z = true) (wp : (Jvm.Cond.privateMethod y).before a0 Z = true) (wi : (Jvm.Cond.initialized y.cls).before a0 Z = true) (wc : (Jvm.Cond.code y bytes maxL ret).before a0 Z = true)
    (hy : y.cls ≠ "java/lang/invoke/MethodHandle" ∧ y.cls ≠ "java/lang/invoke/VarHandle") {rm : Room} {a : Addr} (E : Exa Z h a C) {argsL rest : List Value} {Qf : Option Value → Heap → Prop} (hM : own_Con l Z y bytes maxL ret [] rm (.ref a :: argsL).toArray h n0 Qf) {W : Nat} (hfr : rm.frames + 1 ≤ R.frames) (hlo : W + (maxL + 11) + rm.locals ≤ R.locals) (hc : k + rm.cells ≤ R.cells) (hsl : n + rm.slots ≤ R.slots)
    {g : JFrame} (hg : g.method = m) (hsize : g.locals.size = c.maxLocals) (hlen : ∀ sig, parseMethodDescriptor y.desc = some sig → argsL.length = sig.parameters.length) (hs : g.stack = argsL.reverse ++ .ref a :: rest) (hW : 2 * g.monitorRoom + (rest.map fun v => v.category).sum ≤ W) (hd : decode c.code g.pc = .ok (.invokevirtual index, 3))
    (K : ∀ T' h' v, own_S p l e R s m args below meth c n0 T' h' (k + rm.cells) (n + rm.slots) → Qf v h' → own_Ends p.tables e below P (T'.setTop { g with pc := g.pc + 3, stack := v.toList ++ rest })) : own_Ends p.tables e below P (T.setTop g) := by
  obtain ⟨locs, X, e1, N⟩ := Y
  obtain ⟨cell, q, q'⟩ := E.cell
  have wn' : (Jvm.Cond.instantiable y.cls nn).before #[] s = true := mvT hZ wn
  obtain ⟨ci, ki, hi1, hi2, -, hi4, -⟩ := Cond.instantiable_spec wn'
  have wse : (Jvm.Cond.selects y.cls y y).before args s = true := selects_self_of_private hi1 hi2 (by simpa using (Bool.or_eq_false_iff.mp hi4).1) (Cond.privateMethod_at (mvP hZ wp (args := #[]))) (mvT hZ win) hy
  obtain ⟨v, vm1, ⟨T', L', k', n'⟩, -, X', ⟨L, hQ, l1, y1, z1⟩, st⟩ := X.privateBack hx hown (mvT hZ wl) (mvT hZ win) wse (Cond.privateMethod_at (mvP hZ wp (args := #[]))) (mvT hZ wc) hy (backOf (W := W) (Q := fun v h L => Fr n0 L ∧ Qf v h) hM hZ wc wi hfr hlo) hg hsize (Steps.refl _) (by rw [e1]; exact q) q' hlen hs hW hd (fun _ _ => ⟨rfl, e1, hc, hsl⟩)
  dsimp only [Pt.U, Pt.locs, Pt.cells, Pt.slots] at X' l1 y1 z1 st hQ
  subst l1 y1 z1
  exact own_st (fun t q => st.trans q) (K T' _ v ⟨_, X', rfl, Fr.app N hQ.1⟩ hQ.2)
end OwnLayer
section OwnNums
def own_b (b : Bool) : Int32 := if b then 1 else 0
theorem own_b_t {b : Bool} (h : b = true) : own_b b = 1 := by subst h; rfl
theorem own_b_f {b : Bool} (h : b = false) : own_b b = 0 := by subst h; rfl
theorem own_b_0 (b : Bool) : own_b b = 0 ↔ b = false := by cases b <;> simp [own_b]
theorem own_b_n (b : Bool) : nar .boolean (own_b b) = own_b b := by cases b <;> rfl
theorem own_b_inj {a b : Bool} : own_b a = own_b b ↔ a = b := by cases a <;> cases b <;> simp [own_b]
theorem own_idx {j : Int32} {n : Nat} (h0 : 0 ≤ j.toInt) (h1 : j.toInt < (n : Int)) : ¬ j < 0 ∧ j.toNatClampNeg < n := by
  refine ⟨?_, ?_⟩
  · rw [Int32.lt_iff_toInt_lt]; show ¬ j.toInt < 0; omega
  · show j.toInt.toNat < n; omega
theorem own_ints {xs : List Int32} {i : Nat} (h : i < xs.length) : ∃ d, (xs.map Value.int)[i]? = some (.int d) ∧ d = xs[i] := ⟨xs[i], by simp [h], rfl⟩
theorem own_longs {xs : List Int64} {i : Nat} (h : i < xs.length) : ∃ d, (xs.map Value.long)[i]? = some (.long d) ∧ d = xs[i] := ⟨xs[i], by simp [h], rfl⟩
/-- p i, p (i + 1), .., k of them, all hold -/
def own_all (p : Nat → Bool) : Nat → Nat → Bool
  | _, 0 => true
  | i, k + 1 => p i && own_all p (i + 1) k
def own_g (xs : List Int32) (i : Nat) : Int32 := xs.getD i 0
theorem own_mget {xs : List Int32} {i : Nat} (h : i < (xs.map Value.int).length) : (xs.map Value.int)[i]? = some (.int (own_g xs i)) := by
  have h' : i < xs.length := by simpa using h
  simp [h', own_g]
theorem own_mlen {xs : List Int32} {i : Nat} (h : i < xs.length) : i < (xs.map Value.int).length := by simpa using h
theorem own_nat {j : Int32} {i : Nat} (h : j.toInt = (i : Int)) : ¬ j < 0 ∧ j.toNatClampNeg = i := by
  refine ⟨?_, ?_⟩
  · rw [Int32.lt_iff_toInt_lt]; show ¬ j.toInt < 0; omega
  · show j.toInt.toNat = i; omega
theorem own_inc {j : Int32} {i : Nat} (h : j.toInt = (i : Int)) (hi : i + 1 < 2147483648) : (j + 1).toInt = ((i + 1 : Nat) : Int) := by
  have := c_iadd j 1
  have h1 : (1 : Int32).toInt = 1 := rfl
  have := rng32 (j + 1)
  omega
theorem own_lt {x y : Int32} : x < y ↔ x.toInt < y.toInt := Int32.lt_iff_toInt_lt
theorem own_eq {x y : Int32} : x = y ↔ x.toInt = y.toInt := Int32.toInt_inj.symm
theorem own_tolen {ys : List Int32} {z : Int32} (h : z.toInt = (ys.length : Int)) : (ys.map Value.int).length.toInt32 = z := by
  have q := rng32 z
  have e : (ys.map Value.int).length = ys.length := by simp
  rw [own_eq, len_toInt (by rw [e]; omega), e, h]
theorem own_add {x y : Int32} {a b : Nat} (h1 : x.toInt = (a : Int)) (h2 : y.toInt = (b : Int)) (hi : a + b < 2147483648) : (x + y).toInt = ((a + b : Nat) : Int) := by
  have := c_iadd x y
  have := rng32 (x + y)
  omega
theorem own_sub {x y : Int32} {a b : Nat} (h1 : x.toInt = (a : Int)) (h2 : y.toInt = (b : Int)) : (x - y).toInt = (a : Int) - (b : Int) := by
  have := c_isub x y
  have := rng32 (x - y)
  have := rng32 x
  have := rng32 y
  omega
end OwnNums
theorem own_pn0 : plainName "com/example/tierpath/tierpath/Hierarchy" = true := by first | (simp [plainName, overriddenIn]; done) | decide +kernel
theorem own_d1_0 : decode prog_39_method_26_code 0 = .ok (.iconst 1, 1) := by decide +kernel
theorem own_d1_1 : decode prog_39_method_26_code 1 = .ok (.istore_n 1, 1) := by decide +kernel
theorem own_d1_2 : decode prog_39_method_26_code 2 = .ok (.iload_n 1, 1) := by decide +kernel
theorem own_d1_3 : decode prog_39_method_26_code 3 = .ok (.aload_n 0, 1) := by decide +kernel
theorem own_d1_4 : decode prog_39_method_26_code 4 = .ok (.arraylength, 1) := by decide +kernel
theorem own_d1_5 : decode prog_39_method_26_code 5 = .ok (.if_icmp .ge 20, 3) := by decide +kernel
theorem own_d1_25 : decode prog_39_method_26_code 25 = .ok (.aload_n 0, 1) := by decide +kernel
theorem own_d1_26 : decode prog_39_method_26_code 26 = .ok (.aload_n 0, 1) := by decide +kernel
theorem own_d1_27 : decode prog_39_method_26_code 27 = .ok (.arraylength, 1) := by decide +kernel
theorem own_d1_28 : decode prog_39_method_26_code 28 = .ok (.iconst 1, 1) := by decide +kernel
theorem own_d1_29 : decode prog_39_method_26_code 29 = .ok (.isub, 1) := by decide +kernel
theorem own_d1_30 : decode prog_39_method_26_code 30 = .ok (.iaload, 1) := by decide +kernel
theorem own_d1_31 : decode prog_39_method_26_code 31 = .ok (.ireturn, 1) := by decide +kernel
theorem own_ef_own_rm1_1 (m : MethodId) (r0 : Addr) : entryFrame m #[(.ref r0)] 2 = mkF m 0 #[.val (.ref r0), .unset] [] := by first | (simp [entryFrame, mkF, argsToLocals, Value.category]; done) | rfl
def own_Q_own_rm1_1 (Z : State) (r0 : Addr) (y0 : Int32) (h0 : Heap) (n0 : Nat) (v : Option Value) (h : Heap) : Prop := v = some (.int y0) ∧ Keep h0 h [r0] ∧ own_A Z h r0 .int [(.int y0)]
set_option maxRecDepth 65536 in
set_option maxHeartbeats 40000000 in
theorem own_rm1_1 (l : Launch) (Z : State) (a0 : Array Value) (hw : ∀ d ∈ tables_1, d.before a0 Z = true) (ws : List Jvm.Cond) (r0 : Addr) (y0 : Int32) (h0 : Heap) (n0 : Nat)  (A : own_A Z h0 r0 .int [(.int y0)]) (g : n0 ≤ r0) :
    own_Con l Z (⟨"com/example/tierpath/tierpath/Hierarchy", "prefixSums", "([I)I"⟩ : MethodName) prog_39_method_26_code 2 (some .int) ws ({ frames := 0, cells := 0, slots := 0, locals := 0 } : Room) #[(.ref r0)] h0 n0 (own_Q_own_rm1_1 Z r0 y0 h0 n0) := by
  refine own_body (plainFor_of_name own_pn0) ?_
  intro p e s m below meth c T0 hx hZ hby hml hown hnm hret hlk Y0
  replace hown : s.vm.findClass "com/example/tierpath/tierpath/Hierarchy" = some m.cls := hown
  replace hnm : meth.name = "prefixSums" := hnm
  rw [own_ef_own_rm1_1 m r0]
  show own_Ends _ _ _ _ (T0.setTop (mkF m 0 #[.val (.ref r0), .unset] []))
  refine own_st (fun t => XS.iconst (own_here Y0) hx rfl (hb hby own_d1_0) ) ?_
  show own_Ends _ _ _ _ (T0.setTop (mkF m 1 #[.val (.ref r0), .unset] [(.int (1 : Int32))]))
  refine own_st (fun t => XS.istoreN (own_here Y0) hx rfl (hb hby own_d1_1) rfl (l' := #[.val (.ref r0), .val (.int (1 : Int32))]) rfl) ?_
  show own_Ends _ _ _ _ (T0.setTop (mkF m 2 #[.val (.ref r0), .val (.int (1 : Int32))] []))
  refine own_st (fun t => XS.iloadN (own_here Y0) hx rfl (hb hby own_d1_2) rfl) ?_
  show own_Ends _ _ _ _ (T0.setTop (mkF m 3 #[.val (.ref r0), .val (.int (1 : Int32))] [(.int (1 : Int32))]))
  refine own_st (fun t => XS.aloadN (own_here Y0) hx rfl (hb hby own_d1_3) rfl rfl) ?_
  show own_Ends _ _ _ _ (T0.setTop (mkF m 4 #[.val (.ref r0), .val (.int (1 : Int32))] [(.ref r0), (.int (1 : Int32))]))
  refine own_len Y0 hx hZ A (z := (1 : Int32)) rfl rfl rfl (hb hby own_d1_4) ?_
  show own_Ends _ _ _ _ (T0.setTop (mkF m 5 #[.val (.ref r0), .val (.int (1 : Int32))] [(.int (1 : Int32)), (.int (1 : Int32))]))
  refine own_st (fun t => XS.icmpYes (own_here Y0) hx rfl (pc0 := 5) (pc' := 25) rfl (hb hby own_d1_5) rfl (XT.ii_ge_t (by decide)) (by decide) (by decide)) ?_
  show own_Ends _ _ _ _ (T0.setTop (mkF m 25 #[.val (.ref r0), .val (.int (1 : Int32))] []))
  refine own_st (fun t => XS.aloadN (own_here Y0) hx rfl (hb hby own_d1_25) rfl rfl) ?_
  show own_Ends _ _ _ _ (T0.setTop (mkF m 26 #[.val (.ref r0), .val (.int (1 : Int32))] [(.ref r0)]))
  refine own_st (fun t => XS.aloadN (own_here Y0) hx rfl (hb hby own_d1_26) rfl rfl) ?_
  show own_Ends _ _ _ _ (T0.setTop (mkF m 27 #[.val (.ref r0), .val (.int (1 : Int32))] [(.ref r0), (.ref r0)]))
  refine own_len Y0 hx hZ A (z := (1 : Int32)) rfl rfl rfl (hb hby own_d1_27) ?_
  show own_Ends _ _ _ _ (T0.setTop (mkF m 28 #[.val (.ref r0), .val (.int (1 : Int32))] [(.int (1 : Int32)), (.ref r0)]))
  refine own_st (fun t => XS.iconst (own_here Y0) hx rfl (hb hby own_d1_28) ) ?_
  show own_Ends _ _ _ _ (T0.setTop (mkF m 29 #[.val (.ref r0), .val (.int (1 : Int32))] [(.int (1 : Int32)), (.int (1 : Int32)), (.ref r0)]))
  refine own_st (fun t => XS.isub (own_here Y0) hx rfl (hb hby own_d1_29) rfl) ?_
  show own_Ends _ _ _ _ (T0.setTop (mkF m 30 #[.val (.ref r0), .val (.int (1 : Int32))] [(.int (0 : Int32)), (.ref r0)]))
  refine own_ldI Y0 hx hZ A (i := 0) (by decide) (by decide) (Nat.le_of_ble_eq_true rfl) (v := (.int y0)) rfl rfl rfl (hb hby own_d1_30) ?_
  show own_Ends _ _ _ _ (T0.setTop (mkF m 31 #[.val (.ref r0), .val (.int (1 : Int32))] [(.int y0)]))
  refine own_retI Y0 hx hlk hret (hb hby own_d1_31) (by decide) (by decide) ?_
  exact ⟨rfl, (Keep.refl h0 [r0]), A⟩
theorem own_d1_8 : decode prog_39_method_26_code 8 = .ok (.aload_n 0, 1) := by decide +kernel
theorem own_d1_9 : decode prog_39_method_26_code 9 = .ok (.iload_n 1, 1) := by decide +kernel
theorem own_d1_10 : decode prog_39_method_26_code 10 = .ok (.dup2, 1) := by decide +kernel
theorem own_d1_11 : decode prog_39_method_26_code 11 = .ok (.iaload, 1) := by decide +kernel
theorem own_d1_12 : decode prog_39_method_26_code 12 = .ok (.aload_n 0, 1) := by decide +kernel
theorem own_d1_13 : decode prog_39_method_26_code 13 = .ok (.iload_n 1, 1) := by decide +kernel
theorem own_d1_14 : decode prog_39_method_26_code 14 = .ok (.iconst 1, 1) := by decide +kernel
theorem own_d1_15 : decode prog_39_method_26_code 15 = .ok (.isub, 1) := by decide +kernel
theorem own_d1_16 : decode prog_39_method_26_code 16 = .ok (.iaload, 1) := by decide +kernel
theorem own_d1_17 : decode prog_39_method_26_code 17 = .ok (.iadd, 1) := by decide +kernel
theorem own_d1_18 : decode prog_39_method_26_code 18 = .ok (.iastore, 1) := by decide +kernel
theorem own_d1_19 : decode prog_39_method_26_code 19 = .ok (.iinc 1 1, 3) := by decide +kernel
theorem own_d1_22 : decode prog_39_method_26_code 22 = .ok (.goto (-20), 3) := by decide +kernel
theorem own_ef_own_rm1_2 (m : MethodId) (r0 : Addr) : entryFrame m #[(.ref r0)] 2 = mkF m 0 #[.val (.ref r0), .unset] [] := by first | (simp [entryFrame, mkF, argsToLocals, Value.category]; done) | rfl
def own_Q_own_rm1_2 (Z : State) (r0 : Addr) (y0 y1 : Int32) (h0 : Heap) (n0 : Nat) (v : Option Value) (h : Heap) : Prop := v = some (.int (y1 + y0)) ∧ Keep h0 h [r0] ∧ own_A Z h r0 .int [(.int y0), (.int (y1 + y0))]
set_option maxRecDepth 65536 in
set_option maxHeartbeats 40000000 in
theorem own_rm1_2 (l : Launch) (Z : State) (a0 : Array Value) (hw : ∀ d ∈ tables_1, d.before a0 Z = true) (ws : List Jvm.Cond) (r0 : Addr) (y0 y1 : Int32) (h0 : Heap) (n0 : Nat)  (A : own_A Z h0 r0 .int [(.int y0), (.int y1)]) (g : n0 ≤ r0) :
    own_Con l Z (⟨"com/example/tierpath/tierpath/Hierarchy", "prefixSums", "([I)I"⟩ : MethodName) prog_39_method_26_code 2 (some .int) ws ({ frames := 0, cells := 0, slots := 0, locals := 0 } : Room) #[(.ref r0)] h0 n0 (own_Q_own_rm1_2 Z r0 y0 y1 h0 n0) := by
  refine own_body (plainFor_of_name own_pn0) ?_
  intro p e s m below meth c T0 hx hZ hby hml hown hnm hret hlk Y0
  replace hown : s.vm.findClass "com/example/tierpath/tierpath/Hierarchy" = some m.cls := hown
  replace hnm : meth.name = "prefixSums" := hnm
  rw [own_ef_own_rm1_2 m r0]
  show own_Ends _ _ _ _ (T0.setTop (mkF m 0 #[.val (.ref r0), .unset] []))
  refine own_st (fun t => XS.iconst (own_here Y0) hx rfl (hb hby own_d1_0) ) ?_
  show own_Ends _ _ _ _ (T0.setTop (mkF m 1 #[.val (.ref r0), .unset] [(.int (1 : Int32))]))
  refine own_st (fun t => XS.istoreN (own_here Y0) hx rfl (hb hby own_d1_1) rfl (l' := #[.val (.ref r0), .val (.int (1 : Int32))]) rfl) ?_
  show own_Ends _ _ _ _ (T0.setTop (mkF m 2 #[.val (.ref r0), .val (.int (1 : Int32))] []))
  refine own_st (fun t => XS.iloadN (own_here Y0) hx rfl (hb hby own_d1_2) rfl) ?_
  show own_Ends _ _ _ _ (T0.setTop (mkF m 3 #[.val (.ref r0), .val (.int (1 : Int32))] [(.int (1 : Int32))]))
  refine own_st (fun t => XS.aloadN (own_here Y0) hx rfl (hb hby own_d1_3) rfl rfl) ?_
  show own_Ends _ _ _ _ (T0.setTop (mkF m 4 #[.val (.ref r0), .val (.int (1 : Int32))] [(.ref r0), (.int (1 : Int32))]))
  refine own_len Y0 hx hZ A (z := (2 : Int32)) rfl rfl rfl (hb hby own_d1_4) ?_
  show own_Ends _ _ _ _ (T0.setTop (mkF m 5 #[.val (.ref r0), .val (.int (1 : Int32))] [(.int (2 : Int32)), (.int (1 : Int32))]))
  refine own_st (fun t => XS.icmpNo (own_here Y0) hx rfl (hb hby own_d1_5) rfl (XT.ii_ge_f (by decide))) ?_
  show own_Ends _ _ _ _ (T0.setTop (mkF m 8 #[.val (.ref r0), .val (.int (1 : Int32))] []))
  refine own_st (fun t => XS.aloadN (own_here Y0) hx rfl (hb hby own_d1_8) rfl rfl) ?_
  show own_Ends _ _ _ _ (T0.setTop (mkF m 9 #[.val (.ref r0), .val (.int (1 : Int32))] [(.ref r0)]))
  refine own_st (fun t => XS.iloadN (own_here Y0) hx rfl (hb hby own_d1_9) rfl) ?_
  show own_Ends _ _ _ _ (T0.setTop (mkF m 10 #[.val (.ref r0), .val (.int (1 : Int32))] [(.int (1 : Int32)), (.ref r0)]))
  refine own_st (fun t => XT.dup2 (own_here Y0) hx rfl (hb hby own_d1_10) rfl rfl rfl) ?_
  show own_Ends _ _ _ _ (T0.setTop (mkF m 11 #[.val (.ref r0), .val (.int (1 : Int32))] [(.int (1 : Int32)), (.ref r0), (.int (1 : Int32)), (.ref r0)]))
  refine own_ldI Y0 hx hZ A (i := 1) (by decide) (by decide) (Nat.le_of_ble_eq_true rfl) (v := (.int y1)) rfl rfl rfl (hb hby own_d1_11) ?_
  show own_Ends _ _ _ _ (T0.setTop (mkF m 12 #[.val (.ref r0), .val (.int (1 : Int32))] [(.int y1), (.int (1 : Int32)), (.ref r0)]))
  refine own_st (fun t => XS.aloadN (own_here Y0) hx rfl (hb hby own_d1_12) rfl rfl) ?_
  show own_Ends _ _ _ _ (T0.setTop (mkF m 13 #[.val (.ref r0), .val (.int (1 : Int32))] [(.ref r0), (.int y1), (.int (1 : Int32)), (.ref r0)]))
  refine own_st (fun t => XS.iloadN (own_here Y0) hx rfl (hb hby own_d1_13) rfl) ?_
  show own_Ends _ _ _ _ (T0.setTop (mkF m 14 #[.val (.ref r0), .val (.int (1 : Int32))] [(.int (1 : Int32)), (.ref r0), (.int y1), (.int (1 : Int32)), (.ref r0)]))
  refine own_st (fun t => XS.iconst (own_here Y0) hx rfl (hb hby own_d1_14) ) ?_
  show own_Ends _ _ _ _ (T0.setTop (mkF m 15 #[.val (.ref r0), .val (.int (1 : Int32))] [(.int (1 : Int32)), (.int (1 : Int32)), (.ref r0), (.int y1), (.int (1 : Int32)), (.ref r0)]))
  refine own_st (fun t => XS.isub (own_here Y0) hx rfl (hb hby own_d1_15) rfl) ?_
  show own_Ends _ _ _ _ (T0.setTop (mkF m 16 #[.val (.ref r0), .val (.int (1 : Int32))] [(.int (0 : Int32)), (.ref r0), (.int y1), (.int (1 : Int32)), (.ref r0)]))
  refine own_ldI Y0 hx hZ A (i := 0) (by decide) (by decide) (Nat.le_of_ble_eq_true rfl) (v := (.int y0)) rfl rfl rfl (hb hby own_d1_16) ?_
  show own_Ends _ _ _ _ (T0.setTop (mkF m 17 #[.val (.ref r0), .val (.int (1 : Int32))] [(.int y0), (.int y1), (.int (1 : Int32)), (.ref r0)]))
  refine own_st (fun t => XS.iadd (own_here Y0) hx rfl (hb hby own_d1_17) rfl) ?_
  show own_Ends _ _ _ _ (T0.setTop (mkF m 18 #[.val (.ref r0), .val (.int (1 : Int32))] [(.int (y1 + y0)), (.int (1 : Int32)), (.ref r0)]))
  refine own_stI Y0 hx hZ A g (i := 1) (by decide) (by decide) (Nat.le_of_ble_eq_true rfl) rfl rfl (hb hby own_d1_18) (fun T1 h3 Y2 W4 A5 => ?_)
  replace A5 : own_A Z h3 r0 .int [(.int y0), (.int (y1 + y0))] := A5
  show own_Ends _ _ _ _ (T1.setTop (mkF m 19 #[.val (.ref r0), .val (.int (1 : Int32))] []))
  refine own_st (fun t => XS.iinc (own_here Y2) hx rfl (hb hby own_d1_19) rfl (l' := #[.val (.ref r0), .val (.int (2 : Int32))]) rfl) ?_
  show own_Ends _ _ _ _ (T1.setTop (mkF m 22 #[.val (.ref r0), .val (.int (2 : Int32))] []))
  refine own_st (fun t => XS.goto (own_here Y2) hx rfl (pc0 := 22) (pc' := 2) rfl (hb hby own_d1_22) (by decide) (by decide)) ?_
  show own_Ends _ _ _ _ (T1.setTop (mkF m 2 #[.val (.ref r0), .val (.int (2 : Int32))] []))
  refine own_st (fun t => XS.iloadN (own_here Y2) hx rfl (hb hby own_d1_2) rfl) ?_
  show own_Ends _ _ _ _ (T1.setTop (mkF m 3 #[.val (.ref r0), .val (.int (2 : Int32))] [(.int (2 : Int32))]))
  refine own_st (fun t => XS.aloadN (own_here Y2) hx rfl (hb hby own_d1_3) rfl rfl) ?_
  show own_Ends _ _ _ _ (T1.setTop (mkF m 4 #[.val (.ref r0), .val (.int (2 : Int32))] [(.ref r0), (.int (2 : Int32))]))
  refine own_len Y2 hx hZ A5 (z := (2 : Int32)) rfl rfl rfl (hb hby own_d1_4) ?_
  show own_Ends _ _ _ _ (T1.setTop (mkF m 5 #[.val (.ref r0), .val (.int (2 : Int32))] [(.int (2 : Int32)), (.int (2 : Int32))]))
  refine own_st (fun t => XS.icmpYes (own_here Y2) hx rfl (pc0 := 5) (pc' := 25) rfl (hb hby own_d1_5) rfl (XT.ii_ge_t (by decide)) (by decide) (by decide)) ?_
  show own_Ends _ _ _ _ (T1.setTop (mkF m 25 #[.val (.ref r0), .val (.int (2 : Int32))] []))
  refine own_st (fun t => XS.aloadN (own_here Y2) hx rfl (hb hby own_d1_25) rfl rfl) ?_
  show own_Ends _ _ _ _ (T1.setTop (mkF m 26 #[.val (.ref r0), .val (.int (2 : Int32))] [(.ref r0)]))
  refine own_st (fun t => XS.aloadN (own_here Y2) hx rfl (hb hby own_d1_26) rfl rfl) ?_
  show own_Ends _ _ _ _ (T1.setTop (mkF m 27 #[.val (.ref r0), .val (.int (2 : Int32))] [(.ref r0), (.ref r0)]))
  refine own_len Y2 hx hZ A5 (z := (2 : Int32)) rfl rfl rfl (hb hby own_d1_27) ?_
  show own_Ends _ _ _ _ (T1.setTop (mkF m 28 #[.val (.ref r0), .val (.int (2 : Int32))] [(.int (2 : Int32)), (.ref r0)]))
  refine own_st (fun t => XS.iconst (own_here Y2) hx rfl (hb hby own_d1_28) ) ?_
  show own_Ends _ _ _ _ (T1.setTop (mkF m 29 #[.val (.ref r0), .val (.int (2 : Int32))] [(.int (1 : Int32)), (.int (2 : Int32)), (.ref r0)]))
  refine own_st (fun t => XS.isub (own_here Y2) hx rfl (hb hby own_d1_29) rfl) ?_
  show own_Ends _ _ _ _ (T1.setTop (mkF m 30 #[.val (.ref r0), .val (.int (2 : Int32))] [(.int (1 : Int32)), (.ref r0)]))
  refine own_ldI Y2 hx hZ A5 (i := 1) (by decide) (by decide) (Nat.le_of_ble_eq_true rfl) (v := (.int (y1 + y0))) rfl rfl rfl (hb hby own_d1_30) ?_
  show own_Ends _ _ _ _ (T1.setTop (mkF m 31 #[.val (.ref r0), .val (.int (2 : Int32))] [(.int (y1 + y0))]))
  have K6 : Keep h0 h3 [r0] := (Keep.refl h0 [r0]).wr W4 (Or.inl (List.mem_of_getElem? (i := 0) rfl))
  refine own_retI Y2 hx hlk hret (hb hby own_d1_31) (by decide) (by decide) ?_
  exact ⟨rfl, K6, A5⟩
theorem own_ef_own_rm1_3 (m : MethodId) (r0 : Addr) : entryFrame m #[(.ref r0)] 2 = mkF m 0 #[.val (.ref r0), .unset] [] := by first | (simp [entryFrame, mkF, argsToLocals, Value.category]; done) | rfl
def own_Q_own_rm1_3 (Z : State) (r0 : Addr) (y0 y1 y2 : Int32) (h0 : Heap) (n0 : Nat) (v : Option Value) (h : Heap) : Prop := v = some (.int (y2 + (y1 + y0))) ∧ Keep h0 h [r0] ∧ own_A Z h r0 .int [(.int y0), (.int (y1 + y0)), (.int (y2 + (y1 + y0)))]
set_option maxRecDepth 65536 in
set_option maxHeartbeats 40000000 in
theorem own_rm1_3 (l : Launch) (Z : State) (a0 : Array Value) (hw : ∀ d ∈ tables_1, d.before a0 Z = true) (ws : List Jvm.Cond) (r0 : Addr) (y0 y1 y2 : Int32) (h0 : Heap) (n0 : Nat)  (A : own_A Z h0 r0 .int [(.int y0), (.int y1), (.int y2)]) (g : n0 ≤ r0) :
    own_Con l Z (⟨"com/example/tierpath/tierpath/Hierarchy", "prefixSums", "([I)I"⟩ : MethodName) prog_39_method_26_code 2 (some .int) ws ({ frames := 0, cells := 0, slots := 0, locals := 0 } : Room) #[(.ref r0)] h0 n0 (own_Q_own_rm1_3 Z r0 y0 y1 y2 h0 n0) := by
  refine own_body (plainFor_of_name own_pn0) ?_
  intro p e s m below meth c T0 hx hZ hby hml hown hnm hret hlk Y0
  replace hown : s.vm.findClass "com/example/tierpath/tierpath/Hierarchy" = some m.cls := hown
  replace hnm : meth.name = "prefixSums" := hnm
  rw [own_ef_own_rm1_3 m r0]
  show own_Ends _ _ _ _ (T0.setTop (mkF m 0 #[.val (.ref r0), .unset] []))
  refine own_st (fun t => XS.iconst (own_here Y0) hx rfl (hb hby own_d1_0) ) ?_
  show own_Ends _ _ _ _ (T0.setTop (mkF m 1 #[.val (.ref r0), .unset] [(.int (1 : Int32))]))
  refine own_st (fun t => XS.istoreN (own_here Y0) hx rfl (hb hby own_d1_1) rfl (l' := #[.val (.ref r0), .val (.int (1 : Int32))]) rfl) ?_
  show own_Ends _ _ _ _ (T0.setTop (mkF m 2 #[.val (.ref r0), .val (.int (1 : Int32))] []))
  refine own_st (fun t => XS.iloadN (own_here Y0) hx rfl (hb hby own_d1_2) rfl) ?_
  show own_Ends _ _ _ _ (T0.setTop (mkF m 3 #[.val (.ref r0), .val (.int (1 : Int32))] [(.int (1 : Int32))]))
  refine own_st (fun t => XS.aloadN (own_here Y0) hx rfl (hb hby own_d1_3) rfl rfl) ?_
  show own_Ends _ _ _ _ (T0.setTop (mkF m 4 #[.val (.ref r0), .val (.int (1 : Int32))] [(.ref r0), (.int (1 : Int32))]))
  refine own_len Y0 hx hZ A (z := (3 : Int32)) rfl rfl rfl (hb hby own_d1_4) ?_
  show own_Ends _ _ _ _ (T0.setTop (mkF m 5 #[.val (.ref r0), .val (.int (1 : Int32))] [(.int (3 : Int32)), (.int (1 : Int32))]))
  refine own_st (fun t => XS.icmpNo (own_here Y0) hx rfl (hb hby own_d1_5) rfl (XT.ii_ge_f (by decide))) ?_
  show own_Ends _ _ _ _ (T0.setTop (mkF m 8 #[.val (.ref r0), .val (.int (1 : Int32))] []))
  refine own_st (fun t => XS.aloadN (own_here Y0) hx rfl (hb hby own_d1_8) rfl rfl) ?_
  show own_Ends _ _ _ _ (T0.setTop (mkF m 9 #[.val (.ref r0), .val (.int (1 : Int32))] [(.ref r0)]))
  refine own_st (fun t => XS.iloadN (own_here Y0) hx rfl (hb hby own_d1_9) rfl) ?_
  show own_Ends _ _ _ _ (T0.setTop (mkF m 10 #[.val (.ref r0), .val (.int (1 : Int32))] [(.int (1 : Int32)), (.ref r0)]))
  refine own_st (fun t => XT.dup2 (own_here Y0) hx rfl (hb hby own_d1_10) rfl rfl rfl) ?_
  show own_Ends _ _ _ _ (T0.setTop (mkF m 11 #[.val (.ref r0), .val (.int (1 : Int32))] [(.int (1 : Int32)), (.ref r0), (.int (1 : Int32)), (.ref r0)]))
  refine own_ldI Y0 hx hZ A (i := 1) (by decide) (by decide) (Nat.le_of_ble_eq_true rfl) (v := (.int y1)) rfl rfl rfl (hb hby own_d1_11) ?_
  show own_Ends _ _ _ _ (T0.setTop (mkF m 12 #[.val (.ref r0), .val (.int (1 : Int32))] [(.int y1), (.int (1 : Int32)), (.ref r0)]))
  refine own_st (fun t => XS.aloadN (own_here Y0) hx rfl (hb hby own_d1_12) rfl rfl) ?_
  show own_Ends _ _ _ _ (T0.setTop (mkF m 13 #[.val (.ref r0), .val (.int (1 : Int32))] [(.ref r0), (.int y1), (.int (1 : Int32)), (.ref r0)]))
  refine own_st (fun t => XS.iloadN (own_here Y0) hx rfl (hb hby own_d1_13) rfl) ?_
  show own_Ends _ _ _ _ (T0.setTop (mkF m 14 #[.val (.ref r0), .val (.int (1 : Int32))] [(.int (1 : Int32)), (.ref r0), (.int y1), (.int (1 : Int32)), (.ref r0)]))
  refine own_st (fun t => XS.iconst (own_here Y0) hx rfl (hb hby own_d1_14) ) ?_
  show own_Ends _ _ _ _ (T0.setTop (mkF m 15 #[.val (.ref r0), .val (.int (1 : Int32))] [(.int (1 : Int32)), (.int (1 : Int32)), (.ref r0), (.int y1), (.int (1 : Int32)), (.ref r0)]))
  refine own_st (fun t => XS.isub (own_here Y0) hx rfl (hb hby own_d1_15) rfl) ?_
  show own_Ends _ _ _ _ (T0.setTop (mkF m 16 #[.val (.ref r0), .val (.int (1 : Int32))] [(.int (0 : Int32)), (.ref r0), (.int y1), (.int (1 : Int32)), (.ref r0)]))
  refine own_ldI Y0 hx hZ A (i := 0) (by decide) (by decide) (Nat.le_of_ble_eq_true rfl) (v := (.int y0)) rfl rfl rfl (hb hby own_d1_16) ?_
  show own_Ends _ _ _ _ (T0.setTop (mkF m 17 #[.val (.ref r0), .val (.int (1 : Int32))] [(.int y0), (.int y1), (.int (1 : Int32)), (.ref r0)]))
  refine own_st (fun t => XS.iadd (own_here Y0) hx rfl (hb hby own_d1_17) rfl) ?_
  show own_Ends _ _ _ _ (T0.setTop (mkF m 18 #[.val (.ref r0), .val (.int (1 : Int32))] [(.int (y1 + y0)), (.int (1 : Int32)), (.ref r0)]))
  refine own_stI Y0 hx hZ A g (i := 1) (by decide) (by decide) (Nat.le_of_ble_eq_true rfl) rfl rfl (hb hby own_d1_18) (fun T7 h9 Y8 W10 A11 => ?_)
  replace A11 : own_A Z h9 r0 .int [(.int y0), (.int (y1 + y0)), (.int y2)] := A11
  show own_Ends _ _ _ _ (T7.setTop (mkF m 19 #[.val (.ref r0), .val (.int (1 : Int32))] []))
  refine own_st (fun t => XS.iinc (own_here Y8) hx rfl (hb hby own_d1_19) rfl (l' := #[.val (.ref r0), .val (.int (2 : Int32))]) rfl) ?_
  show own_Ends _ _ _ _ (T7.setTop (mkF m 22 #[.val (.ref r0), .val (.int (2 : Int32))] []))
  refine own_st (fun t => XS.goto (own_here Y8) hx rfl (pc0 := 22) (pc' := 2) rfl (hb hby own_d1_22) (by decide) (by decide)) ?_
  show own_Ends _ _ _ _ (T7.setTop (mkF m 2 #[.val (.ref r0), .val (.int (2 : Int32))] []))
  refine own_st (fun t => XS.iloadN (own_here Y8) hx rfl (hb hby own_d1_2) rfl) ?_
  show own_Ends _ _ _ _ (T7.setTop (mkF m 3 #[.val (.ref r0), .val (.int (2 : Int32))] [(.int (2 : Int32))]))
  refine own_st (fun t => XS.aloadN (own_here Y8) hx rfl (hb hby own_d1_3) rfl rfl) ?_
  show own_Ends _ _ _ _ (T7.setTop (mkF m 4 #[.val (.ref r0), .val (.int (2 : Int32))] [(.ref r0), (.int (2 : Int32))]))
  refine own_len Y8 hx hZ A11 (z := (3 : Int32)) rfl rfl rfl (hb hby own_d1_4) ?_
  show own_Ends _ _ _ _ (T7.setTop (mkF m 5 #[.val (.ref r0), .val (.int (2 : Int32))] [(.int (3 : Int32)), (.int (2 : Int32))]))
  refine own_st (fun t => XS.icmpNo (own_here Y8) hx rfl (hb hby own_d1_5) rfl (XT.ii_ge_f (by decide))) ?_
  show own_Ends _ _ _ _ (T7.setTop (mkF m 8 #[.val (.ref r0), .val (.int (2 : Int32))] []))
  refine own_st (fun t => XS.aloadN (own_here Y8) hx rfl (hb hby own_d1_8) rfl rfl) ?_
  show own_Ends _ _ _ _ (T7.setTop (mkF m 9 #[.val (.ref r0), .val (.int (2 : Int32))] [(.ref r0)]))
  refine own_st (fun t => XS.iloadN (own_here Y8) hx rfl (hb hby own_d1_9) rfl) ?_
  show own_Ends _ _ _ _ (T7.setTop (mkF m 10 #[.val (.ref r0), .val (.int (2 : Int32))] [(.int (2 : Int32)), (.ref r0)]))
  refine own_st (fun t => XT.dup2 (own_here Y8) hx rfl (hb hby own_d1_10) rfl rfl rfl) ?_
  show own_Ends _ _ _ _ (T7.setTop (mkF m 11 #[.val (.ref r0), .val (.int (2 : Int32))] [(.int (2 : Int32)), (.ref r0), (.int (2 : Int32)), (.ref r0)]))
  refine own_ldI Y8 hx hZ A11 (i := 2) (by decide) (by decide) (Nat.le_of_ble_eq_true rfl) (v := (.int y2)) rfl rfl rfl (hb hby own_d1_11) ?_
  show own_Ends _ _ _ _ (T7.setTop (mkF m 12 #[.val (.ref r0), .val (.int (2 : Int32))] [(.int y2), (.int (2 : Int32)), (.ref r0)]))
  refine own_st (fun t => XS.aloadN (own_here Y8) hx rfl (hb hby own_d1_12) rfl rfl) ?_
  show own_Ends _ _ _ _ (T7.setTop (mkF m 13 #[.val (.ref r0), .val (.int (2 : Int32))] [(.ref r0), (.int y2), (.int (2 : Int32)), (.ref r0)]))
  refine own_st (fun t => XS.iloadN (own_here Y8) hx rfl (hb hby own_d1_13) rfl) ?_
  show own_Ends _ _ _ _ (T7.setTop (mkF m 14 #[.val (.ref r0), .val (.int (2 : Int32))] [(.int (2 : Int32)), (.ref r0), (.int y2), (.int (2 : Int32)), (.ref r0)]))
  refine own_st (fun t => XS.iconst (own_here Y8) hx rfl (hb hby own_d1_14) ) ?_
  show own_Ends _ _ _ _ (T7.setTop (mkF m 15 #[.val (.ref r0), .val (.int (2 : Int32))] [(.int (1 : Int32)), (.int (2 : Int32)), (.ref r0), (.int y2), (.int (2 : Int32)), (.ref r0)]))
  refine own_st (fun t => XS.isub (own_here Y8) hx rfl (hb hby own_d1_15) rfl) ?_
  show own_Ends _ _ _ _ (T7.setTop (mkF m 16 #[.val (.ref r0), .val (.int (2 : Int32))] [(.int (1 : Int32)), (.ref r0), (.int y2), (.int (2 : Int32)), (.ref r0)]))
  refine own_ldI Y8 hx hZ A11 (i := 1) (by decide) (by decide) (Nat.le_of_ble_eq_true rfl) (v := (.int (y1 + y0))) rfl rfl rfl (hb hby own_d1_16) ?_
  show own_Ends _ _ _ _ (T7.setTop (mkF m 17 #[.val (.ref r0), .val (.int (2 : Int32))] [(.int (y1 + y0)), (.int y2), (.int (2 : Int32)), (.ref r0)]))
  refine own_st (fun t => XS.iadd (own_here Y8) hx rfl (hb hby own_d1_17) rfl) ?_
  show own_Ends _ _ _ _ (T7.setTop (mkF m 18 #[.val (.ref r0), .val (.int (2 : Int32))] [(.int (y2 + (y1 + y0))), (.int (2 : Int32)), (.ref r0)]))
  refine own_stI Y8 hx hZ A11 g (i := 2) (by decide) (by decide) (Nat.le_of_ble_eq_true rfl) rfl rfl (hb hby own_d1_18) (fun T12 h14 Y13 W15 A16 => ?_)
  replace A16 : own_A Z h14 r0 .int [(.int y0), (.int (y1 + y0)), (.int (y2 + (y1 + y0)))] := A16
  show own_Ends _ _ _ _ (T12.setTop (mkF m 19 #[.val (.ref r0), .val (.int (2 : Int32))] []))
  refine own_st (fun t => XS.iinc (own_here Y13) hx rfl (hb hby own_d1_19) rfl (l' := #[.val (.ref r0), .val (.int (3 : Int32))]) rfl) ?_
  show own_Ends _ _ _ _ (T12.setTop (mkF m 22 #[.val (.ref r0), .val (.int (3 : Int32))] []))
  refine own_st (fun t => XS.goto (own_here Y13) hx rfl (pc0 := 22) (pc' := 2) rfl (hb hby own_d1_22) (by decide) (by decide)) ?_
  show own_Ends _ _ _ _ (T12.setTop (mkF m 2 #[.val (.ref r0), .val (.int (3 : Int32))] []))
  refine own_st (fun t => XS.iloadN (own_here Y13) hx rfl (hb hby own_d1_2) rfl) ?_
  show own_Ends _ _ _ _ (T12.setTop (mkF m 3 #[.val (.ref r0), .val (.int (3 : Int32))] [(.int (3 : Int32))]))
  refine own_st (fun t => XS.aloadN (own_here Y13) hx rfl (hb hby own_d1_3) rfl rfl) ?_
  show own_Ends _ _ _ _ (T12.setTop (mkF m 4 #[.val (.ref r0), .val (.int (3 : Int32))] [(.ref r0), (.int (3 : Int32))]))
  refine own_len Y13 hx hZ A16 (z := (3 : Int32)) rfl rfl rfl (hb hby own_d1_4) ?_
  show own_Ends _ _ _ _ (T12.setTop (mkF m 5 #[.val (.ref r0), .val (.int (3 : Int32))] [(.int (3 : Int32)), (.int (3 : Int32))]))
  refine own_st (fun t => XS.icmpYes (own_here Y13) hx rfl (pc0 := 5) (pc' := 25) rfl (hb hby own_d1_5) rfl (XT.ii_ge_t (by decide)) (by decide) (by decide)) ?_
  show own_Ends _ _ _ _ (T12.setTop (mkF m 25 #[.val (.ref r0), .val (.int (3 : Int32))] []))
  refine own_st (fun t => XS.aloadN (own_here Y13) hx rfl (hb hby own_d1_25) rfl rfl) ?_
  show own_Ends _ _ _ _ (T12.setTop (mkF m 26 #[.val (.ref r0), .val (.int (3 : Int32))] [(.ref r0)]))
  refine own_st (fun t => XS.aloadN (own_here Y13) hx rfl (hb hby own_d1_26) rfl rfl) ?_
  show own_Ends _ _ _ _ (T12.setTop (mkF m 27 #[.val (.ref r0), .val (.int (3 : Int32))] [(.ref r0), (.ref r0)]))
  refine own_len Y13 hx hZ A16 (z := (3 : Int32)) rfl rfl rfl (hb hby own_d1_27) ?_
  show own_Ends _ _ _ _ (T12.setTop (mkF m 28 #[.val (.ref r0), .val (.int (3 : Int32))] [(.int (3 : Int32)), (.ref r0)]))
  refine own_st (fun t => XS.iconst (own_here Y13) hx rfl (hb hby own_d1_28) ) ?_
  show own_Ends _ _ _ _ (T12.setTop (mkF m 29 #[.val (.ref r0), .val (.int (3 : Int32))] [(.int (1 : Int32)), (.int (3 : Int32)), (.ref r0)]))
  refine own_st (fun t => XS.isub (own_here Y13) hx rfl (hb hby own_d1_29) rfl) ?_
  show own_Ends _ _ _ _ (T12.setTop (mkF m 30 #[.val (.ref r0), .val (.int (3 : Int32))] [(.int (2 : Int32)), (.ref r0)]))
  refine own_ldI Y13 hx hZ A16 (i := 2) (by decide) (by decide) (Nat.le_of_ble_eq_true rfl) (v := (.int (y2 + (y1 + y0)))) rfl rfl rfl (hb hby own_d1_30) ?_
  show own_Ends _ _ _ _ (T12.setTop (mkF m 31 #[.val (.ref r0), .val (.int (3 : Int32))] [(.int (y2 + (y1 + y0)))]))
  have K17 : Keep h0 h9 [r0] := (Keep.refl h0 [r0]).wr W10 (Or.inl (List.mem_of_getElem? (i := 0) rfl))
  have K18 : Keep h0 h14 [r0] := K17.wr W15 (Or.inl (List.mem_of_getElem? (i := 0) rfl))
  refine own_retI Y13 hx hlk hret (hb hby own_d1_31) (by decide) (by decide) ?_
  exact ⟨rfl, K18, A16⟩
theorem own_ef_own_rm1_4 (m : MethodId) (r0 : Addr) : entryFrame m #[(.ref r0)] 2 = mkF m 0 #[.val (.ref r0), .unset] [] := by first | (simp [entryFrame, mkF, argsToLocals, Value.category]; done) | rfl
def own_Q_own_rm1_4 (Z : State) (r0 : Addr) (y0 y1 y2 y3 : Int32) (h0 : Heap) (n0 : Nat) (v : Option Value) (h : Heap) : Prop := v = some (.int (y3 + (y2 + (y1 + y0)))) ∧ Keep h0 h [r0] ∧ own_A Z h r0 .int [(.int y0), (.int (y1 + y0)), (.int (y2 + (y1 + y0))), (.int (y3 + (y2 + (y1 + y0))))]
set_option maxRecDepth 65536 in
set_option maxHeartbeats 40000000 in
theorem own_rm1_4 (l : Launch) (Z : State) (a0 : Array Value) (hw : ∀ d ∈ tables_1, d.before a0 Z = true) (ws : List Jvm.Cond) (r0 : Addr) (y0 y1 y2 y3 : Int32) (h0 : Heap) (n0 : Nat)  (A : own_A Z h0 r0 .int [(.int y0), (.int y1), (.int y2), (.int y3)]) (g : n0 ≤ r0) :
    own_Con l Z (⟨"com/example/tierpath/tierpath/Hierarchy", "prefixSums", "([I)I"⟩ : MethodName) prog_39_method_26_code 2 (some .int) ws ({ frames := 0, cells := 0, slots := 0, locals := 0 } : Room) #[(.ref r0)] h0 n0 (own_Q_own_rm1_4 Z r0 y0 y1 y2 y3 h0 n0) := by
  refine own_body (plainFor_of_name own_pn0) ?_
  intro p e s m below meth c T0 hx hZ hby hml hown hnm hret hlk Y0
  replace hown : s.vm.findClass "com/example/tierpath/tierpath/Hierarchy" = some m.cls := hown
  replace hnm : meth.name = "prefixSums" := hnm
  rw [own_ef_own_rm1_4 m r0]
  show own_Ends _ _ _ _ (T0.setTop (mkF m 0 #[.val (.ref r0), .unset] []))
  refine own_st (fun t => XS.iconst (own_here Y0) hx rfl (hb hby own_d1_0) ) ?_
  show own_Ends _ _ _ _ (T0.setTop (mkF m 1 #[.val (.ref r0), .unset] [(.int (1 : Int32))]))
  refine own_st (fun t => XS.istoreN (own_here Y0) hx rfl (hb hby own_d1_1) rfl (l' := #[.val (.ref r0), .val (.int (1 : Int32))]) rfl) ?_
  show own_Ends _ _ _ _ (T0.setTop (mkF m 2 #[.val (.ref r0), .val (.int (1 : Int32))] []))
  refine own_st (fun t => XS.iloadN (own_here Y0) hx rfl (hb hby own_d1_2) rfl) ?_
  show own_Ends _ _ _ _ (T0.setTop (mkF m 3 #[.val (.ref r0), .val (.int (1 : Int32))] [(.int (1 : Int32))]))
  refine own_st (fun t => XS.aloadN (own_here Y0) hx rfl (hb hby own_d1_3) rfl rfl) ?_
  show own_Ends _ _ _ _ (T0.setTop (mkF m 4 #[.val (.ref r0), .val (.int (1 : Int32))] [(.ref r0), (.int (1 : Int32))]))
  refine own_len Y0 hx hZ A (z := (4 : Int32)) rfl rfl rfl (hb hby own_d1_4) ?_
  show own_Ends _ _ _ _ (T0.setTop (mkF m 5 #[.val (.ref r0), .val (.int (1 : Int32))] [(.int (4 : Int32)), (.int (1 : Int32))]))
  refine own_st (fun t => XS.icmpNo (own_here Y0) hx rfl (hb hby own_d1_5) rfl (XT.ii_ge_f (by decide))) ?_
  show own_Ends _ _ _ _ (T0.setTop (mkF m 8 #[.val (.ref r0), .val (.int (1 : Int32))] []))
  refine own_st (fun t => XS.aloadN (own_here Y0) hx rfl (hb hby own_d1_8) rfl rfl) ?_
  show own_Ends _ _ _ _ (T0.setTop (mkF m 9 #[.val (.ref r0), .val (.int (1 : Int32))] [(.ref r0)]))
  refine own_st (fun t => XS.iloadN (own_here Y0) hx rfl (hb hby own_d1_9) rfl) ?_
  show own_Ends _ _ _ _ (T0.setTop (mkF m 10 #[.val (.ref r0), .val (.int (1 : Int32))] [(.int (1 : Int32)), (.ref r0)]))
  refine own_st (fun t => XT.dup2 (own_here Y0) hx rfl (hb hby own_d1_10) rfl rfl rfl) ?_
  show own_Ends _ _ _ _ (T0.setTop (mkF m 11 #[.val (.ref r0), .val (.int (1 : Int32))] [(.int (1 : Int32)), (.ref r0), (.int (1 : Int32)), (.ref r0)]))
  refine own_ldI Y0 hx hZ A (i := 1) (by decide) (by decide) (Nat.le_of_ble_eq_true rfl) (v := (.int y1)) rfl rfl rfl (hb hby own_d1_11) ?_
  show own_Ends _ _ _ _ (T0.setTop (mkF m 12 #[.val (.ref r0), .val (.int (1 : Int32))] [(.int y1), (.int (1 : Int32)), (.ref r0)]))
  refine own_st (fun t => XS.aloadN (own_here Y0) hx rfl (hb hby own_d1_12) rfl rfl) ?_
  show own_Ends _ _ _ _ (T0.setTop (mkF m 13 #[.val (.ref r0), .val (.int (1 : Int32))] [(.ref r0), (.int y1), (.int (1 : Int32)), (.ref r0)]))
  refine own_st (fun t => XS.iloadN (own_here Y0) hx rfl (hb hby own_d1_13) rfl) ?_
  show own_Ends _ _ _ _ (T0.setTop (mkF m 14 #[.val (.ref r0), .val (.int (1 : Int32))] [(.int (1 : Int32)), (.ref r0), (.int y1), (.int (1 : Int32)), (.ref r0)]))
  refine own_st (fun t => XS.iconst (own_here Y0) hx rfl (hb hby own_d1_14) ) ?_
  show own_Ends _ _ _ _ (T0.setTop (mkF m 15 #[.val (.ref r0), .val (.int (1 : Int32))] [(.int (1 : Int32)), (.int (1 : Int32)), (.ref r0), (.int y1), (.int (1 : Int32)), (.ref r0)]))
  refine own_st (fun t => XS.isub (own_here Y0) hx rfl (hb hby own_d1_15) rfl) ?_
  show own_Ends _ _ _ _ (T0.setTop (mkF m 16 #[.val (.ref r0), .val (.int (1 : Int32))] [(.int (0 : Int32)), (.ref r0), (.int y1), (.int (1 : Int32)), (.ref r0)]))
  refine own_ldI Y0 hx hZ A (i := 0) (by decide) (by decide) (Nat.le_of_ble_eq_true rfl) (v := (.int y0)) rfl rfl rfl (hb hby own_d1_16) ?_
  show own_Ends _ _ _ _ (T0.setTop (mkF m 17 #[.val (.ref r0), .val (.int (1 : Int32))] [(.int y0), (.int y1), (.int (1 : Int32)), (.ref r0)]))
  refine own_st (fun t => XS.iadd (own_here Y0) hx rfl (hb hby own_d1_17) rfl) ?_
  show own_Ends _ _ _ _ (T0.setTop (mkF m 18 #[.val (.ref r0), .val (.int (1 : Int32))] [(.int (y1 + y0)), (.int (1 : Int32)), (.ref r0)]))
  refine own_stI Y0 hx hZ A g (i := 1) (by decide) (by decide) (Nat.le_of_ble_eq_true rfl) rfl rfl (hb hby own_d1_18) (fun T19 h21 Y20 W22 A23 => ?_)
  replace A23 : own_A Z h21 r0 .int [(.int y0), (.int (y1 + y0)), (.int y2), (.int y3)] := A23
  show own_Ends _ _ _ _ (T19.setTop (mkF m 19 #[.val (.ref r0), .val (.int (1 : Int32))] []))
  refine own_st (fun t => XS.iinc (own_here Y20) hx rfl (hb hby own_d1_19) rfl (l' := #[.val (.ref r0), .val (.int (2 : Int32))]) rfl) ?_
  show own_Ends _ _ _ _ (T19.setTop (mkF m 22 #[.val (.ref r0), .val (.int (2 : Int32))] []))
  refine own_st (fun t => XS.goto (own_here Y20) hx rfl (pc0 := 22) (pc' := 2) rfl (hb hby own_d1_22) (by decide) (by decide)) ?_
  show own_Ends _ _ _ _ (T19.setTop (mkF m 2 #[.val (.ref r0), .val (.int (2 : Int32))] []))
  refine own_st (fun t => XS.iloadN (own_here Y20) hx rfl (hb hby own_d1_2) rfl) ?_
  show own_Ends _ _ _ _ (T19.setTop (mkF m 3 #[.val (.ref r0), .val (.int (2 : Int32))] [(.int (2 : Int32))]))
  refine own_st (fun t => XS.aloadN (own_here Y20) hx rfl (hb hby own_d1_3) rfl rfl) ?_
  show own_Ends _ _ _ _ (T19.setTop (mkF m 4 #[.val (.ref r0), .val (.int (2 : Int32))] [(.ref r0), (.int (2 : Int32))]))
  refine own_len Y20 hx hZ A23 (z := (4 : Int32)) rfl rfl rfl (hb hby own_d1_4) ?_
  show own_Ends _ _ _ _ (T19.setTop (mkF m 5 #[.val (.ref r0), .val (.int (2 : Int32))] [(.int (4 : Int32)), (.int (2 : Int32))]))
  refine own_st (fun t => XS.icmpNo (own_here Y20) hx rfl (hb hby own_d1_5) rfl (XT.ii_ge_f (by decide))) ?_
  show own_Ends _ _ _ _ (T19.setTop (mkF m 8 #[.val (.ref r0), .val (.int (2 : Int32))] []))
  refine own_st (fun t => XS.aloadN (own_here Y20) hx rfl (hb hby own_d1_8) rfl rfl) ?_
  show own_Ends _ _ _ _ (T19.setTop (mkF m 9 #[.val (.ref r0), .val (.int (2 : Int32))] [(.ref r0)]))
  refine own_st (fun t => XS.iloadN (own_here Y20) hx rfl (hb hby own_d1_9) rfl) ?_
  show own_Ends _ _ _ _ (T19.setTop (mkF m 10 #[.val (.ref r0), .val (.int (2 : Int32))] [(.int (2 : Int32)), (.ref r0)]))
  refine own_st (fun t => XT.dup2 (own_here Y20) hx rfl (hb hby own_d1_10) rfl rfl rfl) ?_
  show own_Ends _ _ _ _ (T19.setTop (mkF m 11 #[.val (.ref r0), .val (.int (2 : Int32))] [(.int (2 : Int32)), (.ref r0), (.int (2 : Int32)), (.ref r0)]))
  refine own_ldI Y20 hx hZ A23 (i := 2) (by decide) (by decide) (Nat.le_of_ble_eq_true rfl) (v := (.int y2)) rfl rfl rfl (hb hby own_d1_11) ?_
  show own_Ends _ _ _ _ (T19.setTop (mkF m 12 #[.val (.ref r0), .val (.int (2 : Int32))] [(.int y2), (.int (2 : Int32)), (.ref r0)]))
  refine own_st (fun t => XS.aloadN (own_here Y20) hx rfl (hb hby own_d1_12) rfl rfl) ?_
  show own_Ends _ _ _ _ (T19.setTop (mkF m 13 #[.val (.ref r0), .val (.int (2 : Int32))] [(.ref r0), (.int y2), (.int (2 : Int32)), (.ref r0)]))
  refine own_st (fun t => XS.iloadN (own_here Y20) hx rfl (hb hby own_d1_13) rfl) ?_
  show own_Ends _ _ _ _ (T19.setTop (mkF m 14 #[.val (.ref r0), .val (.int (2 : Int32))] [(.int (2 : Int32)), (.ref r0), (.int y2), (.int (2 : Int32)), (.ref r0)]))
  refine own_st (fun t => XS.iconst (own_here Y20) hx rfl (hb hby own_d1_14) ) ?_
  show own_Ends _ _ _ _ (T19.setTop (mkF m 15 #[.val (.ref r0), .val (.int (2 : Int32))] [(.int (1 : Int32)), (.int (2 : Int32)), (.ref r0), (.int y2), (.int (2 : Int32)), (.ref r0)]))
  refine own_st (fun t => XS.isub (own_here Y20) hx rfl (hb hby own_d1_15) rfl) ?_
  show own_Ends _ _ _ _ (T19.setTop (mkF m 16 #[.val (.ref r0), .val (.int (2 : Int32))] [(.int (1 : Int32)), (.ref r0), (.int y2), (.int (2 : Int32)), (.ref r0)]))
  refine own_ldI Y20 hx hZ A23 (i := 1) (by decide) (by decide) (Nat.le_of_ble_eq_true rfl) (v := (.int (y1 + y0))) rfl rfl rfl (hb hby own_d1_16) ?_
  show own_Ends _ _ _ _ (T19.setTop (mkF m 17 #[.val (.ref r0), .val (.int (2 : Int32))] [(.int (y1 + y0)), (.int y2), (.int (2 : Int32)), (.ref r0)]))
  refine own_st (fun t => XS.iadd (own_here Y20) hx rfl (hb hby own_d1_17) rfl) ?_
  show own_Ends _ _ _ _ (T19.setTop (mkF m 18 #[.val (.ref r0), .val (.int (2 : Int32))] [(.int (y2 + (y1 + y0))), (.int (2 : Int32)), (.ref r0)]))
  refine own_stI Y20 hx hZ A23 g (i := 2) (by decide) (by decide) (Nat.le_of_ble_eq_true rfl) rfl rfl (hb hby own_d1_18) (fun T24 h26 Y25 W27 A28 => ?_)
  replace A28 : own_A Z h26 r0 .int [(.int y0), (.int (y1 + y0)), (.int (y2 + (y1 + y0))), (.int y3)] := A28
  show own_Ends _ _ _ _ (T24.setTop (mkF m 19 #[.val (.ref r0), .val (.int (2 : Int32))] []))
  refine own_st (fun t => XS.iinc (own_here Y25) hx rfl (hb hby own_d1_19) rfl (l' := #[.val (.ref r0), .val (.int (3 : Int32))]) rfl) ?_
  show own_Ends _ _ _ _ (T24.setTop (mkF m 22 #[.val (.ref r0), .val (.int (3 : Int32))] []))
  refine own_st (fun t => XS.goto (own_here Y25) hx rfl (pc0 := 22) (pc' := 2) rfl (hb hby own_d1_22) (by decide) (by decide)) ?_
  show own_Ends _ _ _ _ (T24.setTop (mkF m 2 #[.val (.ref r0), .val (.int (3 : Int32))] []))
  refine own_st (fun t => XS.iloadN (own_here Y25) hx rfl (hb hby own_d1_2) rfl) ?_
  show own_Ends _ _ _ _ (T24.setTop (mkF m 3 #[.val (.ref r0), .val (.int (3 : Int32))] [(.int (3 : Int32))]))
  refine own_st (fun t => XS.aloadN (own_here Y25) hx rfl (hb hby own_d1_3) rfl rfl) ?_
  show own_Ends _ _ _ _ (T24.setTop (mkF m 4 #[.val (.ref r0), .val (.int (3 : Int32))] [(.ref r0), (.int (3 : Int32))]))
  refine own_len Y25 hx hZ A28 (z := (4 : Int32)) rfl rfl rfl (hb hby own_d1_4) ?_
  show own_Ends _ _ _ _ (T24.setTop (mkF m 5 #[.val (.ref r0), .val (.int (3 : Int32))] [(.int (4 : Int32)), (.int (3 : Int32))]))
  refine own_st (fun t => XS.icmpNo (own_here Y25) hx rfl (hb hby own_d1_5) rfl (XT.ii_ge_f (by decide))) ?_
  show own_Ends _ _ _ _ (T24.setTop (mkF m 8 #[.val (.ref r0), .val (.int (3 : Int32))] []))
  refine own_st (fun t => XS.aloadN (own_here Y25) hx rfl (hb hby own_d1_8) rfl rfl) ?_
  show own_Ends _ _ _ _ (T24.setTop (mkF m 9 #[.val (.ref r0), .val (.int (3 : Int32))] [(.ref r0)]))
  refine own_st (fun t => XS.iloadN (own_here Y25) hx rfl (hb hby own_d1_9) rfl) ?_
  show own_Ends _ _ _ _ (T24.setTop (mkF m 10 #[.val (.ref r0), .val (.int (3 : Int32))] [(.int (3 : Int32)), (.ref r0)]))
  refine own_st (fun t => XT.dup2 (own_here Y25) hx rfl (hb hby own_d1_10) rfl rfl rfl) ?_
  show own_Ends _ _ _ _ (T24.setTop (mkF m 11 #[.val (.ref r0), .val (.int (3 : Int32))] [(.int (3 : Int32)), (.ref r0), (.int (3 : Int32)), (.ref r0)]))
  refine own_ldI Y25 hx hZ A28 (i := 3) (by decide) (by decide) (Nat.le_of_ble_eq_true rfl) (v := (.int y3)) rfl rfl rfl (hb hby own_d1_11) ?_
  show own_Ends _ _ _ _ (T24.setTop (mkF m 12 #[.val (.ref r0), .val (.int (3 : Int32))] [(.int y3), (.int (3 : Int32)), (.ref r0)]))
  refine own_st (fun t => XS.aloadN (own_here Y25) hx rfl (hb hby own_d1_12) rfl rfl) ?_
  show own_Ends _ _ _ _ (T24.setTop (mkF m 13 #[.val (.ref r0), .val (.int (3 : Int32))] [(.ref r0), (.int y3), (.int (3 : Int32)), (.ref r0)]))
  refine own_st (fun t => XS.iloadN (own_here Y25) hx rfl (hb hby own_d1_13) rfl) ?_
  show own_Ends _ _ _ _ (T24.setTop (mkF m 14 #[.val (.ref r0), .val (.int (3 : Int32))] [(.int (3 : Int32)), (.ref r0), (.int y3), (.int (3 : Int32)), (.ref r0)]))
  refine own_st (fun t => XS.iconst (own_here Y25) hx rfl (hb hby own_d1_14) ) ?_
  show own_Ends _ _ _ _ (T24.setTop (mkF m 15 #[.val (.ref r0), .val (.int (3 : Int32))] [(.int (1 : Int32)), (.int (3 : Int32)), (.ref r0), (.int y3), (.int (3 : Int32)), (.ref r0)]))
  refine own_st (fun t => XS.isub (own_here Y25) hx rfl (hb hby own_d1_15) rfl) ?_
  show own_Ends _ _ _ _ (T24.setTop (mkF m 16 #[.val (.ref r0), .val (.int (3 : Int32))] [(.int (2 : Int32)), (.ref r0), (.int y3), (.int (3 : Int32)), (.ref r0)]))
  refine own_ldI Y25 hx hZ A28 (i := 2) (by decide) (by decide) (Nat.le_of_ble_eq_true rfl) (v := (.int (y2 + (y1 + y0)))) rfl rfl rfl (hb hby own_d1_16) ?_
  show own_Ends _ _ _ _ (T24.setTop (mkF m 17 #[.val (.ref r0), .val (.int (3 : Int32))] [(.int (y2 + (y1 + y0))), (.int y3), (.int (3 : Int32)), (.ref r0)]))
  refine own_st (fun t => XS.iadd (own_here Y25) hx rfl (hb hby own_d1_17) rfl) ?_
  show own_Ends _ _ _ _ (T24.setTop (mkF m 18 #[.val (.ref r0), .val (.int (3 : Int32))] [(.int (y3 + (y2 + (y1 + y0)))), (.int (3 : Int32)), (.ref r0)]))
  refine own_stI Y25 hx hZ A28 g (i := 3) (by decide) (by decide) (Nat.le_of_ble_eq_true rfl) rfl rfl (hb hby own_d1_18) (fun T29 h31 Y30 W32 A33 => ?_)
  replace A33 : own_A Z h31 r0 .int [(.int y0), (.int (y1 + y0)), (.int (y2 + (y1 + y0))), (.int (y3 + (y2 + (y1 + y0))))] := A33
  show own_Ends _ _ _ _ (T29.setTop (mkF m 19 #[.val (.ref r0), .val (.int (3 : Int32))] []))
  refine own_st (fun t => XS.iinc (own_here Y30) hx rfl (hb hby own_d1_19) rfl (l' := #[.val (.ref r0), .val (.int (4 : Int32))]) rfl) ?_
  show own_Ends _ _ _ _ (T29.setTop (mkF m 22 #[.val (.ref r0), .val (.int (4 : Int32))] []))
  refine own_st (fun t => XS.goto (own_here Y30) hx rfl (pc0 := 22) (pc' := 2) rfl (hb hby own_d1_22) (by decide) (by decide)) ?_
  show own_Ends _ _ _ _ (T29.setTop (mkF m 2 #[.val (.ref r0), .val (.int (4 : Int32))] []))
  refine own_st (fun t => XS.iloadN (own_here Y30) hx rfl (hb hby own_d1_2) rfl) ?_
  show own_Ends _ _ _ _ (T29.setTop (mkF m 3 #[.val (.ref r0), .val (.int (4 : Int32))] [(.int (4 : Int32))]))
  refine own_st (fun t => XS.aloadN (own_here Y30) hx rfl (hb hby own_d1_3) rfl rfl) ?_
  show own_Ends _ _ _ _ (T29.setTop (mkF m 4 #[.val (.ref r0), .val (.int (4 : Int32))] [(.ref r0), (.int (4 : Int32))]))
  refine own_len Y30 hx hZ A33 (z := (4 : Int32)) rfl rfl rfl (hb hby own_d1_4) ?_
  show own_Ends _ _ _ _ (T29.setTop (mkF m 5 #[.val (.ref r0), .val (.int (4 : Int32))] [(.int (4 : Int32)), (.int (4 : Int32))]))
  refine own_st (fun t => XS.icmpYes (own_here Y30) hx rfl (pc0 := 5) (pc' := 25) rfl (hb hby own_d1_5) rfl (XT.ii_ge_t (by decide)) (by decide) (by decide)) ?_
  show own_Ends _ _ _ _ (T29.setTop (mkF m 25 #[.val (.ref r0), .val (.int (4 : Int32))] []))
  refine own_st (fun t => XS.aloadN (own_here Y30) hx rfl (hb hby own_d1_25) rfl rfl) ?_
  show own_Ends _ _ _ _ (T29.setTop (mkF m 26 #[.val (.ref r0), .val (.int (4 : Int32))] [(.ref r0)]))
  refine own_st (fun t => XS.aloadN (own_here Y30) hx rfl (hb hby own_d1_26) rfl rfl) ?_
  show own_Ends _ _ _ _ (T29.setTop (mkF m 27 #[.val (.ref r0), .val (.int (4 : Int32))] [(.ref r0), (.ref r0)]))
  refine own_len Y30 hx hZ A33 (z := (4 : Int32)) rfl rfl rfl (hb hby own_d1_27) ?_
  show own_Ends _ _ _ _ (T29.setTop (mkF m 28 #[.val (.ref r0), .val (.int (4 : Int32))] [(.int (4 : Int32)), (.ref r0)]))
  refine own_st (fun t => XS.iconst (own_here Y30) hx rfl (hb hby own_d1_28) ) ?_
  show own_Ends _ _ _ _ (T29.setTop (mkF m 29 #[.val (.ref r0), .val (.int (4 : Int32))] [(.int (1 : Int32)), (.int (4 : Int32)), (.ref r0)]))
  refine own_st (fun t => XS.isub (own_here Y30) hx rfl (hb hby own_d1_29) rfl) ?_
  show own_Ends _ _ _ _ (T29.setTop (mkF m 30 #[.val (.ref r0), .val (.int (4 : Int32))] [(.int (3 : Int32)), (.ref r0)]))
  refine own_ldI Y30 hx hZ A33 (i := 3) (by decide) (by decide) (Nat.le_of_ble_eq_true rfl) (v := (.int (y3 + (y2 + (y1 + y0))))) rfl rfl rfl (hb hby own_d1_30) ?_
  show own_Ends _ _ _ _ (T29.setTop (mkF m 31 #[.val (.ref r0), .val (.int (4 : Int32))] [(.int (y3 + (y2 + (y1 + y0))))]))
  have K34 : Keep h0 h21 [r0] := (Keep.refl h0 [r0]).wr W22 (Or.inl (List.mem_of_getElem? (i := 0) rfl))
  have K35 : Keep h0 h26 [r0] := K34.wr W27 (Or.inl (List.mem_of_getElem? (i := 0) rfl))
  have K36 : Keep h0 h31 [r0] := K35.wr W32 (Or.inl (List.mem_of_getElem? (i := 0) rfl))
  refine own_retI Y30 hx hlk hret (hb hby own_d1_31) (by decide) (by decide) ?_
  exact ⟨rfl, K36, A33⟩
theorem own_ef_own_rm1_5 (m : MethodId) (r0 : Addr) : entryFrame m #[(.ref r0)] 2 = mkF m 0 #[.val (.ref r0), .unset] [] := by first | (simp [entryFrame, mkF, argsToLocals, Value.category]; done) | rfl
def own_Q_own_rm1_5 (Z : State) (r0 : Addr) (y0 y1 y2 y3 y4 : Int32) (h0 : Heap) (n0 : Nat) (v : Option Value) (h : Heap) : Prop := v = some (.int (y4 + (y3 + (y2 + (y1 + y0))))) ∧ Keep h0 h [r0] ∧ own_A Z h r0 .int [(.int y0), (.int (y1 + y0)), (.int (y2 + (y1 + y0))), (.int (y3 + (y2 + (y1 + y0)))), (.int (y4 + (y3 + (y2 + (y1 + y0)))))]
set_option maxRecDepth 65536 in
set_option maxHeartbeats 40000000 in
theorem own_rm1_5 (l : Launch) (Z : State) (a0 : Array Value) (hw : ∀ d ∈ tables_1, d.before a0 Z = true) (ws : List Jvm.Cond) (r0 : Addr) (y0 y1 y2 y3 y4 : Int32) (h0 : Heap) (n0 : Nat)  (A : own_A Z h0 r0 .int [(.int y0), (.int y1), (.int y2), (.int y3), (.int y4)]) (g : n0 ≤ r0) :
    own_Con l Z (⟨"com/example/tierpath/tierpath/Hierarchy", "prefixSums", "([I)I"⟩ : MethodName) prog_39_method_26_code 2 (some .int) ws ({ frames := 0, cells := 0, slots := 0, locals := 0 } : Room) #[(.ref r0)] h0 n0 (own_Q_own_rm1_5 Z r0 y0 y1 y2 y3 y4 h0 n0) := by
  refine own_body (plainFor_of_name own_pn0) ?_
  intro p e s m below meth c T0 hx hZ hby hml hown hnm hret hlk Y0
  replace hown : s.vm.findClass "com/example/tierpath/tierpath/Hierarchy" = some m.cls := hown
  replace hnm : meth.name = "prefixSums" := hnm
  rw [own_ef_own_rm1_5 m r0]
  show own_Ends _ _ _ _ (T0.setTop (mkF m 0 #[.val (.ref r0), .unset] []))
  refine own_st (fun t => XS.iconst (own_here Y0) hx rfl (hb hby own_d1_0) ) ?_
  show own_Ends _ _ _ _ (T0.setTop (mkF m 1 #[.val (.ref r0), .unset] [(.int (1 : Int32))]))
  refine own_st (fun t => XS.istoreN (own_here Y0) hx rfl (hb hby own_d1_1) rfl (l' := #[.val (.ref r0), .val (.int (1 : Int32))]) rfl) ?_
  show own_Ends _ _ _ _ (T0.setTop (mkF m 2 #[.val (.ref r0), .val (.int (1 : Int32))] []))
  refine own_st (fun t => XS.iloadN (own_here Y0) hx rfl (hb hby own_d1_2) rfl) ?_
  show own_Ends _ _ _ _ (T0.setTop (mkF m 3 #[.val (.ref r0), .val (.int (1 : Int32))] [(.int (1 : Int32))]))
  refine own_st (fun t => XS.aloadN (own_here Y0) hx rfl (hb hby own_d1_3) rfl rfl) ?_
  show own_Ends _ _ _ _ (T0.setTop (mkF m 4 #[.val (.ref r0), .val (.int (1 : Int32))] [(.ref r0), (.int (1 : Int32))]))
  refine own_len Y0 hx hZ A (z := (5 : Int32)) rfl rfl rfl (hb hby own_d1_4) ?_
  show own_Ends _ _ _ _ (T0.setTop (mkF m 5 #[.val (.ref r0), .val (.int (1 : Int32))] [(.int (5 : Int32)), (.int (1 : Int32))]))
  refine own_st (fun t => XS.icmpNo (own_here Y0) hx rfl (hb hby own_d1_5) rfl (XT.ii_ge_f (by decide))) ?_
  show own_Ends _ _ _ _ (T0.setTop (mkF m 8 #[.val (.ref r0), .val (.int (1 : Int32))] []))
  refine own_st (fun t => XS.aloadN (own_here Y0) hx rfl (hb hby own_d1_8) rfl rfl) ?_
  show own_Ends _ _ _ _ (T0.setTop (mkF m 9 #[.val (.ref r0), .val (.int (1 : Int32))] [(.ref r0)]))
  refine own_st (fun t => XS.iloadN (own_here Y0) hx rfl (hb hby own_d1_9) rfl) ?_
  show own_Ends _ _ _ _ (T0.setTop (mkF m 10 #[.val (.ref r0), .val (.int (1 : Int32))] [(.int (1 : Int32)), (.ref r0)]))
  refine own_st (fun t => XT.dup2 (own_here Y0) hx rfl (hb hby own_d1_10) rfl rfl rfl) ?_
  show own_Ends _ _ _ _ (T0.setTop (mkF m 11 #[.val (.ref r0), .val (.int (1 : Int32))] [(.int (1 : Int32)), (.ref r0), (.int (1 : Int32)), (.ref r0)]))
  refine own_ldI Y0 hx hZ A (i := 1) (by decide) (by decide) (Nat.le_of_ble_eq_true rfl) (v := (.int y1)) rfl rfl rfl (hb hby own_d1_11) ?_
  show own_Ends _ _ _ _ (T0.setTop (mkF m 12 #[.val (.ref r0), .val (.int (1 : Int32))] [(.int y1), (.int (1 : Int32)), (.ref r0)]))
  refine own_st (fun t => XS.aloadN (own_here Y0) hx rfl (hb hby own_d1_12) rfl rfl) ?_
  show own_Ends _ _ _ _ (T0.setTop (mkF m 13 #[.val (.ref r0), .val (.int (1 : Int32))] [(.ref r0), (.int y1), (.int (1 : Int32)), (.ref r0)]))
  refine own_st (fun t => XS.iloadN (own_here Y0) hx rfl (hb hby own_d1_13) rfl) ?_
  show own_Ends _ _ _ _ (T0.setTop (mkF m 14 #[.val (.ref r0), .val (.int (1 : Int32))] [(.int (1 : Int32)), (.ref r0), (.int y1), (.int (1 : Int32)), (.ref r0)]))
  refine own_st (fun t => XS.iconst (own_here Y0) hx rfl (hb hby own_d1_14) ) ?_
  show own_Ends _ _ _ _ (T0.setTop (mkF m 15 #[.val (.ref r0), .val (.int (1 : Int32))] [(.int (1 : Int32)), (.int (1 : Int32)), (.ref r0), (.int y1), (.int (1 : Int32)), (.ref r0)]))
  refine own_st (fun t => XS.isub (own_here Y0) hx rfl (hb hby own_d1_15) rfl) ?_
  show own_Ends _ _ _ _ (T0.setTop (mkF m 16 #[.val (.ref r0), .val (.int (1 : Int32))] [(.int (0 : Int32)), (.ref r0), (.int y1), (.int (1 : Int32)), (.ref r0)]))
  refine own_ldI Y0 hx hZ A (i := 0) (by decide) (by decide) (Nat.le_of_ble_eq_true rfl) (v := (.int y0)) rfl rfl rfl (hb hby own_d1_16) ?_
  show own_Ends _ _ _ _ (T0.setTop (mkF m 17 #[.val (.ref r0), .val (.int (1 : Int32))] [(.int y0), (.int y1), (.int (1 : Int32)), (.ref r0)]))
  refine own_st (fun t => XS.iadd (own_here Y0) hx rfl (hb hby own_d1_17) rfl) ?_
  show own_Ends _ _ _ _ (T0.setTop (mkF m 18 #[.val (.ref r0), .val (.int (1 : Int32))] [(.int (y1 + y0)), (.int (1 : Int32)), (.ref r0)]))
  refine own_stI Y0 hx hZ A g (i := 1) (by decide) (by decide) (Nat.le_of_ble_eq_true rfl) rfl rfl (hb hby own_d1_18) (fun T37 h39 Y38 W40 A41 => ?_)
  replace A41 : own_A Z h39 r0 .int [(.int y0), (.int (y1 + y0)), (.int y2), (.int y3), (.int y4)] := A41
  show own_Ends _ _ _ _ (T37.setTop (mkF m 19 #[.val (.ref r0), .val (.int (1 : Int32))] []))
  refine own_st (fun t => XS.iinc (own_here Y38) hx rfl (hb hby own_d1_19) rfl (l' := #[.val (.ref r0), .val (.int (2 : Int32))]) rfl) ?_
  show own_Ends _ _ _ _ (T37.setTop (mkF m 22 #[.val (.ref r0), .val (.int (2 : Int32))] []))
  refine own_st (fun t => XS.goto (own_here Y38) hx rfl (pc0 := 22) (pc' := 2) rfl (hb hby own_d1_22) (by decide) (by decide)) ?_
  show own_Ends _ _ _ _ (T37.setTop (mkF m 2 #[.val (.ref r0), .val (.int (2 : Int32))] []))
  refine own_st (fun t => XS.iloadN (own_here Y38) hx rfl (hb hby own_d1_2) rfl) ?_
  show own_Ends _ _ _ _ (T37.setTop (mkF m 3 #[.val (.ref r0), .val (.int (2 : Int32))] [(.int (2 : Int32))]))
  refine own_st (fun t => XS.aloadN (own_here Y38) hx rfl (hb hby own_d1_3) rfl rfl) ?_
  show own_Ends _ _ _ _ (T37.setTop (mkF m 4 #[.val (.ref r0), .val (.int (2 : Int32))] [(.ref r0), (.int (2 : Int32))]))
  refine own_len Y38 hx hZ A41 (z := (5 : Int32)) rfl rfl rfl (hb hby own_d1_4) ?_
  show own_Ends _ _ _ _ (T37.setTop (mkF m 5 #[.val (.ref r0), .val (.int (2 : Int32))] [(.int (5 : Int32)), (.int (2 : Int32))]))
  refine own_st (fun t => XS.icmpNo (own_here Y38) hx rfl (hb hby own_d1_5) rfl (XT.ii_ge_f (by decide))) ?_
  show own_Ends _ _ _ _ (T37.setTop (mkF m 8 #[.val (.ref r0), .val (.int (2 : Int32))] []))
  refine own_st (fun t => XS.aloadN (own_here Y38) hx rfl (hb hby own_d1_8) rfl rfl) ?_
  show own_Ends _ _ _ _ (T37.setTop (mkF m 9 #[.val (.ref r0), .val (.int (2 : Int32))] [(.ref r0)]))
  refine own_st (fun t => XS.iloadN (own_here Y38) hx rfl (hb hby own_d1_9) rfl) ?_
  show own_Ends _ _ _ _ (T37.setTop (mkF m 10 #[.val (.ref r0), .val (.int (2 : Int32))] [(.int (2 : Int32)), (.ref r0)]))
  refine own_st (fun t => XT.dup2 (own_here Y38) hx rfl (hb hby own_d1_10) rfl rfl rfl) ?_
  show own_Ends _ _ _ _ (T37.setTop (mkF m 11 #[.val (.ref r0), .val (.int (2 : Int32))] [(.int (2 : Int32)), (.ref r0), (.int (2 : Int32)), (.ref r0)]))
  refine own_ldI Y38 hx hZ A41 (i := 2) (by decide) (by decide) (Nat.le_of_ble_eq_true rfl) (v := (.int y2)) rfl rfl rfl (hb hby own_d1_11) ?_
  show own_Ends _ _ _ _ (T37.setTop (mkF m 12 #[.val (.ref r0), .val (.int (2 : Int32))] [(.int y2), (.int (2 : Int32)), (.ref r0)]))
  refine own_st (fun t => XS.aloadN (own_here Y38) hx rfl (hb hby own_d1_12) rfl rfl) ?_
  show own_Ends _ _ _ _ (T37.setTop (mkF m 13 #[.val (.ref r0), .val (.int (2 : Int32))] [(.ref r0), (.int y2), (.int (2 : Int32)), (.ref r0)]))
  refine own_st (fun t => XS.iloadN (own_here Y38) hx rfl (hb hby own_d1_13) rfl) ?_
  show own_Ends _ _ _ _ (T37.setTop (mkF m 14 #[.val (.ref r0), .val (.int (2 : Int32))] [(.int (2 : Int32)), (.ref r0), (.int y2), (.int (2 : Int32)), (.ref r0)]))
  refine own_st (fun t => XS.iconst (own_here Y38) hx rfl (hb hby own_d1_14) ) ?_
  show own_Ends _ _ _ _ (T37.setTop (mkF m 15 #[.val (.ref r0), .val (.int (2 : Int32))] [(.int (1 : Int32)), (.int (2 : Int32)), (.ref r0), (.int y2), (.int (2 : Int32)), (.ref r0)]))
  refine own_st (fun t => XS.isub (own_here Y38) hx rfl (hb hby own_d1_15) rfl) ?_
  show own_Ends _ _ _ _ (T37.setTop (mkF m 16 #[.val (.ref r0), .val (.int (2 : Int32))] [(.int (1 : Int32)), (.ref r0), (.int y2), (.int (2 : Int32)), (.ref r0)]))
  refine own_ldI Y38 hx hZ A41 (i := 1) (by decide) (by decide) (Nat.le_of_ble_eq_true rfl) (v := (.int (y1 + y0))) rfl rfl rfl (hb hby own_d1_16) ?_
  show own_Ends _ _ _ _ (T37.setTop (mkF m 17 #[.val (.ref r0), .val (.int (2 : Int32))] [(.int (y1 + y0)), (.int y2), (.int (2 : Int32)), (.ref r0)]))
  refine own_st (fun t => XS.iadd (own_here Y38) hx rfl (hb hby own_d1_17) rfl) ?_
  show own_Ends _ _ _ _ (T37.setTop (mkF m 18 #[.val (.ref r0), .val (.int (2 : Int32))] [(.int (y2 + (y1 + y0))), (.int (2 : Int32)), (.ref r0)]))
  refine own_stI Y38 hx hZ A41 g (i := 2) (by decide) (by decide) (Nat.le_of_ble_eq_true rfl) rfl rfl (hb hby own_d1_18) (fun T42 h44 Y43 W45 A46 => ?_)
  replace A46 : own_A Z h44 r0 .int [(.int y0), (.int (y1 + y0)), (.int (y2 + (y1 + y0))), (.int y3), (.int y4)] := A46
  show own_Ends _ _ _ _ (T42.setTop (mkF m 19 #[.val (.ref r0), .val (.int (2 : Int32))] []))
  refine own_st (fun t => XS.iinc (own_here Y43) hx rfl (hb hby own_d1_19) rfl (l' := #[.val (.ref r0), .val (.int (3 : Int32))]) rfl) ?_
  show own_Ends _ _ _ _ (T42.setTop (mkF m 22 #[.val (.ref r0), .val (.int (3 : Int32))] []))
  refine own_st (fun t => XS.goto (own_here Y43) hx rfl (pc0 := 22) (pc' := 2) rfl (hb hby own_d1_22) (by decide) (by decide)) ?_
  show own_Ends _ _ _ _ (T42.setTop (mkF m 2 #[.val (.ref r0), .val (.int (3 : Int32))] []))
  refine own_st (fun t => XS.iloadN (own_here Y43) hx rfl (hb hby own_d1_2) rfl) ?_
  show own_Ends _ _ _ _ (T42.setTop (mkF m 3 #[.val (.ref r0), .val (.int (3 : Int32))] [(.int (3 : Int32))]))
  refine own_st (fun t => XS.aloadN (own_here Y43) hx rfl (hb hby own_d1_3) rfl rfl) ?_
  show own_Ends _ _ _ _ (T42.setTop (mkF m 4 #[.val (.ref r0), .val (.int (3 : Int32))] [(.ref r0), (.int (3 : Int32))]))
  refine own_len Y43 hx hZ A46 (z := (5 : Int32)) rfl rfl rfl (hb hby own_d1_4) ?_
  show own_Ends _ _ _ _ (T42.setTop (mkF m 5 #[.val (.ref r0), .val (.int (3 : Int32))] [(.int (5 : Int32)), (.int (3 : Int32))]))
  refine own_st (fun t => XS.icmpNo (own_here Y43) hx rfl (hb hby own_d1_5) rfl (XT.ii_ge_f (by decide))) ?_
  show own_Ends _ _ _ _ (T42.setTop (mkF m 8 #[.val (.ref r0), .val (.int (3 : Int32))] []))
  refine own_st (fun t => XS.aloadN (own_here Y43) hx rfl (hb hby own_d1_8) rfl rfl) ?_
  show own_Ends _ _ _ _ (T42.setTop (mkF m 9 #[.val (.ref r0), .val (.int (3 : Int32))] [(.ref r0)]))
  refine own_st (fun t => XS.iloadN (own_here Y43) hx rfl (hb hby own_d1_9) rfl) ?_
  show own_Ends _ _ _ _ (T42.setTop (mkF m 10 #[.val (.ref r0), .val (.int (3 : Int32))] [(.int (3 : Int32)), (.ref r0)]))
  refine own_st (fun t => XT.dup2 (own_here Y43) hx rfl (hb hby own_d1_10) rfl rfl rfl) ?_
  show own_Ends _ _ _ _ (T42.setTop (mkF m 11 #[.val (.ref r0), .val (.int (3 : Int32))] [(.int (3 : Int32)), (.ref r0), (.int (3 : Int32)), (.ref r0)]))
  refine own_ldI Y43 hx hZ A46 (i := 3) (by decide) (by decide) (Nat.le_of_ble_eq_true rfl) (v := (.int y3)) rfl rfl rfl (hb hby own_d1_11) ?_
  show own_Ends _ _ _ _ (T42.setTop (mkF m 12 #[.val (.ref r0), .val (.int (3 : Int32))] [(.int y3), (.int (3 : Int32)), (.ref r0)]))
  refine own_st (fun t => XS.aloadN (own_here Y43) hx rfl (hb hby own_d1_12) rfl rfl) ?_
  show own_Ends _ _ _ _ (T42.setTop (mkF m 13 #[.val (.ref r0), .val (.int (3 : Int32))] [(.ref r0), (.int y3), (.int (3 : Int32)), (.ref r0)]))
  refine own_st (fun t => XS.iloadN (own_here Y43) hx rfl (hb hby own_d1_13) rfl) ?_
  show own_Ends _ _ _ _ (T42.setTop (mkF m 14 #[.val (.ref r0), .val (.int (3 : Int32))] [(.int (3 : Int32)), (.ref r0), (.int y3), (.int (3 : Int32)), (.ref r0)]))
  refine own_st (fun t => XS.iconst (own_here Y43) hx rfl (hb hby own_d1_14) ) ?_
  show own_Ends _ _ _ _ (T42.setTop (mkF m 15 #[.val (.ref r0), .val (.int (3 : Int32))] [(.int (1 : Int32)), (.int (3 : Int32)), (.ref r0), (.int y3), (.int (3 : Int32)), (.ref r0)]))
  refine own_st (fun t => XS.isub (own_here Y43) hx rfl (hb hby own_d1_15) rfl) ?_
  show own_Ends _ _ _ _ (T42.setTop (mkF m 16 #[.val (.ref r0), .val (.int (3 : Int32))] [(.int (2 : Int32)), (.ref r0), (.int y3), (.int (3 : Int32)), (.ref r0)]))
  refine own_ldI Y43 hx hZ A46 (i := 2) (by decide) (by decide) (Nat.le_of_ble_eq_true rfl) (v := (.int (y2 + (y1 + y0)))) rfl rfl rfl (hb hby own_d1_16) ?_
  show own_Ends _ _ _ _ (T42.setTop (mkF m 17 #[.val (.ref r0), .val (.int (3 : Int32))] [(.int (y2 + (y1 + y0))), (.int y3), (.int (3 : Int32)), (.ref r0)]))
  refine own_st (fun t => XS.iadd (own_here Y43) hx rfl (hb hby own_d1_17) rfl) ?_
  show own_Ends _ _ _ _ (T42.setTop (mkF m 18 #[.val (.ref r0), .val (.int (3 : Int32))] [(.int (y3 + (y2 + (y1 + y0)))), (.int (3 : Int32)), (.ref r0)]))
  refine own_stI Y43 hx hZ A46 g (i := 3) (by decide) (by decide) (Nat.le_of_ble_eq_true rfl) rfl rfl (hb hby own_d1_18) (fun T47 h49 Y48 W50 A51 => ?_)
  replace A51 : own_A Z h49 r0 .int [(.int y0), (.int (y1 + y0)), (.int (y2 + (y1 + y0))), (.int (y3 + (y2 + (y1 + y0)))), (.int y4)] := A51
  show own_Ends _ _ _ _ (T47.setTop (mkF m 19 #[.val (.ref r0), .val (.int (3 : Int32))] []))
  refine own_st (fun t => XS.iinc (own_here Y48) hx rfl (hb hby own_d1_19) rfl (l' := #[.val (.ref r0), .val (.int (4 : Int32))]) rfl) ?_
  show own_Ends _ _ _ _ (T47.setTop (mkF m 22 #[.val (.ref r0), .val (.int (4 : Int32))] []))
  refine own_st (fun t => XS.goto (own_here Y48) hx rfl (pc0 := 22) (pc' := 2) rfl (hb hby own_d1_22) (by decide) (by decide)) ?_
  show own_Ends _ _ _ _ (T47.setTop (mkF m 2 #[.val (.ref r0), .val (.int (4 : Int32))] []))
  refine own_st (fun t => XS.iloadN (own_here Y48) hx rfl (hb hby own_d1_2) rfl) ?_
  show own_Ends _ _ _ _ (T47.setTop (mkF m 3 #[.val (.ref r0), .val (.int (4 : Int32))] [(.int (4 : Int32))]))
  refine own_st (fun t => XS.aloadN (own_here Y48) hx rfl (hb hby own_d1_3) rfl rfl) ?_
  show own_Ends _ _ _ _ (T47.setTop (mkF m 4 #[.val (.ref r0), .val (.int (4 : Int32))] [(.ref r0), (.int (4 : Int32))]))
  refine own_len Y48 hx hZ A51 (z := (5 : Int32)) rfl rfl rfl (hb hby own_d1_4) ?_
  show own_Ends _ _ _ _ (T47.setTop (mkF m 5 #[.val (.ref r0), .val (.int (4 : Int32))] [(.int (5 : Int32)), (.int (4 : Int32))]))
  refine own_st (fun t => XS.icmpNo (own_here Y48) hx rfl (hb hby own_d1_5) rfl (XT.ii_ge_f (by decide))) ?_
  show own_Ends _ _ _ _ (T47.setTop (mkF m 8 #[.val (.ref r0), .val (.int (4 : Int32))] []))
  refine own_st (fun t => XS.aloadN (own_here Y48) hx rfl (hb hby own_d1_8) rfl rfl) ?_
  show own_Ends _ _ _ _ (T47.setTop (mkF m 9 #[.val (.ref r0), .val (.int (4 : Int32))] [(.ref r0)]))
  refine own_st (fun t => XS.iloadN (own_here Y48) hx rfl (hb hby own_d1_9) rfl) ?_
  show own_Ends _ _ _ _ (T47.setTop (mkF m 10 #[.val (.ref r0), .val (.int (4 : Int32))] [(.int (4 : Int32)), (.ref r0)]))
  refine own_st (fun t => XT.dup2 (own_here Y48) hx rfl (hb hby own_d1_10) rfl rfl rfl) ?_
  show own_Ends _ _ _ _ (T47.setTop (mkF m 11 #[.val (.ref r0), .val (.int (4 : Int32))] [(.int (4 : Int32)), (.ref r0), (.int (4 : Int32)), (.ref r0)]))
  refine own_ldI Y48 hx hZ A51 (i := 4) (by decide) (by decide) (Nat.le_of_ble_eq_true rfl) (v := (.int y4)) rfl rfl rfl (hb hby own_d1_11) ?_
  show own_Ends _ _ _ _ (T47.setTop (mkF m 12 #[.val (.ref r0), .val (.int (4 : Int32))] [(.int y4), (.int (4 : Int32)), (.ref r0)]))
  refine own_st (fun t => XS.aloadN (own_here Y48) hx rfl (hb hby own_d1_12) rfl rfl) ?_
  show own_Ends _ _ _ _ (T47.setTop (mkF m 13 #[.val (.ref r0), .val (.int (4 : Int32))] [(.ref r0), (.int y4), (.int (4 : Int32)), (.ref r0)]))
  refine own_st (fun t => XS.iloadN (own_here Y48) hx rfl (hb hby own_d1_13) rfl) ?_
  show own_Ends _ _ _ _ (T47.setTop (mkF m 14 #[.val (.ref r0), .val (.int (4 : Int32))] [(.int (4 : Int32)), (.ref r0), (.int y4), (.int (4 : Int32)), (.ref r0)]))
  refine own_st (fun t => XS.iconst (own_here Y48) hx rfl (hb hby own_d1_14) ) ?_
  show own_Ends _ _ _ _ (T47.setTop (mkF m 15 #[.val (.ref r0), .val (.int (4 : Int32))] [(.int (1 : Int32)), (.int (4 : Int32)), (.ref r0), (.int y4), (.int (4 : Int32)), (.ref r0)]))
  refine own_st (fun t => XS.isub (own_here Y48) hx rfl (hb hby own_d1_15) rfl) ?_
  show own_Ends _ _ _ _ (T47.setTop (mkF m 16 #[.val (.ref r0), .val (.int (4 : Int32))] [(.int (3 : Int32)), (.ref r0), (.int y4), (.int (4 : Int32)), (.ref r0)]))
  refine own_ldI Y48 hx hZ A51 (i := 3) (by decide) (by decide) (Nat.le_of_ble_eq_true rfl) (v := (.int (y3 + (y2 + (y1 + y0))))) rfl rfl rfl (hb hby own_d1_16) ?_
  show own_Ends _ _ _ _ (T47.setTop (mkF m 17 #[.val (.ref r0), .val (.int (4 : Int32))] [(.int (y3 + (y2 + (y1 + y0)))), (.int y4), (.int (4 : Int32)), (.ref r0)]))
  refine own_st (fun t => XS.iadd (own_here Y48) hx rfl (hb hby own_d1_17) rfl) ?_
  show own_Ends _ _ _ _ (T47.setTop (mkF m 18 #[.val (.ref r0), .val (.int (4 : Int32))] [(.int (y4 + (y3 + (y2 + (y1 + y0))))), (.int (4 : Int32)), (.ref r0)]))
  refine own_stI Y48 hx hZ A51 g (i := 4) (by decide) (by decide) (Nat.le_of_ble_eq_true rfl) rfl rfl (hb hby own_d1_18) (fun T52 h54 Y53 W55 A56 => ?_)
  replace A56 : own_A Z h54 r0 .int [(.int y0), (.int (y1 + y0)), (.int (y2 + (y1 + y0))), (.int (y3 + (y2 + (y1 + y0)))), (.int (y4 + (y3 + (y2 + (y1 + y0)))))] := A56
  show own_Ends _ _ _ _ (T52.setTop (mkF m 19 #[.val (.ref r0), .val (.int (4 : Int32))] []))
  refine own_st (fun t => XS.iinc (own_here Y53) hx rfl (hb hby own_d1_19) rfl (l' := #[.val (.ref r0), .val (.int (5 : Int32))]) rfl) ?_
  show own_Ends _ _ _ _ (T52.setTop (mkF m 22 #[.val (.ref r0), .val (.int (5 : Int32))] []))
  refine own_st (fun t => XS.goto (own_here Y53) hx rfl (pc0 := 22) (pc' := 2) rfl (hb hby own_d1_22) (by decide) (by decide)) ?_
  show own_Ends _ _ _ _ (T52.setTop (mkF m 2 #[.val (.ref r0), .val (.int (5 : Int32))] []))
  refine own_st (fun t => XS.iloadN (own_here Y53) hx rfl (hb hby own_d1_2) rfl) ?_
  show own_Ends _ _ _ _ (T52.setTop (mkF m 3 #[.val (.ref r0), .val (.int (5 : Int32))] [(.int (5 : Int32))]))
  refine own_st (fun t => XS.aloadN (own_here Y53) hx rfl (hb hby own_d1_3) rfl rfl) ?_
  show own_Ends _ _ _ _ (T52.setTop (mkF m 4 #[.val (.ref r0), .val (.int (5 : Int32))] [(.ref r0), (.int (5 : Int32))]))
  refine own_len Y53 hx hZ A56 (z := (5 : Int32)) rfl rfl rfl (hb hby own_d1_4) ?_
  show own_Ends _ _ _ _ (T52.setTop (mkF m 5 #[.val (.ref r0), .val (.int (5 : Int32))] [(.int (5 : Int32)), (.int (5 : Int32))]))
  refine own_st (fun t => XS.icmpYes (own_here Y53) hx rfl (pc0 := 5) (pc' := 25) rfl (hb hby own_d1_5) rfl (XT.ii_ge_t (by decide)) (by decide) (by decide)) ?_
  show own_Ends _ _ _ _ (T52.setTop (mkF m 25 #[.val (.ref r0), .val (.int (5 : Int32))] []))
  refine own_st (fun t => XS.aloadN (own_here Y53) hx rfl (hb hby own_d1_25) rfl rfl) ?_
  show own_Ends _ _ _ _ (T52.setTop (mkF m 26 #[.val (.ref r0), .val (.int (5 : Int32))] [(.ref r0)]))
  refine own_st (fun t => XS.aloadN (own_here Y53) hx rfl (hb hby own_d1_26) rfl rfl) ?_
  show own_Ends _ _ _ _ (T52.setTop (mkF m 27 #[.val (.ref r0), .val (.int (5 : Int32))] [(.ref r0), (.ref r0)]))
  refine own_len Y53 hx hZ A56 (z := (5 : Int32)) rfl rfl rfl (hb hby own_d1_27) ?_
  show own_Ends _ _ _ _ (T52.setTop (mkF m 28 #[.val (.ref r0), .val (.int (5 : Int32))] [(.int (5 : Int32)), (.ref r0)]))
  refine own_st (fun t => XS.iconst (own_here Y53) hx rfl (hb hby own_d1_28) ) ?_
  show own_Ends _ _ _ _ (T52.setTop (mkF m 29 #[.val (.ref r0), .val (.int (5 : Int32))] [(.int (1 : Int32)), (.int (5 : Int32)), (.ref r0)]))
  refine own_st (fun t => XS.isub (own_here Y53) hx rfl (hb hby own_d1_29) rfl) ?_
  show own_Ends _ _ _ _ (T52.setTop (mkF m 30 #[.val (.ref r0), .val (.int (5 : Int32))] [(.int (4 : Int32)), (.ref r0)]))
  refine own_ldI Y53 hx hZ A56 (i := 4) (by decide) (by decide) (Nat.le_of_ble_eq_true rfl) (v := (.int (y4 + (y3 + (y2 + (y1 + y0)))))) rfl rfl rfl (hb hby own_d1_30) ?_
  show own_Ends _ _ _ _ (T52.setTop (mkF m 31 #[.val (.ref r0), .val (.int (5 : Int32))] [(.int (y4 + (y3 + (y2 + (y1 + y0)))))]))
  have K57 : Keep h0 h39 [r0] := (Keep.refl h0 [r0]).wr W40 (Or.inl (List.mem_of_getElem? (i := 0) rfl))
  have K58 : Keep h0 h44 [r0] := K57.wr W45 (Or.inl (List.mem_of_getElem? (i := 0) rfl))
  have K59 : Keep h0 h49 [r0] := K58.wr W50 (Or.inl (List.mem_of_getElem? (i := 0) rfl))
  have K60 : Keep h0 h54 [r0] := K59.wr W55 (Or.inl (List.mem_of_getElem? (i := 0) rfl))
  refine own_retI Y53 hx hlk hret (hb hby own_d1_31) (by decide) (by decide) ?_
  exact ⟨rfl, K60, A56⟩
theorem own_pn1 : plainName "com/example/tierpath/tierpath/HierarchyPrefixSumsPinLaw" = true := by first | (simp [plainName, overriddenIn]; done) | decide +kernel
theorem own_pd0 : parseMethodDescriptor "([I)I" = some ⟨[(.array .int)], some .int⟩ := by decide +kernel
theorem own_ef_own_rm0 (m : MethodId) (x0 : Int32) (x1 : Int32) (x2 : Int32) (x3 : Int32) (x4 : Int32) (x5 : Int32) : entryFrame m #[(.int x0), (.int x1), (.int x2), (.int x3), (.int x4), (.int x5)] maxLocals = mkF m 0 #[.val (.int x0), .val (.int x1), .val (.int x2), .val (.int x3), .val (.int x4), .val (.int x5), .unset, .unset, .unset, .unset, .unset, .unset, .unset, .unset, .unset, .unset] [] := by first | (simp [entryFrame, mkF, argsToLocals, Value.category, maxLocals]; done) | rfl
def own_Q_own_rm0 (Z : State) (x0 : Int32) (x1 : Int32) (x2 : Int32) (x3 : Int32) (x4 : Int32) (x5 : Int32) (h0 : Heap) (n0 : Nat) (v : Option Value) (h : Heap) : Prop := v = some (.int 1)
set_option maxRecDepth 65536 in
set_option maxHeartbeats 40000000 in
theorem own_rm0 (l : Launch) (Z : State) (a0 : Array Value) (hw : ∀ d ∈ tables_1, d.before a0 Z = true) (ws : List Jvm.Cond) (x0 : Int32) (x1 : Int32) (x2 : Int32) (x3 : Int32) (x4 : Int32) (x5 : Int32)  (h0 : Heap) (n0 : Nat) (Z0 : n0 ≤ h0.size)  :
    own_Con l Z x code maxLocals ret ws room_1 #[(.int x0), (.int x1), (.int x2), (.int x3), (.int x4), (.int x5)] h0 n0 (own_Q_own_rm0 Z x0 x1 x2 x3 x4 x5 h0 n0) := by
  refine own_body (plainFor_of_name own_pn1) ?_
  intro p e s m below meth c T0 hx hZ hby hml hown hnm hret hlk Y0
  replace hown : s.vm.findClass "com/example/tierpath/tierpath/HierarchyPrefixSumsPinLaw" = some m.cls := hown
  replace hml : c.maxLocals = 16 := hml
  replace hret : meth.sig.returnType = some .boolean := hret
  rw [own_ef_own_rm0 m x0 x1 x2 x3 x4 x5]
  show own_Ends _ _ _ _ (T0.setTop (mkF m 0 #[.val (.int x0), .val (.int x1), .val (.int x2), .val (.int x3), .val (.int x4), .val (.int x5), .unset, .unset, .unset, .unset, .unset, .unset, .unset, .unset, .unset, .unset] []))
  refine own_st (fun t => XS.iconst (own_here Y0) hx rfl (hb hby at_0) ) ?_
  show own_Ends _ _ _ _ (T0.setTop (mkF m 1 #[.val (.int x0), .val (.int x1), .val (.int x2), .val (.int x3), .val (.int x4), .val (.int x5), .unset, .unset, .unset, .unset, .unset, .unset, .unset, .unset, .unset, .unset] [(.int (1 : Int32))]))
  refine own_st (fun t => XS.iloadN (own_here Y0) hx rfl (hb hby at_1) rfl) ?_
  show own_Ends _ _ _ _ (T0.setTop (mkF m 2 #[.val (.int x0), .val (.int x1), .val (.int x2), .val (.int x3), .val (.int x4), .val (.int x5), .unset, .unset, .unset, .unset, .unset, .unset, .unset, .unset, .unset, .unset] [(.int x0), (.int (1 : Int32))]))
  refine own_ldcI Y0 hx hZ hown (hw _ (List.mem_of_getElem? (i := 0) rfl)) rfl (hb hby at_2) ?_
  show own_Ends _ _ _ _ (T0.setTop (mkF m 4 #[.val (.int x0), .val (.int x1), .val (.int x2), .val (.int x3), .val (.int x4), .val (.int x5), .unset, .unset, .unset, .unset, .unset, .unset, .unset, .unset, .unset, .unset] [(.int (2147483647 : Int32)), (.int x0), (.int (1 : Int32))]))
  refine own_st (fun t => XS.iand (own_here Y0) hx rfl (hb hby at_4) rfl) ?_
  show own_Ends _ _ _ _ (T0.setTop (mkF m 5 #[.val (.int x0), .val (.int x1), .val (.int x2), .val (.int x3), .val (.int x4), .val (.int x5), .unset, .unset, .unset, .unset, .unset, .unset, .unset, .unset, .unset, .unset] [(.int (x0 &&& (2147483647 : Int32))), (.int (1 : Int32))]))
  refine own_st (fun t => XS.iconst (own_here Y0) hx rfl (hb hby at_5) ) ?_
  show own_Ends _ _ _ _ (T0.setTop (mkF m 6 #[.val (.int x0), .val (.int x1), .val (.int x2), .val (.int x3), .val (.int x4), .val (.int x5), .unset, .unset, .unset, .unset, .unset, .unset, .unset, .unset, .unset, .unset] [(.int (5 : Int32)), (.int (x0 &&& (2147483647 : Int32))), (.int (1 : Int32))]))
  refine own_irem Y0 hx rfl (hb hby at_6) rfl (by decide) ?_
  show own_Ends _ _ _ _ (T0.setTop (mkF m 7 #[.val (.int x0), .val (.int x1), .val (.int x2), .val (.int x3), .val (.int x4), .val (.int x5), .unset, .unset, .unset, .unset, .unset, .unset, .unset, .unset, .unset, .unset] [(.int ((x0 &&& (2147483647 : Int32)) % (5 : Int32))), (.int (1 : Int32))]))
  refine own_st (fun t => XS.iadd (own_here Y0) hx rfl (hb hby at_7) rfl) ?_
  show own_Ends _ _ _ _ (T0.setTop (mkF m 8 #[.val (.int x0), .val (.int x1), .val (.int x2), .val (.int x3), .val (.int x4), .val (.int x5), .unset, .unset, .unset, .unset, .unset, .unset, .unset, .unset, .unset, .unset] [(.int ((1 : Int32) + ((x0 &&& (2147483647 : Int32)) % (5 : Int32))))]))
  refine own_st (fun t => XS.istore (own_here Y0) hx rfl (hb hby at_8) rfl (l' := #[.val (.int x0), .val (.int x1), .val (.int x2), .val (.int x3), .val (.int x4), .val (.int x5), .val (.int ((1 : Int32) + ((x0 &&& (2147483647 : Int32)) % (5 : Int32)))), .unset, .unset, .unset, .unset, .unset, .unset, .unset, .unset, .unset]) rfl) ?_
  show own_Ends _ _ _ _ (T0.setTop (mkF m 10 #[.val (.int x0), .val (.int x1), .val (.int x2), .val (.int x3), .val (.int x4), .val (.int x5), .val (.int ((1 : Int32) + ((x0 &&& (2147483647 : Int32)) % (5 : Int32)))), .unset, .unset, .unset, .unset, .unset, .unset, .unset, .unset, .unset] []))
  generalize ha : ((1 : Int32) + ((x0 &&& (2147483647 : Int32)) % (5 : Int32))) = a
  have ha5 : a = 1 ∨ a = 2 ∨ a = 3 ∨ a = 4 ∨ a = 5 := by
    have q := c_mask x0 2147483647 31 (by decide) (by decide)
    have r := (c_irem (x0 &&& 2147483647) 5 5 rfl).1 (by rw [q]; exact Int.emod_nonneg _ (by decide))
    have s1 := c_iadd 1 ((x0 &&& 2147483647) % 5)
    rw [ha] at s1
    have s2 := rng32 a
    have e1 : (1 : Int32).toInt = 1 := rfl
    have : a.toInt = 1 ∨ a.toInt = 2 ∨ a.toInt = 3 ∨ a.toInt = 4 ∨ a.toInt = 5 := by omega
    rcases this with h | h | h | h | h
    · exact Or.inl (own_eq.mpr h)
    · exact Or.inr (Or.inl (own_eq.mpr h))
    · exact Or.inr (Or.inr (Or.inl (own_eq.mpr h)))
    · exact Or.inr (Or.inr (Or.inr (Or.inl (own_eq.mpr h))))
    · exact Or.inr (Or.inr (Or.inr (Or.inr (own_eq.mpr h))))
  rcases ha5 with rfl | rfl | rfl | rfl | rfl
  ·
   show own_Ends _ _ _ _ (T0.setTop (mkF m 10 #[.val (.int x0), .val (.int x1), .val (.int x2), .val (.int x3), .val (.int x4), .val (.int x5), .val (.int (1 : Int32)), .unset, .unset, .unset, .unset, .unset, .unset, .unset, .unset, .unset] []))
   refine own_st (fun t => XS.iload (own_here Y0) hx rfl (hb hby at_10) rfl) ?_
   show own_Ends _ _ _ _ (T0.setTop (mkF m 12 #[.val (.int x0), .val (.int x1), .val (.int x2), .val (.int x3), .val (.int x4), .val (.int x5), .val (.int (1 : Int32)), .unset, .unset, .unset, .unset, .unset, .unset, .unset, .unset, .unset] [(.int (1 : Int32))]))
   refine own_newP Y0 hx hZ (hw _ (List.mem_of_getElem? (i := 1) rfl)) rfl (hb hby at_12) rfl (by decide) (nz := 1) (cap := 1) (by decide) (by decide) (by decide) (by decide) (by decide) (ty := .int) rfl (fun T61 h63 b66 eb67 Y62 E64 A65 => ?_)
   have g68 : n0 ≤ b66 := by rw [eb67]; exact Z0
   replace A65 : own_A Z h63 b66 .int [(.int (0 : Int32))] := A65
   show own_Ends _ _ _ _ (T61.setTop (mkF m 14 #[.val (.int x0), .val (.int x1), .val (.int x2), .val (.int x3), .val (.int x4), .val (.int x5), .val (.int (1 : Int32)), .unset, .unset, .unset, .unset, .unset, .unset, .unset, .unset, .unset] [(.ref b66)]))
   refine own_st (fun t => XS.astore (own_here Y62) hx rfl (hb hby at_14) rfl rfl (l' := #[.val (.int x0), .val (.int x1), .val (.int x2), .val (.int x3), .val (.int x4), .val (.int x5), .val (.int (1 : Int32)), .val (.ref b66), .unset, .unset, .unset, .unset, .unset, .unset, .unset, .unset]) rfl) ?_
   show own_Ends _ _ _ _ (T61.setTop (mkF m 16 #[.val (.int x0), .val (.int x1), .val (.int x2), .val (.int x3), .val (.int x4), .val (.int x5), .val (.int (1 : Int32)), .val (.ref b66), .unset, .unset, .unset, .unset, .unset, .unset, .unset, .unset] []))
   refine own_st (fun t => XS.aload (own_here Y62) hx rfl (hb hby at_16) rfl rfl) ?_
   show own_Ends _ _ _ _ (T61.setTop (mkF m 18 #[.val (.int x0), .val (.int x1), .val (.int x2), .val (.int x3), .val (.int x4), .val (.int x5), .val (.int (1 : Int32)), .val (.ref b66), .unset, .unset, .unset, .unset, .unset, .unset, .unset, .unset] [(.ref b66)]))
   refine own_st (fun t => XS.iconst (own_here Y62) hx rfl (hb hby at_18) ) ?_
   show own_Ends _ _ _ _ (T61.setTop (mkF m 19 #[.val (.int x0), .val (.int x1), .val (.int x2), .val (.int x3), .val (.int x4), .val (.int x5), .val (.int (1 : Int32)), .val (.ref b66), .unset, .unset, .unset, .unset, .unset, .unset, .unset, .unset] [(.int (0 : Int32)), (.ref b66)]))
   refine own_st (fun t => XS.iloadN (own_here Y62) hx rfl (hb hby at_19) rfl) ?_
   show own_Ends _ _ _ _ (T61.setTop (mkF m 20 #[.val (.int x0), .val (.int x1), .val (.int x2), .val (.int x3), .val (.int x4), .val (.int x5), .val (.int (1 : Int32)), .val (.ref b66), .unset, .unset, .unset, .unset, .unset, .unset, .unset, .unset] [(.int x1), (.int (0 : Int32)), (.ref b66)]))
   refine own_stI Y62 hx hZ A65 g68 (i := 0) (by decide) (by decide) (Nat.le_of_ble_eq_true rfl) rfl rfl (hb hby at_20) (fun T69 h71 Y70 W72 A73 => ?_)
   replace A73 : own_A Z h71 b66 .int [(.int x1)] := A73
   show own_Ends _ _ _ _ (T69.setTop (mkF m 21 #[.val (.int x0), .val (.int x1), .val (.int x2), .val (.int x3), .val (.int x4), .val (.int x5), .val (.int (1 : Int32)), .val (.ref b66), .unset, .unset, .unset, .unset, .unset, .unset, .unset, .unset] []))
   refine own_st (fun t => XS.iload (own_here Y70) hx rfl (hb hby at_21) rfl) ?_
   show own_Ends _ _ _ _ (T69.setTop (mkF m 23 #[.val (.int x0), .val (.int x1), .val (.int x2), .val (.int x3), .val (.int x4), .val (.int x5), .val (.int (1 : Int32)), .val (.ref b66), .unset, .unset, .unset, .unset, .unset, .unset, .unset, .unset] [(.int (1 : Int32))]))
   refine own_st (fun t => XS.iconst (own_here Y70) hx rfl (hb hby at_23) ) ?_
   show own_Ends _ _ _ _ (T69.setTop (mkF m 24 #[.val (.int x0), .val (.int x1), .val (.int x2), .val (.int x3), .val (.int x4), .val (.int x5), .val (.int (1 : Int32)), .val (.ref b66), .unset, .unset, .unset, .unset, .unset, .unset, .unset, .unset] [(.int (1 : Int32)), (.int (1 : Int32))]))
   refine own_st (fun t => XS.icmpYes (own_here Y70) hx rfl (pc0 := 24) (pc' := 32) rfl (hb hby at_24) rfl (XT.ii_le_t (by decide)) (by decide) (by decide)) ?_
   show own_Ends _ _ _ _ (T69.setTop (mkF m 32 #[.val (.int x0), .val (.int x1), .val (.int x2), .val (.int x3), .val (.int x4), .val (.int x5), .val (.int (1 : Int32)), .val (.ref b66), .unset, .unset, .unset, .unset, .unset, .unset, .unset, .unset] []))
   refine own_st (fun t => XS.iload (own_here Y70) hx rfl (hb hby at_32) rfl) ?_
   show own_Ends _ _ _ _ (T69.setTop (mkF m 34 #[.val (.int x0), .val (.int x1), .val (.int x2), .val (.int x3), .val (.int x4), .val (.int x5), .val (.int (1 : Int32)), .val (.ref b66), .unset, .unset, .unset, .unset, .unset, .unset, .unset, .unset] [(.int (1 : Int32))]))
   refine own_st (fun t => XS.iconst (own_here Y70) hx rfl (hb hby at_34) ) ?_
   show own_Ends _ _ _ _ (T69.setTop (mkF m 35 #[.val (.int x0), .val (.int x1), .val (.int x2), .val (.int x3), .val (.int x4), .val (.int x5), .val (.int (1 : Int32)), .val (.ref b66), .unset, .unset, .unset, .unset, .unset, .unset, .unset, .unset] [(.int (2 : Int32)), (.int (1 : Int32))]))
   refine own_st (fun t => XS.icmpYes (own_here Y70) hx rfl (pc0 := 35) (pc' := 43) rfl (hb hby at_35) rfl (XT.ii_le_t (by decide)) (by decide) (by decide)) ?_
   show own_Ends _ _ _ _ (T69.setTop (mkF m 43 #[.val (.int x0), .val (.int x1), .val (.int x2), .val (.int x3), .val (.int x4), .val (.int x5), .val (.int (1 : Int32)), .val (.ref b66), .unset, .unset, .unset, .unset, .unset, .unset, .unset, .unset] []))
   refine own_st (fun t => XS.iload (own_here Y70) hx rfl (hb hby at_43) rfl) ?_
   show own_Ends _ _ _ _ (T69.setTop (mkF m 45 #[.val (.int x0), .val (.int x1), .val (.int x2), .val (.int x3), .val (.int x4), .val (.int x5), .val (.int (1 : Int32)), .val (.ref b66), .unset, .unset, .unset, .unset, .unset, .unset, .unset, .unset] [(.int (1 : Int32))]))
   refine own_st (fun t => XS.iconst (own_here Y70) hx rfl (hb hby at_45) ) ?_
   show own_Ends _ _ _ _ (T69.setTop (mkF m 46 #[.val (.int x0), .val (.int x1), .val (.int x2), .val (.int x3), .val (.int x4), .val (.int x5), .val (.int (1 : Int32)), .val (.ref b66), .unset, .unset, .unset, .unset, .unset, .unset, .unset, .unset] [(.int (3 : Int32)), (.int (1 : Int32))]))
   refine own_st (fun t => XS.icmpYes (own_here Y70) hx rfl (pc0 := 46) (pc' := 55) rfl (hb hby at_46) rfl (XT.ii_le_t (by decide)) (by decide) (by decide)) ?_
   show own_Ends _ _ _ _ (T69.setTop (mkF m 55 #[.val (.int x0), .val (.int x1), .val (.int x2), .val (.int x3), .val (.int x4), .val (.int x5), .val (.int (1 : Int32)), .val (.ref b66), .unset, .unset, .unset, .unset, .unset, .unset, .unset, .unset] []))
   refine own_st (fun t => XS.iload (own_here Y70) hx rfl (hb hby at_55) rfl) ?_
   show own_Ends _ _ _ _ (T69.setTop (mkF m 57 #[.val (.int x0), .val (.int x1), .val (.int x2), .val (.int x3), .val (.int x4), .val (.int x5), .val (.int (1 : Int32)), .val (.ref b66), .unset, .unset, .unset, .unset, .unset, .unset, .unset, .unset] [(.int (1 : Int32))]))
   refine own_st (fun t => XS.iconst (own_here Y70) hx rfl (hb hby at_57) ) ?_
   show own_Ends _ _ _ _ (T69.setTop (mkF m 58 #[.val (.int x0), .val (.int x1), .val (.int x2), .val (.int x3), .val (.int x4), .val (.int x5), .val (.int (1 : Int32)), .val (.ref b66), .unset, .unset, .unset, .unset, .unset, .unset, .unset, .unset] [(.int (4 : Int32)), (.int (1 : Int32))]))
   refine own_st (fun t => XS.icmpYes (own_here Y70) hx rfl (pc0 := 58) (pc' := 67) rfl (hb hby at_58) rfl (XT.ii_le_t (by decide)) (by decide) (by decide)) ?_
   show own_Ends _ _ _ _ (T69.setTop (mkF m 67 #[.val (.int x0), .val (.int x1), .val (.int x2), .val (.int x3), .val (.int x4), .val (.int x5), .val (.int (1 : Int32)), .val (.ref b66), .unset, .unset, .unset, .unset, .unset, .unset, .unset, .unset] []))
   refine own_st (fun t => XS.iloadN (own_here Y70) hx rfl (hb hby at_67) rfl) ?_
   show own_Ends _ _ _ _ (T69.setTop (mkF m 68 #[.val (.int x0), .val (.int x1), .val (.int x2), .val (.int x3), .val (.int x4), .val (.int x5), .val (.int (1 : Int32)), .val (.ref b66), .unset, .unset, .unset, .unset, .unset, .unset, .unset, .unset] [(.int x1)]))
   refine own_st (fun t => XS.istore (own_here Y70) hx rfl (hb hby at_68) rfl (l' := #[.val (.int x0), .val (.int x1), .val (.int x2), .val (.int x3), .val (.int x4), .val (.int x5), .val (.int (1 : Int32)), .val (.ref b66), .val (.int x1), .unset, .unset, .unset, .unset, .unset, .unset, .unset]) rfl) ?_
   show own_Ends _ _ _ _ (T69.setTop (mkF m 70 #[.val (.int x0), .val (.int x1), .val (.int x2), .val (.int x3), .val (.int x4), .val (.int x5), .val (.int (1 : Int32)), .val (.ref b66), .val (.int x1), .unset, .unset, .unset, .unset, .unset, .unset, .unset] []))
   refine own_st (fun t => XS.iload (own_here Y70) hx rfl (hb hby at_70) rfl) ?_
   show own_Ends _ _ _ _ (T69.setTop (mkF m 72 #[.val (.int x0), .val (.int x1), .val (.int x2), .val (.int x3), .val (.int x4), .val (.int x5), .val (.int (1 : Int32)), .val (.ref b66), .val (.int x1), .unset, .unset, .unset, .unset, .unset, .unset, .unset] [(.int x1)]))
   refine own_st (fun t => XS.iloadN (own_here Y70) hx rfl (hb hby at_72) rfl) ?_
   show own_Ends _ _ _ _ (T69.setTop (mkF m 73 #[.val (.int x0), .val (.int x1), .val (.int x2), .val (.int x3), .val (.int x4), .val (.int x5), .val (.int (1 : Int32)), .val (.ref b66), .val (.int x1), .unset, .unset, .unset, .unset, .unset, .unset, .unset] [(.int x2), (.int x1)]))
   refine own_st (fun t => XS.iadd (own_here Y70) hx rfl (hb hby at_73) rfl) ?_
   show own_Ends _ _ _ _ (T69.setTop (mkF m 74 #[.val (.int x0), .val (.int x1), .val (.int x2), .val (.int x3), .val (.int x4), .val (.int x5), .val (.int (1 : Int32)), .val (.ref b66), .val (.int x1), .unset, .unset, .unset, .unset, .unset, .unset, .unset] [(.int (x1 + x2))]))
   refine own_st (fun t => XS.istore (own_here Y70) hx rfl (hb hby at_74) rfl (l' := #[.val (.int x0), .val (.int x1), .val (.int x2), .val (.int x3), .val (.int x4), .val (.int x5), .val (.int (1 : Int32)), .val (.ref b66), .val (.int x1), .val (.int (x1 + x2)), .unset, .unset, .unset, .unset, .unset, .unset]) rfl) ?_
   show own_Ends _ _ _ _ (T69.setTop (mkF m 76 #[.val (.int x0), .val (.int x1), .val (.int x2), .val (.int x3), .val (.int x4), .val (.int x5), .val (.int (1 : Int32)), .val (.ref b66), .val (.int x1), .val (.int (x1 + x2)), .unset, .unset, .unset, .unset, .unset, .unset] []))
   refine own_st (fun t => XS.iload (own_here Y70) hx rfl (hb hby at_76) rfl) ?_
   show own_Ends _ _ _ _ (T69.setTop (mkF m 78 #[.val (.int x0), .val (.int x1), .val (.int x2), .val (.int x3), .val (.int x4), .val (.int x5), .val (.int (1 : Int32)), .val (.ref b66), .val (.int x1), .val (.int (x1 + x2)), .unset, .unset, .unset, .unset, .unset, .unset] [(.int (x1 + x2))]))
   refine own_st (fun t => XS.iloadN (own_here Y70) hx rfl (hb hby at_78) rfl) ?_
   show own_Ends _ _ _ _ (T69.setTop (mkF m 79 #[.val (.int x0), .val (.int x1), .val (.int x2), .val (.int x3), .val (.int x4), .val (.int x5), .val (.int (1 : Int32)), .val (.ref b66), .val (.int x1), .val (.int (x1 + x2)), .unset, .unset, .unset, .unset, .unset, .unset] [(.int x3), (.int (x1 + x2))]))
   refine own_st (fun t => XS.iadd (own_here Y70) hx rfl (hb hby at_79) rfl) ?_
   show own_Ends _ _ _ _ (T69.setTop (mkF m 80 #[.val (.int x0), .val (.int x1), .val (.int x2), .val (.int x3), .val (.int x4), .val (.int x5), .val (.int (1 : Int32)), .val (.ref b66), .val (.int x1), .val (.int (x1 + x2)), .unset, .unset, .unset, .unset, .unset, .unset] [(.int ((x1 + x2) + x3))]))
   refine own_st (fun t => XS.istore (own_here Y70) hx rfl (hb hby at_80) rfl (l' := #[.val (.int x0), .val (.int x1), .val (.int x2), .val (.int x3), .val (.int x4), .val (.int x5), .val (.int (1 : Int32)), .val (.ref b66), .val (.int x1), .val (.int (x1 + x2)), .val (.int ((x1 + x2) + x3)), .unset, .unset, .unset, .unset, .unset]) rfl) ?_
   show own_Ends _ _ _ _ (T69.setTop (mkF m 82 #[.val (.int x0), .val (.int x1), .val (.int x2), .val (.int x3), .val (.int x4), .val (.int x5), .val (.int (1 : Int32)), .val (.ref b66), .val (.int x1), .val (.int (x1 + x2)), .val (.int ((x1 + x2) + x3)), .unset, .unset, .unset, .unset, .unset] []))
   refine own_st (fun t => XS.iload (own_here Y70) hx rfl (hb hby at_82) rfl) ?_
   show own_Ends _ _ _ _ (T69.setTop (mkF m 84 #[.val (.int x0), .val (.int x1), .val (.int x2), .val (.int x3), .val (.int x4), .val (.int x5), .val (.int (1 : Int32)), .val (.ref b66), .val (.int x1), .val (.int (x1 + x2)), .val (.int ((x1 + x2) + x3)), .unset, .unset, .unset, .unset, .unset] [(.int ((x1 + x2) + x3))]))
   refine own_st (fun t => XS.iload (own_here Y70) hx rfl (hb hby at_84) rfl) ?_
   show own_Ends _ _ _ _ (T69.setTop (mkF m 86 #[.val (.int x0), .val (.int x1), .val (.int x2), .val (.int x3), .val (.int x4), .val (.int x5), .val (.int (1 : Int32)), .val (.ref b66), .val (.int x1), .val (.int (x1 + x2)), .val (.int ((x1 + x2) + x3)), .unset, .unset, .unset, .unset, .unset] [(.int x4), (.int ((x1 + x2) + x3))]))
   refine own_st (fun t => XS.iadd (own_here Y70) hx rfl (hb hby at_86) rfl) ?_
   show own_Ends _ _ _ _ (T69.setTop (mkF m 87 #[.val (.int x0), .val (.int x1), .val (.int x2), .val (.int x3), .val (.int x4), .val (.int x5), .val (.int (1 : Int32)), .val (.ref b66), .val (.int x1), .val (.int (x1 + x2)), .val (.int ((x1 + x2) + x3)), .unset, .unset, .unset, .unset, .unset] [(.int (((x1 + x2) + x3) + x4))]))
   refine own_st (fun t => XS.istore (own_here Y70) hx rfl (hb hby at_87) rfl (l' := #[.val (.int x0), .val (.int x1), .val (.int x2), .val (.int x3), .val (.int x4), .val (.int x5), .val (.int (1 : Int32)), .val (.ref b66), .val (.int x1), .val (.int (x1 + x2)), .val (.int ((x1 + x2) + x3)), .val (.int (((x1 + x2) + x3) + x4)), .unset, .unset, .unset, .unset]) rfl) ?_
   show own_Ends _ _ _ _ (T69.setTop (mkF m 89 #[.val (.int x0), .val (.int x1), .val (.int x2), .val (.int x3), .val (.int x4), .val (.int x5), .val (.int (1 : Int32)), .val (.ref b66), .val (.int x1), .val (.int (x1 + x2)), .val (.int ((x1 + x2) + x3)), .val (.int (((x1 + x2) + x3) + x4)), .unset, .unset, .unset, .unset] []))
   refine own_st (fun t => XS.iload (own_here Y70) hx rfl (hb hby at_89) rfl) ?_
   show own_Ends _ _ _ _ (T69.setTop (mkF m 91 #[.val (.int x0), .val (.int x1), .val (.int x2), .val (.int x3), .val (.int x4), .val (.int x5), .val (.int (1 : Int32)), .val (.ref b66), .val (.int x1), .val (.int (x1 + x2)), .val (.int ((x1 + x2) + x3)), .val (.int (((x1 + x2) + x3) + x4)), .unset, .unset, .unset, .unset] [(.int (((x1 + x2) + x3) + x4))]))
   refine own_st (fun t => XS.iload (own_here Y70) hx rfl (hb hby at_91) rfl) ?_
   show own_Ends _ _ _ _ (T69.setTop (mkF m 93 #[.val (.int x0), .val (.int x1), .val (.int x2), .val (.int x3), .val (.int x4), .val (.int x5), .val (.int (1 : Int32)), .val (.ref b66), .val (.int x1), .val (.int (x1 + x2)), .val (.int ((x1 + x2) + x3)), .val (.int (((x1 + x2) + x3) + x4)), .unset, .unset, .unset, .unset] [(.int x5), (.int (((x1 + x2) + x3) + x4))]))
   refine own_st (fun t => XS.iadd (own_here Y70) hx rfl (hb hby at_93) rfl) ?_
   show own_Ends _ _ _ _ (T69.setTop (mkF m 94 #[.val (.int x0), .val (.int x1), .val (.int x2), .val (.int x3), .val (.int x4), .val (.int x5), .val (.int (1 : Int32)), .val (.ref b66), .val (.int x1), .val (.int (x1 + x2)), .val (.int ((x1 + x2) + x3)), .val (.int (((x1 + x2) + x3) + x4)), .unset, .unset, .unset, .unset] [(.int ((((x1 + x2) + x3) + x4) + x5))]))
   refine own_st (fun t => XS.istore (own_here Y70) hx rfl (hb hby at_94) rfl (l' := #[.val (.int x0), .val (.int x1), .val (.int x2), .val (.int x3), .val (.int x4), .val (.int x5), .val (.int (1 : Int32)), .val (.ref b66), .val (.int x1), .val (.int (x1 + x2)), .val (.int ((x1 + x2) + x3)), .val (.int (((x1 + x2) + x3) + x4)), .val (.int ((((x1 + x2) + x3) + x4) + x5)), .unset, .unset, .unset]) rfl) ?_
   show own_Ends _ _ _ _ (T69.setTop (mkF m 96 #[.val (.int x0), .val (.int x1), .val (.int x2), .val (.int x3), .val (.int x4), .val (.int x5), .val (.int (1 : Int32)), .val (.ref b66), .val (.int x1), .val (.int (x1 + x2)), .val (.int ((x1 + x2) + x3)), .val (.int (((x1 + x2) + x3) + x4)), .val (.int ((((x1 + x2) + x3) + x4) + x5)), .unset, .unset, .unset] []))
   refine own_st (fun t => XS.aload (own_here Y70) hx rfl (hb hby at_96) rfl rfl) ?_
   show own_Ends _ _ _ _ (T69.setTop (mkF m 98 #[.val (.int x0), .val (.int x1), .val (.int x2), .val (.int x3), .val (.int x4), .val (.int x5), .val (.int (1 : Int32)), .val (.ref b66), .val (.int x1), .val (.int (x1 + x2)), .val (.int ((x1 + x2) + x3)), .val (.int (((x1 + x2) + x3) + x4)), .val (.int ((((x1 + x2) + x3) + x4) + x5)), .unset, .unset, .unset] [(.ref b66)]))
   refine own_callS Y70 hx hZ (y := (⟨"com/example/tierpath/tierpath/Hierarchy", "prefixSums", "([I)I"⟩ : MethodName)) hown (hw _ (List.mem_of_getElem? (i := 2) rfl)) (hw _ (List.mem_of_getElem? (i := 3) rfl)) (hw _ (List.mem_of_getElem? (i := 4) rfl)) (hw _ (List.mem_of_getElem? (i := 5) rfl)) (by decide) (argsL := [(.ref b66)]) (rest := []) (own_rm1_1 l Z a0 hw [] b66 x1 h71 n0  A73 g68) (W := 0) (by decide) (by decide) (by decide) (by decide) rfl (by rw [hml]; rfl) (lenOf own_pd0 rfl) rfl (by show 2 * 0 + _ ≤ _; exact Nat.le_of_eq rfl) (hb hby at_98) (fun T74 h76 v77 Y75 q78 => ?_)
   obtain ⟨rfl, K79, F80⟩ := q78
   show own_Ends _ _ _ _ (T74.setTop (mkF m 101 #[.val (.int x0), .val (.int x1), .val (.int x2), .val (.int x3), .val (.int x4), .val (.int x5), .val (.int (1 : Int32)), .val (.ref b66), .val (.int x1), .val (.int (x1 + x2)), .val (.int ((x1 + x2) + x3)), .val (.int (((x1 + x2) + x3) + x4)), .val (.int ((((x1 + x2) + x3) + x4) + x5)), .unset, .unset, .unset] [(.int x1)]))
   refine own_st (fun t => XS.istore (own_here Y75) hx rfl (hb hby at_101) rfl (l' := #[.val (.int x0), .val (.int x1), .val (.int x2), .val (.int x3), .val (.int x4), .val (.int x5), .val (.int (1 : Int32)), .val (.ref b66), .val (.int x1), .val (.int (x1 + x2)), .val (.int ((x1 + x2) + x3)), .val (.int (((x1 + x2) + x3) + x4)), .val (.int ((((x1 + x2) + x3) + x4) + x5)), .val (.int x1), .unset, .unset]) rfl) ?_
   show own_Ends _ _ _ _ (T74.setTop (mkF m 103 #[.val (.int x0), .val (.int x1), .val (.int x2), .val (.int x3), .val (.int x4), .val (.int x5), .val (.int (1 : Int32)), .val (.ref b66), .val (.int x1), .val (.int (x1 + x2)), .val (.int ((x1 + x2) + x3)), .val (.int (((x1 + x2) + x3) + x4)), .val (.int ((((x1 + x2) + x3) + x4) + x5)), .val (.int x1), .unset, .unset] []))
   refine own_st (fun t => XS.aload (own_here Y75) hx rfl (hb hby at_103) rfl rfl) ?_
   show own_Ends _ _ _ _ (T74.setTop (mkF m 105 #[.val (.int x0), .val (.int x1), .val (.int x2), .val (.int x3), .val (.int x4), .val (.int x5), .val (.int (1 : Int32)), .val (.ref b66), .val (.int x1), .val (.int (x1 + x2)), .val (.int ((x1 + x2) + x3)), .val (.int (((x1 + x2) + x3) + x4)), .val (.int ((((x1 + x2) + x3) + x4) + x5)), .val (.int x1), .unset, .unset] [(.ref b66)]))
   refine own_len Y75 hx hZ F80 (z := (1 : Int32)) rfl rfl rfl (hb hby at_105) ?_
   show own_Ends _ _ _ _ (T74.setTop (mkF m 106 #[.val (.int x0), .val (.int x1), .val (.int x2), .val (.int x3), .val (.int x4), .val (.int x5), .val (.int (1 : Int32)), .val (.ref b66), .val (.int x1), .val (.int (x1 + x2)), .val (.int ((x1 + x2) + x3)), .val (.int (((x1 + x2) + x3) + x4)), .val (.int ((((x1 + x2) + x3) + x4) + x5)), .val (.int x1), .unset, .unset] [(.int (1 : Int32))]))
   refine own_st (fun t => XS.iload (own_here Y75) hx rfl (hb hby at_106) rfl) ?_
   show own_Ends _ _ _ _ (T74.setTop (mkF m 108 #[.val (.int x0), .val (.int x1), .val (.int x2), .val (.int x3), .val (.int x4), .val (.int x5), .val (.int (1 : Int32)), .val (.ref b66), .val (.int x1), .val (.int (x1 + x2)), .val (.int ((x1 + x2) + x3)), .val (.int (((x1 + x2) + x3) + x4)), .val (.int ((((x1 + x2) + x3) + x4) + x5)), .val (.int x1), .unset, .unset] [(.int (1 : Int32)), (.int (1 : Int32))]))
   refine own_st (fun t => XS.icmpNo (own_here Y75) hx rfl (hb hby at_108) rfl (XT.ii_ne_f (by decide))) ?_
   show own_Ends _ _ _ _ (T74.setTop (mkF m 111 #[.val (.int x0), .val (.int x1), .val (.int x2), .val (.int x3), .val (.int x4), .val (.int x5), .val (.int (1 : Int32)), .val (.ref b66), .val (.int x1), .val (.int (x1 + x2)), .val (.int ((x1 + x2) + x3)), .val (.int (((x1 + x2) + x3) + x4)), .val (.int ((((x1 + x2) + x3) + x4) + x5)), .val (.int x1), .unset, .unset] []))
   refine own_st (fun t => XS.aload (own_here Y75) hx rfl (hb hby at_111) rfl rfl) ?_
   show own_Ends _ _ _ _ (T74.setTop (mkF m 113 #[.val (.int x0), .val (.int x1), .val (.int x2), .val (.int x3), .val (.int x4), .val (.int x5), .val (.int (1 : Int32)), .val (.ref b66), .val (.int x1), .val (.int (x1 + x2)), .val (.int ((x1 + x2) + x3)), .val (.int (((x1 + x2) + x3) + x4)), .val (.int ((((x1 + x2) + x3) + x4) + x5)), .val (.int x1), .unset, .unset] [(.ref b66)]))
   refine own_st (fun t => XS.iconst (own_here Y75) hx rfl (hb hby at_113) ) ?_
   show own_Ends _ _ _ _ (T74.setTop (mkF m 114 #[.val (.int x0), .val (.int x1), .val (.int x2), .val (.int x3), .val (.int x4), .val (.int x5), .val (.int (1 : Int32)), .val (.ref b66), .val (.int x1), .val (.int (x1 + x2)), .val (.int ((x1 + x2) + x3)), .val (.int (((x1 + x2) + x3) + x4)), .val (.int ((((x1 + x2) + x3) + x4) + x5)), .val (.int x1), .unset, .unset] [(.int (0 : Int32)), (.ref b66)]))
   refine own_ldI Y75 hx hZ F80 (i := 0) (by decide) (by decide) (Nat.le_of_ble_eq_true rfl) (v := (.int x1)) rfl rfl rfl (hb hby at_114) ?_
   show own_Ends _ _ _ _ (T74.setTop (mkF m 115 #[.val (.int x0), .val (.int x1), .val (.int x2), .val (.int x3), .val (.int x4), .val (.int x5), .val (.int (1 : Int32)), .val (.ref b66), .val (.int x1), .val (.int (x1 + x2)), .val (.int ((x1 + x2) + x3)), .val (.int (((x1 + x2) + x3) + x4)), .val (.int ((((x1 + x2) + x3) + x4) + x5)), .val (.int x1), .unset, .unset] [(.int x1)]))
   refine own_st (fun t => XS.iload (own_here Y75) hx rfl (hb hby at_115) rfl) ?_
   show own_Ends _ _ _ _ (T74.setTop (mkF m 117 #[.val (.int x0), .val (.int x1), .val (.int x2), .val (.int x3), .val (.int x4), .val (.int x5), .val (.int (1 : Int32)), .val (.ref b66), .val (.int x1), .val (.int (x1 + x2)), .val (.int ((x1 + x2) + x3)), .val (.int (((x1 + x2) + x3) + x4)), .val (.int ((((x1 + x2) + x3) + x4) + x5)), .val (.int x1), .unset, .unset] [(.int x1), (.int x1)]))
   refine own_st (fun t => XS.icmpNo (own_here Y75) hx rfl (hb hby at_117) rfl (XT.ii_ne_f (by first | rfl | ac_rfl | simp only [Int32.add_comm, Int32.add_left_comm, Int32.add_assoc]))) ?_
   show own_Ends _ _ _ _ (T74.setTop (mkF m 120 #[.val (.int x0), .val (.int x1), .val (.int x2), .val (.int x3), .val (.int x4), .val (.int x5), .val (.int (1 : Int32)), .val (.ref b66), .val (.int x1), .val (.int (x1 + x2)), .val (.int ((x1 + x2) + x3)), .val (.int (((x1 + x2) + x3) + x4)), .val (.int ((((x1 + x2) + x3) + x4) + x5)), .val (.int x1), .unset, .unset] []))
   refine own_st (fun t => XS.iconst (own_here Y75) hx rfl (hb hby at_120) ) ?_
   show own_Ends _ _ _ _ (T74.setTop (mkF m 121 #[.val (.int x0), .val (.int x1), .val (.int x2), .val (.int x3), .val (.int x4), .val (.int x5), .val (.int (1 : Int32)), .val (.ref b66), .val (.int x1), .val (.int (x1 + x2)), .val (.int ((x1 + x2) + x3)), .val (.int (((x1 + x2) + x3) + x4)), .val (.int ((((x1 + x2) + x3) + x4) + x5)), .val (.int x1), .unset, .unset] [(.int (1 : Int32))]))
   refine own_st (fun t => XS.goto (own_here Y75) hx rfl (pc0 := 121) (pc' := 125) rfl (hb hby at_121) (by decide) (by decide)) ?_
   show own_Ends _ _ _ _ (T74.setTop (mkF m 125 #[.val (.int x0), .val (.int x1), .val (.int x2), .val (.int x3), .val (.int x4), .val (.int x5), .val (.int (1 : Int32)), .val (.ref b66), .val (.int x1), .val (.int (x1 + x2)), .val (.int ((x1 + x2) + x3)), .val (.int (((x1 + x2) + x3) + x4)), .val (.int ((((x1 + x2) + x3) + x4) + x5)), .val (.int x1), .unset, .unset] [(.int (1 : Int32))]))
   refine own_st (fun t => XS.istore (own_here Y75) hx rfl (hb hby at_125) rfl (l' := #[.val (.int x0), .val (.int x1), .val (.int x2), .val (.int x3), .val (.int x4), .val (.int x5), .val (.int (1 : Int32)), .val (.ref b66), .val (.int x1), .val (.int (x1 + x2)), .val (.int ((x1 + x2) + x3)), .val (.int (((x1 + x2) + x3) + x4)), .val (.int ((((x1 + x2) + x3) + x4) + x5)), .val (.int x1), .val (.int (1 : Int32)), .unset]) rfl) ?_
   show own_Ends _ _ _ _ (T74.setTop (mkF m 127 #[.val (.int x0), .val (.int x1), .val (.int x2), .val (.int x3), .val (.int x4), .val (.int x5), .val (.int (1 : Int32)), .val (.ref b66), .val (.int x1), .val (.int (x1 + x2)), .val (.int ((x1 + x2) + x3)), .val (.int (((x1 + x2) + x3) + x4)), .val (.int ((((x1 + x2) + x3) + x4) + x5)), .val (.int x1), .val (.int (1 : Int32)), .unset] []))
   refine own_st (fun t => XS.iload (own_here Y75) hx rfl (hb hby at_127) rfl) ?_
   show own_Ends _ _ _ _ (T74.setTop (mkF m 129 #[.val (.int x0), .val (.int x1), .val (.int x2), .val (.int x3), .val (.int x4), .val (.int x5), .val (.int (1 : Int32)), .val (.ref b66), .val (.int x1), .val (.int (x1 + x2)), .val (.int ((x1 + x2) + x3)), .val (.int (((x1 + x2) + x3) + x4)), .val (.int ((((x1 + x2) + x3) + x4) + x5)), .val (.int x1), .val (.int (1 : Int32)), .unset] [(.int (1 : Int32))]))
   refine own_st (fun t => XS.iconst (own_here Y75) hx rfl (hb hby at_129) ) ?_
   show own_Ends _ _ _ _ (T74.setTop (mkF m 130 #[.val (.int x0), .val (.int x1), .val (.int x2), .val (.int x3), .val (.int x4), .val (.int x5), .val (.int (1 : Int32)), .val (.ref b66), .val (.int x1), .val (.int (x1 + x2)), .val (.int ((x1 + x2) + x3)), .val (.int (((x1 + x2) + x3) + x4)), .val (.int ((((x1 + x2) + x3) + x4) + x5)), .val (.int x1), .val (.int (1 : Int32)), .unset] [(.int (1 : Int32)), (.int (1 : Int32))]))
   refine own_st (fun t => XS.icmpYes (own_here Y75) hx rfl (pc0 := 130) (pc' := 154) rfl (hb hby at_130) rfl (XT.ii_le_t (by decide)) (by decide) (by decide)) ?_
   show own_Ends _ _ _ _ (T74.setTop (mkF m 154 #[.val (.int x0), .val (.int x1), .val (.int x2), .val (.int x3), .val (.int x4), .val (.int x5), .val (.int (1 : Int32)), .val (.ref b66), .val (.int x1), .val (.int (x1 + x2)), .val (.int ((x1 + x2) + x3)), .val (.int (((x1 + x2) + x3) + x4)), .val (.int ((((x1 + x2) + x3) + x4) + x5)), .val (.int x1), .val (.int (1 : Int32)), .unset] []))
   refine own_st (fun t => XS.iload (own_here Y75) hx rfl (hb hby at_154) rfl) ?_
   show own_Ends _ _ _ _ (T74.setTop (mkF m 156 #[.val (.int x0), .val (.int x1), .val (.int x2), .val (.int x3), .val (.int x4), .val (.int x5), .val (.int (1 : Int32)), .val (.ref b66), .val (.int x1), .val (.int (x1 + x2)), .val (.int ((x1 + x2) + x3)), .val (.int (((x1 + x2) + x3) + x4)), .val (.int ((((x1 + x2) + x3) + x4) + x5)), .val (.int x1), .val (.int (1 : Int32)), .unset] [(.int (1 : Int32))]))
   refine own_st (fun t => XS.iconst (own_here Y75) hx rfl (hb hby at_156) ) ?_
   show own_Ends _ _ _ _ (T74.setTop (mkF m 157 #[.val (.int x0), .val (.int x1), .val (.int x2), .val (.int x3), .val (.int x4), .val (.int x5), .val (.int (1 : Int32)), .val (.ref b66), .val (.int x1), .val (.int (x1 + x2)), .val (.int ((x1 + x2) + x3)), .val (.int (((x1 + x2) + x3) + x4)), .val (.int ((((x1 + x2) + x3) + x4) + x5)), .val (.int x1), .val (.int (1 : Int32)), .unset] [(.int (2 : Int32)), (.int (1 : Int32))]))
   refine own_st (fun t => XS.icmpYes (own_here Y75) hx rfl (pc0 := 157) (pc' := 181) rfl (hb hby at_157) rfl (XT.ii_le_t (by decide)) (by decide) (by decide)) ?_
   show own_Ends _ _ _ _ (T74.setTop (mkF m 181 #[.val (.int x0), .val (.int x1), .val (.int x2), .val (.int x3), .val (.int x4), .val (.int x5), .val (.int (1 : Int32)), .val (.ref b66), .val (.int x1), .val (.int (x1 + x2)), .val (.int ((x1 + x2) + x3)), .val (.int (((x1 + x2) + x3) + x4)), .val (.int ((((x1 + x2) + x3) + x4) + x5)), .val (.int x1), .val (.int (1 : Int32)), .unset] []))
   refine own_st (fun t => XS.iload (own_here Y75) hx rfl (hb hby at_181) rfl) ?_
   show own_Ends _ _ _ _ (T74.setTop (mkF m 183 #[.val (.int x0), .val (.int x1), .val (.int x2), .val (.int x3), .val (.int x4), .val (.int x5), .val (.int (1 : Int32)), .val (.ref b66), .val (.int x1), .val (.int (x1 + x2)), .val (.int ((x1 + x2) + x3)), .val (.int (((x1 + x2) + x3) + x4)), .val (.int ((((x1 + x2) + x3) + x4) + x5)), .val (.int x1), .val (.int (1 : Int32)), .unset] [(.int (1 : Int32))]))
   refine own_st (fun t => XS.iconst (own_here Y75) hx rfl (hb hby at_183) ) ?_
   show own_Ends _ _ _ _ (T74.setTop (mkF m 184 #[.val (.int x0), .val (.int x1), .val (.int x2), .val (.int x3), .val (.int x4), .val (.int x5), .val (.int (1 : Int32)), .val (.ref b66), .val (.int x1), .val (.int (x1 + x2)), .val (.int ((x1 + x2) + x3)), .val (.int (((x1 + x2) + x3) + x4)), .val (.int ((((x1 + x2) + x3) + x4) + x5)), .val (.int x1), .val (.int (1 : Int32)), .unset] [(.int (3 : Int32)), (.int (1 : Int32))]))
   refine own_st (fun t => XS.icmpYes (own_here Y75) hx rfl (pc0 := 184) (pc' := 208) rfl (hb hby at_184) rfl (XT.ii_le_t (by decide)) (by decide) (by decide)) ?_
   show own_Ends _ _ _ _ (T74.setTop (mkF m 208 #[.val (.int x0), .val (.int x1), .val (.int x2), .val (.int x3), .val (.int x4), .val (.int x5), .val (.int (1 : Int32)), .val (.ref b66), .val (.int x1), .val (.int (x1 + x2)), .val (.int ((x1 + x2) + x3)), .val (.int (((x1 + x2) + x3) + x4)), .val (.int ((((x1 + x2) + x3) + x4) + x5)), .val (.int x1), .val (.int (1 : Int32)), .unset] []))
   refine own_st (fun t => XS.iload (own_here Y75) hx rfl (hb hby at_208) rfl) ?_
   show own_Ends _ _ _ _ (T74.setTop (mkF m 210 #[.val (.int x0), .val (.int x1), .val (.int x2), .val (.int x3), .val (.int x4), .val (.int x5), .val (.int (1 : Int32)), .val (.ref b66), .val (.int x1), .val (.int (x1 + x2)), .val (.int ((x1 + x2) + x3)), .val (.int (((x1 + x2) + x3) + x4)), .val (.int ((((x1 + x2) + x3) + x4) + x5)), .val (.int x1), .val (.int (1 : Int32)), .unset] [(.int (1 : Int32))]))
   refine own_st (fun t => XS.iconst (own_here Y75) hx rfl (hb hby at_210) ) ?_
   show own_Ends _ _ _ _ (T74.setTop (mkF m 211 #[.val (.int x0), .val (.int x1), .val (.int x2), .val (.int x3), .val (.int x4), .val (.int x5), .val (.int (1 : Int32)), .val (.ref b66), .val (.int x1), .val (.int (x1 + x2)), .val (.int ((x1 + x2) + x3)), .val (.int (((x1 + x2) + x3) + x4)), .val (.int ((((x1 + x2) + x3) + x4) + x5)), .val (.int x1), .val (.int (1 : Int32)), .unset] [(.int (4 : Int32)), (.int (1 : Int32))]))
   refine own_st (fun t => XS.icmpYes (own_here Y75) hx rfl (pc0 := 211) (pc' := 235) rfl (hb hby at_211) rfl (XT.ii_le_t (by decide)) (by decide) (by decide)) ?_
   show own_Ends _ _ _ _ (T74.setTop (mkF m 235 #[.val (.int x0), .val (.int x1), .val (.int x2), .val (.int x3), .val (.int x4), .val (.int x5), .val (.int (1 : Int32)), .val (.ref b66), .val (.int x1), .val (.int (x1 + x2)), .val (.int ((x1 + x2) + x3)), .val (.int (((x1 + x2) + x3) + x4)), .val (.int ((((x1 + x2) + x3) + x4) + x5)), .val (.int x1), .val (.int (1 : Int32)), .unset] []))
   refine own_st (fun t => XS.iload (own_here Y75) hx rfl (hb hby at_235) rfl) ?_
   show own_Ends _ _ _ _ (T74.setTop (mkF m 237 #[.val (.int x0), .val (.int x1), .val (.int x2), .val (.int x3), .val (.int x4), .val (.int x5), .val (.int (1 : Int32)), .val (.ref b66), .val (.int x1), .val (.int (x1 + x2)), .val (.int ((x1 + x2) + x3)), .val (.int (((x1 + x2) + x3) + x4)), .val (.int ((((x1 + x2) + x3) + x4) + x5)), .val (.int x1), .val (.int (1 : Int32)), .unset] [(.int x1)]))
   refine own_st (fun t => XS.istore (own_here Y75) hx rfl (hb hby at_237) rfl (l' := #[.val (.int x0), .val (.int x1), .val (.int x2), .val (.int x3), .val (.int x4), .val (.int x5), .val (.int (1 : Int32)), .val (.ref b66), .val (.int x1), .val (.int (x1 + x2)), .val (.int ((x1 + x2) + x3)), .val (.int (((x1 + x2) + x3) + x4)), .val (.int ((((x1 + x2) + x3) + x4) + x5)), .val (.int x1), .val (.int (1 : Int32)), .val (.int x1)]) rfl) ?_
   show own_Ends _ _ _ _ (T74.setTop (mkF m 239 #[.val (.int x0), .val (.int x1), .val (.int x2), .val (.int x3), .val (.int x4), .val (.int x5), .val (.int (1 : Int32)), .val (.ref b66), .val (.int x1), .val (.int (x1 + x2)), .val (.int ((x1 + x2) + x3)), .val (.int (((x1 + x2) + x3) + x4)), .val (.int ((((x1 + x2) + x3) + x4) + x5)), .val (.int x1), .val (.int (1 : Int32)), .val (.int x1)] []))
   refine own_st (fun t => XS.iload (own_here Y75) hx rfl (hb hby at_239) rfl) ?_
   show own_Ends _ _ _ _ (T74.setTop (mkF m 241 #[.val (.int x0), .val (.int x1), .val (.int x2), .val (.int x3), .val (.int x4), .val (.int x5), .val (.int (1 : Int32)), .val (.ref b66), .val (.int x1), .val (.int (x1 + x2)), .val (.int ((x1 + x2) + x3)), .val (.int (((x1 + x2) + x3) + x4)), .val (.int ((((x1 + x2) + x3) + x4) + x5)), .val (.int x1), .val (.int (1 : Int32)), .val (.int x1)] [(.int (1 : Int32))]))
   refine own_st (fun t => XS.iconst (own_here Y75) hx rfl (hb hby at_241) ) ?_
   show own_Ends _ _ _ _ (T74.setTop (mkF m 242 #[.val (.int x0), .val (.int x1), .val (.int x2), .val (.int x3), .val (.int x4), .val (.int x5), .val (.int (1 : Int32)), .val (.ref b66), .val (.int x1), .val (.int (x1 + x2)), .val (.int ((x1 + x2) + x3)), .val (.int (((x1 + x2) + x3) + x4)), .val (.int ((((x1 + x2) + x3) + x4) + x5)), .val (.int x1), .val (.int (1 : Int32)), .val (.int x1)] [(.int (2 : Int32)), (.int (1 : Int32))]))
   refine own_st (fun t => XS.icmpYes (own_here Y75) hx rfl (pc0 := 242) (pc' := 252) rfl (hb hby at_242) rfl (XT.ii_ne_t (by decide)) (by decide) (by decide)) ?_
   show own_Ends _ _ _ _ (T74.setTop (mkF m 252 #[.val (.int x0), .val (.int x1), .val (.int x2), .val (.int x3), .val (.int x4), .val (.int x5), .val (.int (1 : Int32)), .val (.ref b66), .val (.int x1), .val (.int (x1 + x2)), .val (.int ((x1 + x2) + x3)), .val (.int (((x1 + x2) + x3) + x4)), .val (.int ((((x1 + x2) + x3) + x4) + x5)), .val (.int x1), .val (.int (1 : Int32)), .val (.int x1)] []))
   refine own_st (fun t => XS.iload (own_here Y75) hx rfl (hb hby at_252) rfl) ?_
   show own_Ends _ _ _ _ (T74.setTop (mkF m 254 #[.val (.int x0), .val (.int x1), .val (.int x2), .val (.int x3), .val (.int x4), .val (.int x5), .val (.int (1 : Int32)), .val (.ref b66), .val (.int x1), .val (.int (x1 + x2)), .val (.int ((x1 + x2) + x3)), .val (.int (((x1 + x2) + x3) + x4)), .val (.int ((((x1 + x2) + x3) + x4) + x5)), .val (.int x1), .val (.int (1 : Int32)), .val (.int x1)] [(.int (1 : Int32))]))
   refine own_st (fun t => XS.iconst (own_here Y75) hx rfl (hb hby at_254) ) ?_
   show own_Ends _ _ _ _ (T74.setTop (mkF m 255 #[.val (.int x0), .val (.int x1), .val (.int x2), .val (.int x3), .val (.int x4), .val (.int x5), .val (.int (1 : Int32)), .val (.ref b66), .val (.int x1), .val (.int (x1 + x2)), .val (.int ((x1 + x2) + x3)), .val (.int (((x1 + x2) + x3) + x4)), .val (.int ((((x1 + x2) + x3) + x4) + x5)), .val (.int x1), .val (.int (1 : Int32)), .val (.int x1)] [(.int (3 : Int32)), (.int (1 : Int32))]))
   refine own_st (fun t => XS.icmpYes (own_here Y75) hx rfl (pc0 := 255) (pc' := 265) rfl (hb hby at_255) rfl (XT.ii_ne_t (by decide)) (by decide) (by decide)) ?_
   show own_Ends _ _ _ _ (T74.setTop (mkF m 265 #[.val (.int x0), .val (.int x1), .val (.int x2), .val (.int x3), .val (.int x4), .val (.int x5), .val (.int (1 : Int32)), .val (.ref b66), .val (.int x1), .val (.int (x1 + x2)), .val (.int ((x1 + x2) + x3)), .val (.int (((x1 + x2) + x3) + x4)), .val (.int ((((x1 + x2) + x3) + x4) + x5)), .val (.int x1), .val (.int (1 : Int32)), .val (.int x1)] []))
   refine own_st (fun t => XS.iload (own_here Y75) hx rfl (hb hby at_265) rfl) ?_
   show own_Ends _ _ _ _ (T74.setTop (mkF m 267 #[.val (.int x0), .val (.int x1), .val (.int x2), .val (.int x3), .val (.int x4), .val (.int x5), .val (.int (1 : Int32)), .val (.ref b66), .val (.int x1), .val (.int (x1 + x2)), .val (.int ((x1 + x2) + x3)), .val (.int (((x1 + x2) + x3) + x4)), .val (.int ((((x1 + x2) + x3) + x4) + x5)), .val (.int x1), .val (.int (1 : Int32)), .val (.int x1)] [(.int (1 : Int32))]))
   refine own_st (fun t => XS.iconst (own_here Y75) hx rfl (hb hby at_267) ) ?_
   show own_Ends _ _ _ _ (T74.setTop (mkF m 268 #[.val (.int x0), .val (.int x1), .val (.int x2), .val (.int x3), .val (.int x4), .val (.int x5), .val (.int (1 : Int32)), .val (.ref b66), .val (.int x1), .val (.int (x1 + x2)), .val (.int ((x1 + x2) + x3)), .val (.int (((x1 + x2) + x3) + x4)), .val (.int ((((x1 + x2) + x3) + x4) + x5)), .val (.int x1), .val (.int (1 : Int32)), .val (.int x1)] [(.int (4 : Int32)), (.int (1 : Int32))]))
   refine own_st (fun t => XS.icmpYes (own_here Y75) hx rfl (pc0 := 268) (pc' := 278) rfl (hb hby at_268) rfl (XT.ii_ne_t (by decide)) (by decide) (by decide)) ?_
   show own_Ends _ _ _ _ (T74.setTop (mkF m 278 #[.val (.int x0), .val (.int x1), .val (.int x2), .val (.int x3), .val (.int x4), .val (.int x5), .val (.int (1 : Int32)), .val (.ref b66), .val (.int x1), .val (.int (x1 + x2)), .val (.int ((x1 + x2) + x3)), .val (.int (((x1 + x2) + x3) + x4)), .val (.int ((((x1 + x2) + x3) + x4) + x5)), .val (.int x1), .val (.int (1 : Int32)), .val (.int x1)] []))
   refine own_st (fun t => XS.iload (own_here Y75) hx rfl (hb hby at_278) rfl) ?_
   show own_Ends _ _ _ _ (T74.setTop (mkF m 280 #[.val (.int x0), .val (.int x1), .val (.int x2), .val (.int x3), .val (.int x4), .val (.int x5), .val (.int (1 : Int32)), .val (.ref b66), .val (.int x1), .val (.int (x1 + x2)), .val (.int ((x1 + x2) + x3)), .val (.int (((x1 + x2) + x3) + x4)), .val (.int ((((x1 + x2) + x3) + x4) + x5)), .val (.int x1), .val (.int (1 : Int32)), .val (.int x1)] [(.int (1 : Int32))]))
   refine own_st (fun t => XS.iconst (own_here Y75) hx rfl (hb hby at_280) ) ?_
   show own_Ends _ _ _ _ (T74.setTop (mkF m 281 #[.val (.int x0), .val (.int x1), .val (.int x2), .val (.int x3), .val (.int x4), .val (.int x5), .val (.int (1 : Int32)), .val (.ref b66), .val (.int x1), .val (.int (x1 + x2)), .val (.int ((x1 + x2) + x3)), .val (.int (((x1 + x2) + x3) + x4)), .val (.int ((((x1 + x2) + x3) + x4) + x5)), .val (.int x1), .val (.int (1 : Int32)), .val (.int x1)] [(.int (5 : Int32)), (.int (1 : Int32))]))
   refine own_st (fun t => XS.icmpYes (own_here Y75) hx rfl (pc0 := 281) (pc' := 288) rfl (hb hby at_281) rfl (XT.ii_ne_t (by decide)) (by decide) (by decide)) ?_
   show own_Ends _ _ _ _ (T74.setTop (mkF m 288 #[.val (.int x0), .val (.int x1), .val (.int x2), .val (.int x3), .val (.int x4), .val (.int x5), .val (.int (1 : Int32)), .val (.ref b66), .val (.int x1), .val (.int (x1 + x2)), .val (.int ((x1 + x2) + x3)), .val (.int (((x1 + x2) + x3) + x4)), .val (.int ((((x1 + x2) + x3) + x4) + x5)), .val (.int x1), .val (.int (1 : Int32)), .val (.int x1)] []))
   refine own_st (fun t => XS.iload (own_here Y75) hx rfl (hb hby at_288) rfl) ?_
   show own_Ends _ _ _ _ (T74.setTop (mkF m 290 #[.val (.int x0), .val (.int x1), .val (.int x2), .val (.int x3), .val (.int x4), .val (.int x5), .val (.int (1 : Int32)), .val (.ref b66), .val (.int x1), .val (.int (x1 + x2)), .val (.int ((x1 + x2) + x3)), .val (.int (((x1 + x2) + x3) + x4)), .val (.int ((((x1 + x2) + x3) + x4) + x5)), .val (.int x1), .val (.int (1 : Int32)), .val (.int x1)] [(.int (1 : Int32))]))
   refine own_st (fun t => XS.ifNo (own_here Y75) hx rfl (hb hby at_290) rfl (XT.i0_eq_f (by decide))) ?_
   show own_Ends _ _ _ _ (T74.setTop (mkF m 293 #[.val (.int x0), .val (.int x1), .val (.int x2), .val (.int x3), .val (.int x4), .val (.int x5), .val (.int (1 : Int32)), .val (.ref b66), .val (.int x1), .val (.int (x1 + x2)), .val (.int ((x1 + x2) + x3)), .val (.int (((x1 + x2) + x3) + x4)), .val (.int ((((x1 + x2) + x3) + x4) + x5)), .val (.int x1), .val (.int (1 : Int32)), .val (.int x1)] []))
   refine own_st (fun t => XS.iload (own_here Y75) hx rfl (hb hby at_293) rfl) ?_
   show own_Ends _ _ _ _ (T74.setTop (mkF m 295 #[.val (.int x0), .val (.int x1), .val (.int x2), .val (.int x3), .val (.int x4), .val (.int x5), .val (.int (1 : Int32)), .val (.ref b66), .val (.int x1), .val (.int (x1 + x2)), .val (.int ((x1 + x2) + x3)), .val (.int (((x1 + x2) + x3) + x4)), .val (.int ((((x1 + x2) + x3) + x4) + x5)), .val (.int x1), .val (.int (1 : Int32)), .val (.int x1)] [(.int x1)]))
   refine own_st (fun t => XS.iload (own_here Y75) hx rfl (hb hby at_295) rfl) ?_
   show own_Ends _ _ _ _ (T74.setTop (mkF m 297 #[.val (.int x0), .val (.int x1), .val (.int x2), .val (.int x3), .val (.int x4), .val (.int x5), .val (.int (1 : Int32)), .val (.ref b66), .val (.int x1), .val (.int (x1 + x2)), .val (.int ((x1 + x2) + x3)), .val (.int (((x1 + x2) + x3) + x4)), .val (.int ((((x1 + x2) + x3) + x4) + x5)), .val (.int x1), .val (.int (1 : Int32)), .val (.int x1)] [(.int x1), (.int x1)]))
   refine own_st (fun t => XS.icmpNo (own_here Y75) hx rfl (hb hby at_297) rfl (XT.ii_ne_f (by first | rfl | ac_rfl | simp only [Int32.add_comm, Int32.add_left_comm, Int32.add_assoc]))) ?_
   show own_Ends _ _ _ _ (T74.setTop (mkF m 300 #[.val (.int x0), .val (.int x1), .val (.int x2), .val (.int x3), .val (.int x4), .val (.int x5), .val (.int (1 : Int32)), .val (.ref b66), .val (.int x1), .val (.int (x1 + x2)), .val (.int ((x1 + x2) + x3)), .val (.int (((x1 + x2) + x3) + x4)), .val (.int ((((x1 + x2) + x3) + x4) + x5)), .val (.int x1), .val (.int (1 : Int32)), .val (.int x1)] []))
   refine own_st (fun t => XS.iconst (own_here Y75) hx rfl (hb hby at_300) ) ?_
   show own_Ends _ _ _ _ (T74.setTop (mkF m 301 #[.val (.int x0), .val (.int x1), .val (.int x2), .val (.int x3), .val (.int x4), .val (.int x5), .val (.int (1 : Int32)), .val (.ref b66), .val (.int x1), .val (.int (x1 + x2)), .val (.int ((x1 + x2) + x3)), .val (.int (((x1 + x2) + x3) + x4)), .val (.int ((((x1 + x2) + x3) + x4) + x5)), .val (.int x1), .val (.int (1 : Int32)), .val (.int x1)] [(.int (1 : Int32))]))
   refine own_st (fun t => XS.goto (own_here Y75) hx rfl (pc0 := 301) (pc' := 305) rfl (hb hby at_301) (by decide) (by decide)) ?_
   show own_Ends _ _ _ _ (T74.setTop (mkF m 305 #[.val (.int x0), .val (.int x1), .val (.int x2), .val (.int x3), .val (.int x4), .val (.int x5), .val (.int (1 : Int32)), .val (.ref b66), .val (.int x1), .val (.int (x1 + x2)), .val (.int ((x1 + x2) + x3)), .val (.int (((x1 + x2) + x3) + x4)), .val (.int ((((x1 + x2) + x3) + x4) + x5)), .val (.int x1), .val (.int (1 : Int32)), .val (.int x1)] [(.int (1 : Int32))]))
   refine own_retN Y75 hx hlk (t := .boolean) hret (by simp) (hb hby at_305) (by decide) (by decide) ?_
   exact rfl
  ·
   show own_Ends _ _ _ _ (T0.setTop (mkF m 10 #[.val (.int x0), .val (.int x1), .val (.int x2), .val (.int x3), .val (.int x4), .val (.int x5), .val (.int (2 : Int32)), .unset, .unset, .unset, .unset, .unset, .unset, .unset, .unset, .unset] []))
   refine own_st (fun t => XS.iload (own_here Y0) hx rfl (hb hby at_10) rfl) ?_
   show own_Ends _ _ _ _ (T0.setTop (mkF m 12 #[.val (.int x0), .val (.int x1), .val (.int x2), .val (.int x3), .val (.int x4), .val (.int x5), .val (.int (2 : Int32)), .unset, .unset, .unset, .unset, .unset, .unset, .unset, .unset, .unset] [(.int (2 : Int32))]))
   refine own_newP Y0 hx hZ (hw _ (List.mem_of_getElem? (i := 1) rfl)) rfl (hb hby at_12) rfl (by decide) (nz := 2) (cap := 2) (by decide) (by decide) (by decide) (by decide) (by decide) (ty := .int) rfl (fun T81 h83 b86 eb87 Y82 E84 A85 => ?_)
   have g88 : n0 ≤ b86 := by rw [eb87]; exact Z0
   replace A85 : own_A Z h83 b86 .int [(.int (0 : Int32)), (.int (0 : Int32))] := A85
   show own_Ends _ _ _ _ (T81.setTop (mkF m 14 #[.val (.int x0), .val (.int x1), .val (.int x2), .val (.int x3), .val (.int x4), .val (.int x5), .val (.int (2 : Int32)), .unset, .unset, .unset, .unset, .unset, .unset, .unset, .unset, .unset] [(.ref b86)]))
   refine own_st (fun t => XS.astore (own_here Y82) hx rfl (hb hby at_14) rfl rfl (l' := #[.val (.int x0), .val (.int x1), .val (.int x2), .val (.int x3), .val (.int x4), .val (.int x5), .val (.int (2 : Int32)), .val (.ref b86), .unset, .unset, .unset, .unset, .unset, .unset, .unset, .unset]) rfl) ?_
   show own_Ends _ _ _ _ (T81.setTop (mkF m 16 #[.val (.int x0), .val (.int x1), .val (.int x2), .val (.int x3), .val (.int x4), .val (.int x5), .val (.int (2 : Int32)), .val (.ref b86), .unset, .unset, .unset, .unset, .unset, .unset, .unset, .unset] []))
   refine own_st (fun t => XS.aload (own_here Y82) hx rfl (hb hby at_16) rfl rfl) ?_
   show own_Ends _ _ _ _ (T81.setTop (mkF m 18 #[.val (.int x0), .val (.int x1), .val (.int x2), .val (.int x3), .val (.int x4), .val (.int x5), .val (.int (2 : Int32)), .val (.ref b86), .unset, .unset, .unset, .unset, .unset, .unset, .unset, .unset] [(.ref b86)]))
   refine own_st (fun t => XS.iconst (own_here Y82) hx rfl (hb hby at_18) ) ?_
   show own_Ends _ _ _ _ (T81.setTop (mkF m 19 #[.val (.int x0), .val (.int x1), .val (.int x2), .val (.int x3), .val (.int x4), .val (.int x5), .val (.int (2 : Int32)), .val (.ref b86), .unset, .unset, .unset, .unset, .unset, .unset, .unset, .unset] [(.int (0 : Int32)), (.ref b86)]))
   refine own_st (fun t => XS.iloadN (own_here Y82) hx rfl (hb hby at_19) rfl) ?_
   show own_Ends _ _ _ _ (T81.setTop (mkF m 20 #[.val (.int x0), .val (.int x1), .val (.int x2), .val (.int x3), .val (.int x4), .val (.int x5), .val (.int (2 : Int32)), .val (.ref b86), .unset, .unset, .unset, .unset, .unset, .unset, .unset, .unset] [(.int x1), (.int (0 : Int32)), (.ref b86)]))
   refine own_stI Y82 hx hZ A85 g88 (i := 0) (by decide) (by decide) (Nat.le_of_ble_eq_true rfl) rfl rfl (hb hby at_20) (fun T89 h91 Y90 W92 A93 => ?_)
   replace A93 : own_A Z h91 b86 .int [(.int x1), (.int (0 : Int32))] := A93
   show own_Ends _ _ _ _ (T89.setTop (mkF m 21 #[.val (.int x0), .val (.int x1), .val (.int x2), .val (.int x3), .val (.int x4), .val (.int x5), .val (.int (2 : Int32)), .val (.ref b86), .unset, .unset, .unset, .unset, .unset, .unset, .unset, .unset] []))
   refine own_st (fun t => XS.iload (own_here Y90) hx rfl (hb hby at_21) rfl) ?_
   show own_Ends _ _ _ _ (T89.setTop (mkF m 23 #[.val (.int x0), .val (.int x1), .val (.int x2), .val (.int x3), .val (.int x4), .val (.int x5), .val (.int (2 : Int32)), .val (.ref b86), .unset, .unset, .unset, .unset, .unset, .unset, .unset, .unset] [(.int (2 : Int32))]))
   refine own_st (fun t => XS.iconst (own_here Y90) hx rfl (hb hby at_23) ) ?_
   show own_Ends _ _ _ _ (T89.setTop (mkF m 24 #[.val (.int x0), .val (.int x1), .val (.int x2), .val (.int x3), .val (.int x4), .val (.int x5), .val (.int (2 : Int32)), .val (.ref b86), .unset, .unset, .unset, .unset, .unset, .unset, .unset, .unset] [(.int (1 : Int32)), (.int (2 : Int32))]))
   refine own_st (fun t => XS.icmpNo (own_here Y90) hx rfl (hb hby at_24) rfl (XT.ii_le_f (by decide))) ?_
   show own_Ends _ _ _ _ (T89.setTop (mkF m 27 #[.val (.int x0), .val (.int x1), .val (.int x2), .val (.int x3), .val (.int x4), .val (.int x5), .val (.int (2 : Int32)), .val (.ref b86), .unset, .unset, .unset, .unset, .unset, .unset, .unset, .unset] []))
   refine own_st (fun t => XS.aload (own_here Y90) hx rfl (hb hby at_27) rfl rfl) ?_
   show own_Ends _ _ _ _ (T89.setTop (mkF m 29 #[.val (.int x0), .val (.int x1), .val (.int x2), .val (.int x3), .val (.int x4), .val (.int x5), .val (.int (2 : Int32)), .val (.ref b86), .unset, .unset, .unset, .unset, .unset, .unset, .unset, .unset] [(.ref b86)]))
   refine own_st (fun t => XS.iconst (own_here Y90) hx rfl (hb hby at_29) ) ?_
   show own_Ends _ _ _ _ (T89.setTop (mkF m 30 #[.val (.int x0), .val (.int x1), .val (.int x2), .val (.int x3), .val (.int x4), .val (.int x5), .val (.int (2 : Int32)), .val (.ref b86), .unset, .unset, .unset, .unset, .unset, .unset, .unset, .unset] [(.int (1 : Int32)), (.ref b86)]))
   refine own_st (fun t => XS.iloadN (own_here Y90) hx rfl (hb hby at_30) rfl) ?_
   show own_Ends _ _ _ _ (T89.setTop (mkF m 31 #[.val (.int x0), .val (.int x1), .val (.int x2), .val (.int x3), .val (.int x4), .val (.int x5), .val (.int (2 : Int32)), .val (.ref b86), .unset, .unset, .unset, .unset, .unset, .unset, .unset, .unset] [(.int x2), (.int (1 : Int32)), (.ref b86)]))
   refine own_stI Y90 hx hZ A93 g88 (i := 1) (by decide) (by decide) (Nat.le_of_ble_eq_true rfl) rfl rfl (hb hby at_31) (fun T94 h96 Y95 W97 A98 => ?_)
   replace A98 : own_A Z h96 b86 .int [(.int x1), (.int x2)] := A98
   show own_Ends _ _ _ _ (T94.setTop (mkF m 32 #[.val (.int x0), .val (.int x1), .val (.int x2), .val (.int x3), .val (.int x4), .val (.int x5), .val (.int (2 : Int32)), .val (.ref b86), .unset, .unset, .unset, .unset, .unset, .unset, .unset, .unset] []))
   refine own_st (fun t => XS.iload (own_here Y95) hx rfl (hb hby at_32) rfl) ?_
   show own_Ends _ _ _ _ (T94.setTop (mkF m 34 #[.val (.int x0), .val (.int x1), .val (.int x2), .val (.int x3), .val (.int x4), .val (.int x5), .val (.int (2 : Int32)), .val (.ref b86), .unset, .unset, .unset, .unset, .unset, .unset, .unset, .unset] [(.int (2 : Int32))]))
   refine own_st (fun t => XS.iconst (own_here Y95) hx rfl (hb hby at_34) ) ?_
   show own_Ends _ _ _ _ (T94.setTop (mkF m 35 #[.val (.int x0), .val (.int x1), .val (.int x2), .val (.int x3), .val (.int x4), .val (.int x5), .val (.int (2 : Int32)), .val (.ref b86), .unset, .unset, .unset, .unset, .unset, .unset, .unset, .unset] [(.int (2 : Int32)), (.int (2 : Int32))]))
   refine own_st (fun t => XS.icmpYes (own_here Y95) hx rfl (pc0 := 35) (pc' := 43) rfl (hb hby at_35) rfl (XT.ii_le_t (by decide)) (by decide) (by decide)) ?_
   show own_Ends _ _ _ _ (T94.setTop (mkF m 43 #[.val (.int x0), .val (.int x1), .val (.int x2), .val (.int x3), .val (.int x4), .val (.int x5), .val (.int (2 : Int32)), .val (.ref b86), .unset, .unset, .unset, .unset, .unset, .unset, .unset, .unset] []))
   refine own_st (fun t => XS.iload (own_here Y95) hx rfl (hb hby at_43) rfl) ?_
   show own_Ends _ _ _ _ (T94.setTop (mkF m 45 #[.val (.int x0), .val (.int x1), .val (.int x2), .val (.int x3), .val (.int x4), .val (.int x5), .val (.int (2 : Int32)), .val (.ref b86), .unset, .unset, .unset, .unset, .unset, .unset, .unset, .unset] [(.int (2 : Int32))]))
   refine own_st (fun t => XS.iconst (own_here Y95) hx rfl (hb hby at_45) ) ?_
   show own_Ends _ _ _ _ (T94.setTop (mkF m 46 #[.val (.int x0), .val (.int x1), .val (.int x2), .val (.int x3), .val (.int x4), .val (.int x5), .val (.int (2 : Int32)), .val (.ref b86), .unset, .unset, .unset, .unset, .unset, .unset, .unset, .unset] [(.int (3 : Int32)), (.int (2 : Int32))]))
   refine own_st (fun t => XS.icmpYes (own_here Y95) hx rfl (pc0 := 46) (pc' := 55) rfl (hb hby at_46) rfl (XT.ii_le_t (by decide)) (by decide) (by decide)) ?_
   show own_Ends _ _ _ _ (T94.setTop (mkF m 55 #[.val (.int x0), .val (.int x1), .val (.int x2), .val (.int x3), .val (.int x4), .val (.int x5), .val (.int (2 : Int32)), .val (.ref b86), .unset, .unset, .unset, .unset, .unset, .unset, .unset, .unset] []))
   refine own_st (fun t => XS.iload (own_here Y95) hx rfl (hb hby at_55) rfl) ?_
   show own_Ends _ _ _ _ (T94.setTop (mkF m 57 #[.val (.int x0), .val (.int x1), .val (.int x2), .val (.int x3), .val (.int x4), .val (.int x5), .val (.int (2 : Int32)), .val (.ref b86), .unset, .unset, .unset, .unset, .unset, .unset, .unset, .unset] [(.int (2 : Int32))]))
   refine own_st (fun t => XS.iconst (own_here Y95) hx rfl (hb hby at_57) ) ?_
   show own_Ends _ _ _ _ (T94.setTop (mkF m 58 #[.val (.int x0), .val (.int x1), .val (.int x2), .val (.int x3), .val (.int x4), .val (.int x5), .val (.int (2 : Int32)), .val (.ref b86), .unset, .unset, .unset, .unset, .unset, .unset, .unset, .unset] [(.int (4 : Int32)), (.int (2 : Int32))]))
   refine own_st (fun t => XS.icmpYes (own_here Y95) hx rfl (pc0 := 58) (pc' := 67) rfl (hb hby at_58) rfl (XT.ii_le_t (by decide)) (by decide) (by decide)) ?_
   show own_Ends _ _ _ _ (T94.setTop (mkF m 67 #[.val (.int x0), .val (.int x1), .val (.int x2), .val (.int x3), .val (.int x4), .val (.int x5), .val (.int (2 : Int32)), .val (.ref b86), .unset, .unset, .unset, .unset, .unset, .unset, .unset, .unset] []))
   refine own_st (fun t => XS.iloadN (own_here Y95) hx rfl (hb hby at_67) rfl) ?_
   show own_Ends _ _ _ _ (T94.setTop (mkF m 68 #[.val (.int x0), .val (.int x1), .val (.int x2), .val (.int x3), .val (.int x4), .val (.int x5), .val (.int (2 : Int32)), .val (.ref b86), .unset, .unset, .unset, .unset, .unset, .unset, .unset, .unset] [(.int x1)]))
   refine own_st (fun t => XS.istore (own_here Y95) hx rfl (hb hby at_68) rfl (l' := #[.val (.int x0), .val (.int x1), .val (.int x2), .val (.int x3), .val (.int x4), .val (.int x5), .val (.int (2 : Int32)), .val (.ref b86), .val (.int x1), .unset, .unset, .unset, .unset, .unset, .unset, .unset]) rfl) ?_
   show own_Ends _ _ _ _ (T94.setTop (mkF m 70 #[.val (.int x0), .val (.int x1), .val (.int x2), .val (.int x3), .val (.int x4), .val (.int x5), .val (.int (2 : Int32)), .val (.ref b86), .val (.int x1), .unset, .unset, .unset, .unset, .unset, .unset, .unset] []))
   refine own_st (fun t => XS.iload (own_here Y95) hx rfl (hb hby at_70) rfl) ?_
   show own_Ends _ _ _ _ (T94.setTop (mkF m 72 #[.val (.int x0), .val (.int x1), .val (.int x2), .val (.int x3), .val (.int x4), .val (.int x5), .val (.int (2 : Int32)), .val (.ref b86), .val (.int x1), .unset, .unset, .unset, .unset, .unset, .unset, .unset] [(.int x1)]))
   refine own_st (fun t => XS.iloadN (own_here Y95) hx rfl (hb hby at_72) rfl) ?_
   show own_Ends _ _ _ _ (T94.setTop (mkF m 73 #[.val (.int x0), .val (.int x1), .val (.int x2), .val (.int x3), .val (.int x4), .val (.int x5), .val (.int (2 : Int32)), .val (.ref b86), .val (.int x1), .unset, .unset, .unset, .unset, .unset, .unset, .unset] [(.int x2), (.int x1)]))
   refine own_st (fun t => XS.iadd (own_here Y95) hx rfl (hb hby at_73) rfl) ?_
   show own_Ends _ _ _ _ (T94.setTop (mkF m 74 #[.val (.int x0), .val (.int x1), .val (.int x2), .val (.int x3), .val (.int x4), .val (.int x5), .val (.int (2 : Int32)), .val (.ref b86), .val (.int x1), .unset, .unset, .unset, .unset, .unset, .unset, .unset] [(.int (x1 + x2))]))
   refine own_st (fun t => XS.istore (own_here Y95) hx rfl (hb hby at_74) rfl (l' := #[.val (.int x0), .val (.int x1), .val (.int x2), .val (.int x3), .val (.int x4), .val (.int x5), .val (.int (2 : Int32)), .val (.ref b86), .val (.int x1), .val (.int (x1 + x2)), .unset, .unset, .unset, .unset, .unset, .unset]) rfl) ?_
   show own_Ends _ _ _ _ (T94.setTop (mkF m 76 #[.val (.int x0), .val (.int x1), .val (.int x2), .val (.int x3), .val (.int x4), .val (.int x5), .val (.int (2 : Int32)), .val (.ref b86), .val (.int x1), .val (.int (x1 + x2)), .unset, .unset, .unset, .unset, .unset, .unset] []))
   refine own_st (fun t => XS.iload (own_here Y95) hx rfl (hb hby at_76) rfl) ?_
   show own_Ends _ _ _ _ (T94.setTop (mkF m 78 #[.val (.int x0), .val (.int x1), .val (.int x2), .val (.int x3), .val (.int x4), .val (.int x5), .val (.int (2 : Int32)), .val (.ref b86), .val (.int x1), .val (.int (x1 + x2)), .unset, .unset, .unset, .unset, .unset, .unset] [(.int (x1 + x2))]))
   refine own_st (fun t => XS.iloadN (own_here Y95) hx rfl (hb hby at_78) rfl) ?_
   show own_Ends _ _ _ _ (T94.setTop (mkF m 79 #[.val (.int x0), .val (.int x1), .val (.int x2), .val (.int x3), .val (.int x4), .val (.int x5), .val (.int (2 : Int32)), .val (.ref b86), .val (.int x1), .val (.int (x1 + x2)), .unset, .unset, .unset, .unset, .unset, .unset] [(.int x3), (.int (x1 + x2))]))
   refine own_st (fun t => XS.iadd (own_here Y95) hx rfl (hb hby at_79) rfl) ?_
   show own_Ends _ _ _ _ (T94.setTop (mkF m 80 #[.val (.int x0), .val (.int x1), .val (.int x2), .val (.int x3), .val (.int x4), .val (.int x5), .val (.int (2 : Int32)), .val (.ref b86), .val (.int x1), .val (.int (x1 + x2)), .unset, .unset, .unset, .unset, .unset, .unset] [(.int ((x1 + x2) + x3))]))
   refine own_st (fun t => XS.istore (own_here Y95) hx rfl (hb hby at_80) rfl (l' := #[.val (.int x0), .val (.int x1), .val (.int x2), .val (.int x3), .val (.int x4), .val (.int x5), .val (.int (2 : Int32)), .val (.ref b86), .val (.int x1), .val (.int (x1 + x2)), .val (.int ((x1 + x2) + x3)), .unset, .unset, .unset, .unset, .unset]) rfl) ?_
   show own_Ends _ _ _ _ (T94.setTop (mkF m 82 #[.val (.int x0), .val (.int x1), .val (.int x2), .val (.int x3), .val (.int x4), .val (.int x5), .val (.int (2 : Int32)), .val (.ref b86), .val (.int x1), .val (.int (x1 + x2)), .val (.int ((x1 + x2) + x3)), .unset, .unset, .unset, .unset, .unset] []))
   refine own_st (fun t => XS.iload (own_here Y95) hx rfl (hb hby at_82) rfl) ?_
   show own_Ends _ _ _ _ (T94.setTop (mkF m 84 #[.val (.int x0), .val (.int x1), .val (.int x2), .val (.int x3), .val (.int x4), .val (.int x5), .val (.int (2 : Int32)), .val (.ref b86), .val (.int x1), .val (.int (x1 + x2)), .val (.int ((x1 + x2) + x3)), .unset, .unset, .unset, .unset, .unset] [(.int ((x1 + x2) + x3))]))
   refine own_st (fun t => XS.iload (own_here Y95) hx rfl (hb hby at_84) rfl) ?_
   show own_Ends _ _ _ _ (T94.setTop (mkF m 86 #[.val (.int x0), .val (.int x1), .val (.int x2), .val (.int x3), .val (.int x4), .val (.int x5), .val (.int (2 : Int32)), .val (.ref b86), .val (.int x1), .val (.int (x1 + x2)), .val (.int ((x1 + x2) + x3)), .unset, .unset, .unset, .unset, .unset] [(.int x4), (.int ((x1 + x2) + x3))]))
   refine own_st (fun t => XS.iadd (own_here Y95) hx rfl (hb hby at_86) rfl) ?_
   show own_Ends _ _ _ _ (T94.setTop (mkF m 87 #[.val (.int x0), .val (.int x1), .val (.int x2), .val (.int x3), .val (.int x4), .val (.int x5), .val (.int (2 : Int32)), .val (.ref b86), .val (.int x1), .val (.int (x1 + x2)), .val (.int ((x1 + x2) + x3)), .unset, .unset, .unset, .unset, .unset] [(.int (((x1 + x2) + x3) + x4))]))
   refine own_st (fun t => XS.istore (own_here Y95) hx rfl (hb hby at_87) rfl (l' := #[.val (.int x0), .val (.int x1), .val (.int x2), .val (.int x3), .val (.int x4), .val (.int x5), .val (.int (2 : Int32)), .val (.ref b86), .val (.int x1), .val (.int (x1 + x2)), .val (.int ((x1 + x2) + x3)), .val (.int (((x1 + x2) + x3) + x4)), .unset, .unset, .unset, .unset]) rfl) ?_
   show own_Ends _ _ _ _ (T94.setTop (mkF m 89 #[.val (.int x0), .val (.int x1), .val (.int x2), .val (.int x3), .val (.int x4), .val (.int x5), .val (.int (2 : Int32)), .val (.ref b86), .val (.int x1), .val (.int (x1 + x2)), .val (.int ((x1 + x2) + x3)), .val (.int (((x1 + x2) + x3) + x4)), .unset, .unset, .unset, .unset] []))
   refine own_st (fun t => XS.iload (own_here Y95) hx rfl (hb hby at_89) rfl) ?_
   show own_Ends _ _ _ _ (T94.setTop (mkF m 91 #[.val (.int x0), .val (.int x1), .val (.int x2), .val (.int x3), .val (.int x4), .val (.int x5), .val (.int (2 : Int32)), .val (.ref b86), .val (.int x1), .val (.int (x1 + x2)), .val (.int ((x1 + x2) + x3)), .val (.int (((x1 + x2) + x3) + x4)), .unset, .unset, .unset, .unset] [(.int (((x1 + x2) + x3) + x4))]))
   refine own_st (fun t => XS.iload (own_here Y95) hx rfl (hb hby at_91) rfl) ?_
   show own_Ends _ _ _ _ (T94.setTop (mkF m 93 #[.val (.int x0), .val (.int x1), .val (.int x2), .val (.int x3), .val (.int x4), .val (.int x5), .val (.int (2 : Int32)), .val (.ref b86), .val (.int x1), .val (.int (x1 + x2)), .val (.int ((x1 + x2) + x3)), .val (.int (((x1 + x2) + x3) + x4)), .unset, .unset, .unset, .unset] [(.int x5), (.int (((x1 + x2) + x3) + x4))]))
   refine own_st (fun t => XS.iadd (own_here Y95) hx rfl (hb hby at_93) rfl) ?_
   show own_Ends _ _ _ _ (T94.setTop (mkF m 94 #[.val (.int x0), .val (.int x1), .val (.int x2), .val (.int x3), .val (.int x4), .val (.int x5), .val (.int (2 : Int32)), .val (.ref b86), .val (.int x1), .val (.int (x1 + x2)), .val (.int ((x1 + x2) + x3)), .val (.int (((x1 + x2) + x3) + x4)), .unset, .unset, .unset, .unset] [(.int ((((x1 + x2) + x3) + x4) + x5))]))
   refine own_st (fun t => XS.istore (own_here Y95) hx rfl (hb hby at_94) rfl (l' := #[.val (.int x0), .val (.int x1), .val (.int x2), .val (.int x3), .val (.int x4), .val (.int x5), .val (.int (2 : Int32)), .val (.ref b86), .val (.int x1), .val (.int (x1 + x2)), .val (.int ((x1 + x2) + x3)), .val (.int (((x1 + x2) + x3) + x4)), .val (.int ((((x1 + x2) + x3) + x4) + x5)), .unset, .unset, .unset]) rfl) ?_
   show own_Ends _ _ _ _ (T94.setTop (mkF m 96 #[.val (.int x0), .val (.int x1), .val (.int x2), .val (.int x3), .val (.int x4), .val (.int x5), .val (.int (2 : Int32)), .val (.ref b86), .val (.int x1), .val (.int (x1 + x2)), .val (.int ((x1 + x2) + x3)), .val (.int (((x1 + x2) + x3) + x4)), .val (.int ((((x1 + x2) + x3) + x4) + x5)), .unset, .unset, .unset] []))
   refine own_st (fun t => XS.aload (own_here Y95) hx rfl (hb hby at_96) rfl rfl) ?_
   show own_Ends _ _ _ _ (T94.setTop (mkF m 98 #[.val (.int x0), .val (.int x1), .val (.int x2), .val (.int x3), .val (.int x4), .val (.int x5), .val (.int (2 : Int32)), .val (.ref b86), .val (.int x1), .val (.int (x1 + x2)), .val (.int ((x1 + x2) + x3)), .val (.int (((x1 + x2) + x3) + x4)), .val (.int ((((x1 + x2) + x3) + x4) + x5)), .unset, .unset, .unset] [(.ref b86)]))
   refine own_callS Y95 hx hZ (y := (⟨"com/example/tierpath/tierpath/Hierarchy", "prefixSums", "([I)I"⟩ : MethodName)) hown (hw _ (List.mem_of_getElem? (i := 2) rfl)) (hw _ (List.mem_of_getElem? (i := 3) rfl)) (hw _ (List.mem_of_getElem? (i := 4) rfl)) (hw _ (List.mem_of_getElem? (i := 5) rfl)) (by decide) (argsL := [(.ref b86)]) (rest := []) (own_rm1_2 l Z a0 hw [] b86 x1 x2 h96 n0  A98 g88) (W := 0) (by decide) (by decide) (by decide) (by decide) rfl (by rw [hml]; rfl) (lenOf own_pd0 rfl) rfl (by show 2 * 0 + _ ≤ _; exact Nat.le_of_eq rfl) (hb hby at_98) (fun T99 h101 v102 Y100 q103 => ?_)
   obtain ⟨rfl, K104, F105⟩ := q103
   show own_Ends _ _ _ _ (T99.setTop (mkF m 101 #[.val (.int x0), .val (.int x1), .val (.int x2), .val (.int x3), .val (.int x4), .val (.int x5), .val (.int (2 : Int32)), .val (.ref b86), .val (.int x1), .val (.int (x1 + x2)), .val (.int ((x1 + x2) + x3)), .val (.int (((x1 + x2) + x3) + x4)), .val (.int ((((x1 + x2) + x3) + x4) + x5)), .unset, .unset, .unset] [(.int (x2 + x1))]))
   refine own_st (fun t => XS.istore (own_here Y100) hx rfl (hb hby at_101) rfl (l' := #[.val (.int x0), .val (.int x1), .val (.int x2), .val (.int x3), .val (.int x4), .val (.int x5), .val (.int (2 : Int32)), .val (.ref b86), .val (.int x1), .val (.int (x1 + x2)), .val (.int ((x1 + x2) + x3)), .val (.int (((x1 + x2) + x3) + x4)), .val (.int ((((x1 + x2) + x3) + x4) + x5)), .val (.int (x2 + x1)), .unset, .unset]) rfl) ?_
   show own_Ends _ _ _ _ (T99.setTop (mkF m 103 #[.val (.int x0), .val (.int x1), .val (.int x2), .val (.int x3), .val (.int x4), .val (.int x5), .val (.int (2 : Int32)), .val (.ref b86), .val (.int x1), .val (.int (x1 + x2)), .val (.int ((x1 + x2) + x3)), .val (.int (((x1 + x2) + x3) + x4)), .val (.int ((((x1 + x2) + x3) + x4) + x5)), .val (.int (x2 + x1)), .unset, .unset] []))
   refine own_st (fun t => XS.aload (own_here Y100) hx rfl (hb hby at_103) rfl rfl) ?_
   show own_Ends _ _ _ _ (T99.setTop (mkF m 105 #[.val (.int x0), .val (.int x1), .val (.int x2), .val (.int x3), .val (.int x4), .val (.int x5), .val (.int (2 : Int32)), .val (.ref b86), .val (.int x1), .val (.int (x1 + x2)), .val (.int ((x1 + x2) + x3)), .val (.int (((x1 + x2) + x3) + x4)), .val (.int ((((x1 + x2) + x3) + x4) + x5)), .val (.int (x2 + x1)), .unset, .unset] [(.ref b86)]))
   refine own_len Y100 hx hZ F105 (z := (2 : Int32)) rfl rfl rfl (hb hby at_105) ?_
   show own_Ends _ _ _ _ (T99.setTop (mkF m 106 #[.val (.int x0), .val (.int x1), .val (.int x2), .val (.int x3), .val (.int x4), .val (.int x5), .val (.int (2 : Int32)), .val (.ref b86), .val (.int x1), .val (.int (x1 + x2)), .val (.int ((x1 + x2) + x3)), .val (.int (((x1 + x2) + x3) + x4)), .val (.int ((((x1 + x2) + x3) + x4) + x5)), .val (.int (x2 + x1)), .unset, .unset] [(.int (2 : Int32))]))
   refine own_st (fun t => XS.iload (own_here Y100) hx rfl (hb hby at_106) rfl) ?_
   show own_Ends _ _ _ _ (T99.setTop (mkF m 108 #[.val (.int x0), .val (.int x1), .val (.int x2), .val (.int x3), .val (.int x4), .val (.int x5), .val (.int (2 : Int32)), .val (.ref b86), .val (.int x1), .val (.int (x1 + x2)), .val (.int ((x1 + x2) + x3)), .val (.int (((x1 + x2) + x3) + x4)), .val (.int ((((x1 + x2) + x3) + x4) + x5)), .val (.int (x2 + x1)), .unset, .unset] [(.int (2 : Int32)), (.int (2 : Int32))]))
   refine own_st (fun t => XS.icmpNo (own_here Y100) hx rfl (hb hby at_108) rfl (XT.ii_ne_f (by decide))) ?_
   show own_Ends _ _ _ _ (T99.setTop (mkF m 111 #[.val (.int x0), .val (.int x1), .val (.int x2), .val (.int x3), .val (.int x4), .val (.int x5), .val (.int (2 : Int32)), .val (.ref b86), .val (.int x1), .val (.int (x1 + x2)), .val (.int ((x1 + x2) + x3)), .val (.int (((x1 + x2) + x3) + x4)), .val (.int ((((x1 + x2) + x3) + x4) + x5)), .val (.int (x2 + x1)), .unset, .unset] []))
   refine own_st (fun t => XS.aload (own_here Y100) hx rfl (hb hby at_111) rfl rfl) ?_
   show own_Ends _ _ _ _ (T99.setTop (mkF m 113 #[.val (.int x0), .val (.int x1), .val (.int x2), .val (.int x3), .val (.int x4), .val (.int x5), .val (.int (2 : Int32)), .val (.ref b86), .val (.int x1), .val (.int (x1 + x2)), .val (.int ((x1 + x2) + x3)), .val (.int (((x1 + x2) + x3) + x4)), .val (.int ((((x1 + x2) + x3) + x4) + x5)), .val (.int (x2 + x1)), .unset, .unset] [(.ref b86)]))
   refine own_st (fun t => XS.iconst (own_here Y100) hx rfl (hb hby at_113) ) ?_
   show own_Ends _ _ _ _ (T99.setTop (mkF m 114 #[.val (.int x0), .val (.int x1), .val (.int x2), .val (.int x3), .val (.int x4), .val (.int x5), .val (.int (2 : Int32)), .val (.ref b86), .val (.int x1), .val (.int (x1 + x2)), .val (.int ((x1 + x2) + x3)), .val (.int (((x1 + x2) + x3) + x4)), .val (.int ((((x1 + x2) + x3) + x4) + x5)), .val (.int (x2 + x1)), .unset, .unset] [(.int (0 : Int32)), (.ref b86)]))
   refine own_ldI Y100 hx hZ F105 (i := 0) (by decide) (by decide) (Nat.le_of_ble_eq_true rfl) (v := (.int x1)) rfl rfl rfl (hb hby at_114) ?_
   show own_Ends _ _ _ _ (T99.setTop (mkF m 115 #[.val (.int x0), .val (.int x1), .val (.int x2), .val (.int x3), .val (.int x4), .val (.int x5), .val (.int (2 : Int32)), .val (.ref b86), .val (.int x1), .val (.int (x1 + x2)), .val (.int ((x1 + x2) + x3)), .val (.int (((x1 + x2) + x3) + x4)), .val (.int ((((x1 + x2) + x3) + x4) + x5)), .val (.int (x2 + x1)), .unset, .unset] [(.int x1)]))
   refine own_st (fun t => XS.iload (own_here Y100) hx rfl (hb hby at_115) rfl) ?_
   show own_Ends _ _ _ _ (T99.setTop (mkF m 117 #[.val (.int x0), .val (.int x1), .val (.int x2), .val (.int x3), .val (.int x4), .val (.int x5), .val (.int (2 : Int32)), .val (.ref b86), .val (.int x1), .val (.int (x1 + x2)), .val (.int ((x1 + x2) + x3)), .val (.int (((x1 + x2) + x3) + x4)), .val (.int ((((x1 + x2) + x3) + x4) + x5)), .val (.int (x2 + x1)), .unset, .unset] [(.int x1), (.int x1)]))
   refine own_st (fun t => XS.icmpNo (own_here Y100) hx rfl (hb hby at_117) rfl (XT.ii_ne_f (by first | rfl | ac_rfl | simp only [Int32.add_comm, Int32.add_left_comm, Int32.add_assoc]))) ?_
   show own_Ends _ _ _ _ (T99.setTop (mkF m 120 #[.val (.int x0), .val (.int x1), .val (.int x2), .val (.int x3), .val (.int x4), .val (.int x5), .val (.int (2 : Int32)), .val (.ref b86), .val (.int x1), .val (.int (x1 + x2)), .val (.int ((x1 + x2) + x3)), .val (.int (((x1 + x2) + x3) + x4)), .val (.int ((((x1 + x2) + x3) + x4) + x5)), .val (.int (x2 + x1)), .unset, .unset] []))
   refine own_st (fun t => XS.iconst (own_here Y100) hx rfl (hb hby at_120) ) ?_
   show own_Ends _ _ _ _ (T99.setTop (mkF m 121 #[.val (.int x0), .val (.int x1), .val (.int x2), .val (.int x3), .val (.int x4), .val (.int x5), .val (.int (2 : Int32)), .val (.ref b86), .val (.int x1), .val (.int (x1 + x2)), .val (.int ((x1 + x2) + x3)), .val (.int (((x1 + x2) + x3) + x4)), .val (.int ((((x1 + x2) + x3) + x4) + x5)), .val (.int (x2 + x1)), .unset, .unset] [(.int (1 : Int32))]))
   refine own_st (fun t => XS.goto (own_here Y100) hx rfl (pc0 := 121) (pc' := 125) rfl (hb hby at_121) (by decide) (by decide)) ?_
   show own_Ends _ _ _ _ (T99.setTop (mkF m 125 #[.val (.int x0), .val (.int x1), .val (.int x2), .val (.int x3), .val (.int x4), .val (.int x5), .val (.int (2 : Int32)), .val (.ref b86), .val (.int x1), .val (.int (x1 + x2)), .val (.int ((x1 + x2) + x3)), .val (.int (((x1 + x2) + x3) + x4)), .val (.int ((((x1 + x2) + x3) + x4) + x5)), .val (.int (x2 + x1)), .unset, .unset] [(.int (1 : Int32))]))
   refine own_st (fun t => XS.istore (own_here Y100) hx rfl (hb hby at_125) rfl (l' := #[.val (.int x0), .val (.int x1), .val (.int x2), .val (.int x3), .val (.int x4), .val (.int x5), .val (.int (2 : Int32)), .val (.ref b86), .val (.int x1), .val (.int (x1 + x2)), .val (.int ((x1 + x2) + x3)), .val (.int (((x1 + x2) + x3) + x4)), .val (.int ((((x1 + x2) + x3) + x4) + x5)), .val (.int (x2 + x1)), .val (.int (1 : Int32)), .unset]) rfl) ?_
   show own_Ends _ _ _ _ (T99.setTop (mkF m 127 #[.val (.int x0), .val (.int x1), .val (.int x2), .val (.int x3), .val (.int x4), .val (.int x5), .val (.int (2 : Int32)), .val (.ref b86), .val (.int x1), .val (.int (x1 + x2)), .val (.int ((x1 + x2) + x3)), .val (.int (((x1 + x2) + x3) + x4)), .val (.int ((((x1 + x2) + x3) + x4) + x5)), .val (.int (x2 + x1)), .val (.int (1 : Int32)), .unset] []))
   refine own_st (fun t => XS.iload (own_here Y100) hx rfl (hb hby at_127) rfl) ?_
   show own_Ends _ _ _ _ (T99.setTop (mkF m 129 #[.val (.int x0), .val (.int x1), .val (.int x2), .val (.int x3), .val (.int x4), .val (.int x5), .val (.int (2 : Int32)), .val (.ref b86), .val (.int x1), .val (.int (x1 + x2)), .val (.int ((x1 + x2) + x3)), .val (.int (((x1 + x2) + x3) + x4)), .val (.int ((((x1 + x2) + x3) + x4) + x5)), .val (.int (x2 + x1)), .val (.int (1 : Int32)), .unset] [(.int (2 : Int32))]))
   refine own_st (fun t => XS.iconst (own_here Y100) hx rfl (hb hby at_129) ) ?_
   show own_Ends _ _ _ _ (T99.setTop (mkF m 130 #[.val (.int x0), .val (.int x1), .val (.int x2), .val (.int x3), .val (.int x4), .val (.int x5), .val (.int (2 : Int32)), .val (.ref b86), .val (.int x1), .val (.int (x1 + x2)), .val (.int ((x1 + x2) + x3)), .val (.int (((x1 + x2) + x3) + x4)), .val (.int ((((x1 + x2) + x3) + x4) + x5)), .val (.int (x2 + x1)), .val (.int (1 : Int32)), .unset] [(.int (1 : Int32)), (.int (2 : Int32))]))
   refine own_st (fun t => XS.icmpNo (own_here Y100) hx rfl (hb hby at_130) rfl (XT.ii_le_f (by decide))) ?_
   show own_Ends _ _ _ _ (T99.setTop (mkF m 133 #[.val (.int x0), .val (.int x1), .val (.int x2), .val (.int x3), .val (.int x4), .val (.int x5), .val (.int (2 : Int32)), .val (.ref b86), .val (.int x1), .val (.int (x1 + x2)), .val (.int ((x1 + x2) + x3)), .val (.int (((x1 + x2) + x3) + x4)), .val (.int ((((x1 + x2) + x3) + x4) + x5)), .val (.int (x2 + x1)), .val (.int (1 : Int32)), .unset] []))
   refine own_st (fun t => XS.iload (own_here Y100) hx rfl (hb hby at_133) rfl) ?_
   show own_Ends _ _ _ _ (T99.setTop (mkF m 135 #[.val (.int x0), .val (.int x1), .val (.int x2), .val (.int x3), .val (.int x4), .val (.int x5), .val (.int (2 : Int32)), .val (.ref b86), .val (.int x1), .val (.int (x1 + x2)), .val (.int ((x1 + x2) + x3)), .val (.int (((x1 + x2) + x3) + x4)), .val (.int ((((x1 + x2) + x3) + x4) + x5)), .val (.int (x2 + x1)), .val (.int (1 : Int32)), .unset] [(.int (1 : Int32))]))
   refine own_st (fun t => XS.ifNo (own_here Y100) hx rfl (hb hby at_135) rfl (XT.i0_eq_f (by decide))) ?_
   show own_Ends _ _ _ _ (T99.setTop (mkF m 138 #[.val (.int x0), .val (.int x1), .val (.int x2), .val (.int x3), .val (.int x4), .val (.int x5), .val (.int (2 : Int32)), .val (.ref b86), .val (.int x1), .val (.int (x1 + x2)), .val (.int ((x1 + x2) + x3)), .val (.int (((x1 + x2) + x3) + x4)), .val (.int ((((x1 + x2) + x3) + x4) + x5)), .val (.int (x2 + x1)), .val (.int (1 : Int32)), .unset] []))
   refine own_st (fun t => XS.aload (own_here Y100) hx rfl (hb hby at_138) rfl rfl) ?_
   show own_Ends _ _ _ _ (T99.setTop (mkF m 140 #[.val (.int x0), .val (.int x1), .val (.int x2), .val (.int x3), .val (.int x4), .val (.int x5), .val (.int (2 : Int32)), .val (.ref b86), .val (.int x1), .val (.int (x1 + x2)), .val (.int ((x1 + x2) + x3)), .val (.int (((x1 + x2) + x3) + x4)), .val (.int ((((x1 + x2) + x3) + x4) + x5)), .val (.int (x2 + x1)), .val (.int (1 : Int32)), .unset] [(.ref b86)]))
   refine own_st (fun t => XS.iconst (own_here Y100) hx rfl (hb hby at_140) ) ?_
   show own_Ends _ _ _ _ (T99.setTop (mkF m 141 #[.val (.int x0), .val (.int x1), .val (.int x2), .val (.int x3), .val (.int x4), .val (.int x5), .val (.int (2 : Int32)), .val (.ref b86), .val (.int x1), .val (.int (x1 + x2)), .val (.int ((x1 + x2) + x3)), .val (.int (((x1 + x2) + x3) + x4)), .val (.int ((((x1 + x2) + x3) + x4) + x5)), .val (.int (x2 + x1)), .val (.int (1 : Int32)), .unset] [(.int (1 : Int32)), (.ref b86)]))
   refine own_ldI Y100 hx hZ F105 (i := 1) (by decide) (by decide) (Nat.le_of_ble_eq_true rfl) (v := (.int (x2 + x1))) rfl rfl rfl (hb hby at_141) ?_
   show own_Ends _ _ _ _ (T99.setTop (mkF m 142 #[.val (.int x0), .val (.int x1), .val (.int x2), .val (.int x3), .val (.int x4), .val (.int x5), .val (.int (2 : Int32)), .val (.ref b86), .val (.int x1), .val (.int (x1 + x2)), .val (.int ((x1 + x2) + x3)), .val (.int (((x1 + x2) + x3) + x4)), .val (.int ((((x1 + x2) + x3) + x4) + x5)), .val (.int (x2 + x1)), .val (.int (1 : Int32)), .unset] [(.int (x2 + x1))]))
   refine own_st (fun t => XS.iload (own_here Y100) hx rfl (hb hby at_142) rfl) ?_
   show own_Ends _ _ _ _ (T99.setTop (mkF m 144 #[.val (.int x0), .val (.int x1), .val (.int x2), .val (.int x3), .val (.int x4), .val (.int x5), .val (.int (2 : Int32)), .val (.ref b86), .val (.int x1), .val (.int (x1 + x2)), .val (.int ((x1 + x2) + x3)), .val (.int (((x1 + x2) + x3) + x4)), .val (.int ((((x1 + x2) + x3) + x4) + x5)), .val (.int (x2 + x1)), .val (.int (1 : Int32)), .unset] [(.int (x1 + x2)), (.int (x2 + x1))]))
   refine own_st (fun t => XS.icmpNo (own_here Y100) hx rfl (hb hby at_144) rfl (XT.ii_ne_f (by first | rfl | ac_rfl | simp only [Int32.add_comm, Int32.add_left_comm, Int32.add_assoc]))) ?_
   show own_Ends _ _ _ _ (T99.setTop (mkF m 147 #[.val (.int x0), .val (.int x1), .val (.int x2), .val (.int x3), .val (.int x4), .val (.int x5), .val (.int (2 : Int32)), .val (.ref b86), .val (.int x1), .val (.int (x1 + x2)), .val (.int ((x1 + x2) + x3)), .val (.int (((x1 + x2) + x3) + x4)), .val (.int ((((x1 + x2) + x3) + x4) + x5)), .val (.int (x2 + x1)), .val (.int (1 : Int32)), .unset] []))
   refine own_st (fun t => XS.iconst (own_here Y100) hx rfl (hb hby at_147) ) ?_
   show own_Ends _ _ _ _ (T99.setTop (mkF m 148 #[.val (.int x0), .val (.int x1), .val (.int x2), .val (.int x3), .val (.int x4), .val (.int x5), .val (.int (2 : Int32)), .val (.ref b86), .val (.int x1), .val (.int (x1 + x2)), .val (.int ((x1 + x2) + x3)), .val (.int (((x1 + x2) + x3) + x4)), .val (.int ((((x1 + x2) + x3) + x4) + x5)), .val (.int (x2 + x1)), .val (.int (1 : Int32)), .unset] [(.int (1 : Int32))]))
   refine own_st (fun t => XS.goto (own_here Y100) hx rfl (pc0 := 148) (pc' := 152) rfl (hb hby at_148) (by decide) (by decide)) ?_
   show own_Ends _ _ _ _ (T99.setTop (mkF m 152 #[.val (.int x0), .val (.int x1), .val (.int x2), .val (.int x3), .val (.int x4), .val (.int x5), .val (.int (2 : Int32)), .val (.ref b86), .val (.int x1), .val (.int (x1 + x2)), .val (.int ((x1 + x2) + x3)), .val (.int (((x1 + x2) + x3) + x4)), .val (.int ((((x1 + x2) + x3) + x4) + x5)), .val (.int (x2 + x1)), .val (.int (1 : Int32)), .unset] [(.int (1 : Int32))]))
   refine own_st (fun t => XS.istore (own_here Y100) hx rfl (hb hby at_152) rfl (l' := #[.val (.int x0), .val (.int x1), .val (.int x2), .val (.int x3), .val (.int x4), .val (.int x5), .val (.int (2 : Int32)), .val (.ref b86), .val (.int x1), .val (.int (x1 + x2)), .val (.int ((x1 + x2) + x3)), .val (.int (((x1 + x2) + x3) + x4)), .val (.int ((((x1 + x2) + x3) + x4) + x5)), .val (.int (x2 + x1)), .val (.int (1 : Int32)), .unset]) rfl) ?_
   show own_Ends _ _ _ _ (T99.setTop (mkF m 154 #[.val (.int x0), .val (.int x1), .val (.int x2), .val (.int x3), .val (.int x4), .val (.int x5), .val (.int (2 : Int32)), .val (.ref b86), .val (.int x1), .val (.int (x1 + x2)), .val (.int ((x1 + x2) + x3)), .val (.int (((x1 + x2) + x3) + x4)), .val (.int ((((x1 + x2) + x3) + x4) + x5)), .val (.int (x2 + x1)), .val (.int (1 : Int32)), .unset] []))
   refine own_st (fun t => XS.iload (own_here Y100) hx rfl (hb hby at_154) rfl) ?_
   show own_Ends _ _ _ _ (T99.setTop (mkF m 156 #[.val (.int x0), .val (.int x1), .val (.int x2), .val (.int x3), .val (.int x4), .val (.int x5), .val (.int (2 : Int32)), .val (.ref b86), .val (.int x1), .val (.int (x1 + x2)), .val (.int ((x1 + x2) + x3)), .val (.int (((x1 + x2) + x3) + x4)), .val (.int ((((x1 + x2) + x3) + x4) + x5)), .val (.int (x2 + x1)), .val (.int (1 : Int32)), .unset] [(.int (2 : Int32))]))
   refine own_st (fun t => XS.iconst (own_here Y100) hx rfl (hb hby at_156) ) ?_
   show own_Ends _ _ _ _ (T99.setTop (mkF m 157 #[.val (.int x0), .val (.int x1), .val (.int x2), .val (.int x3), .val (.int x4), .val (.int x5), .val (.int (2 : Int32)), .val (.ref b86), .val (.int x1), .val (.int (x1 + x2)), .val (.int ((x1 + x2) + x3)), .val (.int (((x1 + x2) + x3) + x4)), .val (.int ((((x1 + x2) + x3) + x4) + x5)), .val (.int (x2 + x1)), .val (.int (1 : Int32)), .unset] [(.int (2 : Int32)), (.int (2 : Int32))]))
   refine own_st (fun t => XS.icmpYes (own_here Y100) hx rfl (pc0 := 157) (pc' := 181) rfl (hb hby at_157) rfl (XT.ii_le_t (by decide)) (by decide) (by decide)) ?_
   show own_Ends _ _ _ _ (T99.setTop (mkF m 181 #[.val (.int x0), .val (.int x1), .val (.int x2), .val (.int x3), .val (.int x4), .val (.int x5), .val (.int (2 : Int32)), .val (.ref b86), .val (.int x1), .val (.int (x1 + x2)), .val (.int ((x1 + x2) + x3)), .val (.int (((x1 + x2) + x3) + x4)), .val (.int ((((x1 + x2) + x3) + x4) + x5)), .val (.int (x2 + x1)), .val (.int (1 : Int32)), .unset] []))
   refine own_st (fun t => XS.iload (own_here Y100) hx rfl (hb hby at_181) rfl) ?_
   show own_Ends _ _ _ _ (T99.setTop (mkF m 183 #[.val (.int x0), .val (.int x1), .val (.int x2), .val (.int x3), .val (.int x4), .val (.int x5), .val (.int (2 : Int32)), .val (.ref b86), .val (.int x1), .val (.int (x1 + x2)), .val (.int ((x1 + x2) + x3)), .val (.int (((x1 + x2) + x3) + x4)), .val (.int ((((x1 + x2) + x3) + x4) + x5)), .val (.int (x2 + x1)), .val (.int (1 : Int32)), .unset] [(.int (2 : Int32))]))
   refine own_st (fun t => XS.iconst (own_here Y100) hx rfl (hb hby at_183) ) ?_
   show own_Ends _ _ _ _ (T99.setTop (mkF m 184 #[.val (.int x0), .val (.int x1), .val (.int x2), .val (.int x3), .val (.int x4), .val (.int x5), .val (.int (2 : Int32)), .val (.ref b86), .val (.int x1), .val (.int (x1 + x2)), .val (.int ((x1 + x2) + x3)), .val (.int (((x1 + x2) + x3) + x4)), .val (.int ((((x1 + x2) + x3) + x4) + x5)), .val (.int (x2 + x1)), .val (.int (1 : Int32)), .unset] [(.int (3 : Int32)), (.int (2 : Int32))]))
   refine own_st (fun t => XS.icmpYes (own_here Y100) hx rfl (pc0 := 184) (pc' := 208) rfl (hb hby at_184) rfl (XT.ii_le_t (by decide)) (by decide) (by decide)) ?_
   show own_Ends _ _ _ _ (T99.setTop (mkF m 208 #[.val (.int x0), .val (.int x1), .val (.int x2), .val (.int x3), .val (.int x4), .val (.int x5), .val (.int (2 : Int32)), .val (.ref b86), .val (.int x1), .val (.int (x1 + x2)), .val (.int ((x1 + x2) + x3)), .val (.int (((x1 + x2) + x3) + x4)), .val (.int ((((x1 + x2) + x3) + x4) + x5)), .val (.int (x2 + x1)), .val (.int (1 : Int32)), .unset] []))
   refine own_st (fun t => XS.iload (own_here Y100) hx rfl (hb hby at_208) rfl) ?_
   show own_Ends _ _ _ _ (T99.setTop (mkF m 210 #[.val (.int x0), .val (.int x1), .val (.int x2), .val (.int x3), .val (.int x4), .val (.int x5), .val (.int (2 : Int32)), .val (.ref b86), .val (.int x1), .val (.int (x1 + x2)), .val (.int ((x1 + x2) + x3)), .val (.int (((x1 + x2) + x3) + x4)), .val (.int ((((x1 + x2) + x3) + x4) + x5)), .val (.int (x2 + x1)), .val (.int (1 : Int32)), .unset] [(.int (2 : Int32))]))
   refine own_st (fun t => XS.iconst (own_here Y100) hx rfl (hb hby at_210) ) ?_
   show own_Ends _ _ _ _ (T99.setTop (mkF m 211 #[.val (.int x0), .val (.int x1), .val (.int x2), .val (.int x3), .val (.int x4), .val (.int x5), .val (.int (2 : Int32)), .val (.ref b86), .val (.int x1), .val (.int (x1 + x2)), .val (.int ((x1 + x2) + x3)), .val (.int (((x1 + x2) + x3) + x4)), .val (.int ((((x1 + x2) + x3) + x4) + x5)), .val (.int (x2 + x1)), .val (.int (1 : Int32)), .unset] [(.int (4 : Int32)), (.int (2 : Int32))]))
   refine own_st (fun t => XS.icmpYes (own_here Y100) hx rfl (pc0 := 211) (pc' := 235) rfl (hb hby at_211) rfl (XT.ii_le_t (by decide)) (by decide) (by decide)) ?_
   show own_Ends _ _ _ _ (T99.setTop (mkF m 235 #[.val (.int x0), .val (.int x1), .val (.int x2), .val (.int x3), .val (.int x4), .val (.int x5), .val (.int (2 : Int32)), .val (.ref b86), .val (.int x1), .val (.int (x1 + x2)), .val (.int ((x1 + x2) + x3)), .val (.int (((x1 + x2) + x3) + x4)), .val (.int ((((x1 + x2) + x3) + x4) + x5)), .val (.int (x2 + x1)), .val (.int (1 : Int32)), .unset] []))
   refine own_st (fun t => XS.iload (own_here Y100) hx rfl (hb hby at_235) rfl) ?_
   show own_Ends _ _ _ _ (T99.setTop (mkF m 237 #[.val (.int x0), .val (.int x1), .val (.int x2), .val (.int x3), .val (.int x4), .val (.int x5), .val (.int (2 : Int32)), .val (.ref b86), .val (.int x1), .val (.int (x1 + x2)), .val (.int ((x1 + x2) + x3)), .val (.int (((x1 + x2) + x3) + x4)), .val (.int ((((x1 + x2) + x3) + x4) + x5)), .val (.int (x2 + x1)), .val (.int (1 : Int32)), .unset] [(.int x1)]))
   refine own_st (fun t => XS.istore (own_here Y100) hx rfl (hb hby at_237) rfl (l' := #[.val (.int x0), .val (.int x1), .val (.int x2), .val (.int x3), .val (.int x4), .val (.int x5), .val (.int (2 : Int32)), .val (.ref b86), .val (.int x1), .val (.int (x1 + x2)), .val (.int ((x1 + x2) + x3)), .val (.int (((x1 + x2) + x3) + x4)), .val (.int ((((x1 + x2) + x3) + x4) + x5)), .val (.int (x2 + x1)), .val (.int (1 : Int32)), .val (.int x1)]) rfl) ?_
   show own_Ends _ _ _ _ (T99.setTop (mkF m 239 #[.val (.int x0), .val (.int x1), .val (.int x2), .val (.int x3), .val (.int x4), .val (.int x5), .val (.int (2 : Int32)), .val (.ref b86), .val (.int x1), .val (.int (x1 + x2)), .val (.int ((x1 + x2) + x3)), .val (.int (((x1 + x2) + x3) + x4)), .val (.int ((((x1 + x2) + x3) + x4) + x5)), .val (.int (x2 + x1)), .val (.int (1 : Int32)), .val (.int x1)] []))
   refine own_st (fun t => XS.iload (own_here Y100) hx rfl (hb hby at_239) rfl) ?_
   show own_Ends _ _ _ _ (T99.setTop (mkF m 241 #[.val (.int x0), .val (.int x1), .val (.int x2), .val (.int x3), .val (.int x4), .val (.int x5), .val (.int (2 : Int32)), .val (.ref b86), .val (.int x1), .val (.int (x1 + x2)), .val (.int ((x1 + x2) + x3)), .val (.int (((x1 + x2) + x3) + x4)), .val (.int ((((x1 + x2) + x3) + x4) + x5)), .val (.int (x2 + x1)), .val (.int (1 : Int32)), .val (.int x1)] [(.int (2 : Int32))]))
   refine own_st (fun t => XS.iconst (own_here Y100) hx rfl (hb hby at_241) ) ?_
   show own_Ends _ _ _ _ (T99.setTop (mkF m 242 #[.val (.int x0), .val (.int x1), .val (.int x2), .val (.int x3), .val (.int x4), .val (.int x5), .val (.int (2 : Int32)), .val (.ref b86), .val (.int x1), .val (.int (x1 + x2)), .val (.int ((x1 + x2) + x3)), .val (.int (((x1 + x2) + x3) + x4)), .val (.int ((((x1 + x2) + x3) + x4) + x5)), .val (.int (x2 + x1)), .val (.int (1 : Int32)), .val (.int x1)] [(.int (2 : Int32)), (.int (2 : Int32))]))
   refine own_st (fun t => XS.icmpNo (own_here Y100) hx rfl (hb hby at_242) rfl (XT.ii_ne_f (by decide))) ?_
   show own_Ends _ _ _ _ (T99.setTop (mkF m 245 #[.val (.int x0), .val (.int x1), .val (.int x2), .val (.int x3), .val (.int x4), .val (.int x5), .val (.int (2 : Int32)), .val (.ref b86), .val (.int x1), .val (.int (x1 + x2)), .val (.int ((x1 + x2) + x3)), .val (.int (((x1 + x2) + x3) + x4)), .val (.int ((((x1 + x2) + x3) + x4) + x5)), .val (.int (x2 + x1)), .val (.int (1 : Int32)), .val (.int x1)] []))
   refine own_st (fun t => XS.iload (own_here Y100) hx rfl (hb hby at_245) rfl) ?_
   show own_Ends _ _ _ _ (T99.setTop (mkF m 247 #[.val (.int x0), .val (.int x1), .val (.int x2), .val (.int x3), .val (.int x4), .val (.int x5), .val (.int (2 : Int32)), .val (.ref b86), .val (.int x1), .val (.int (x1 + x2)), .val (.int ((x1 + x2) + x3)), .val (.int (((x1 + x2) + x3) + x4)), .val (.int ((((x1 + x2) + x3) + x4) + x5)), .val (.int (x2 + x1)), .val (.int (1 : Int32)), .val (.int x1)] [(.int (x1 + x2))]))
   refine own_st (fun t => XS.istore (own_here Y100) hx rfl (hb hby at_247) rfl (l' := #[.val (.int x0), .val (.int x1), .val (.int x2), .val (.int x3), .val (.int x4), .val (.int x5), .val (.int (2 : Int32)), .val (.ref b86), .val (.int x1), .val (.int (x1 + x2)), .val (.int ((x1 + x2) + x3)), .val (.int (((x1 + x2) + x3) + x4)), .val (.int ((((x1 + x2) + x3) + x4) + x5)), .val (.int (x2 + x1)), .val (.int (1 : Int32)), .val (.int (x1 + x2))]) rfl) ?_
   show own_Ends _ _ _ _ (T99.setTop (mkF m 249 #[.val (.int x0), .val (.int x1), .val (.int x2), .val (.int x3), .val (.int x4), .val (.int x5), .val (.int (2 : Int32)), .val (.ref b86), .val (.int x1), .val (.int (x1 + x2)), .val (.int ((x1 + x2) + x3)), .val (.int (((x1 + x2) + x3) + x4)), .val (.int ((((x1 + x2) + x3) + x4) + x5)), .val (.int (x2 + x1)), .val (.int (1 : Int32)), .val (.int (x1 + x2))] []))
   refine own_st (fun t => XS.goto (own_here Y100) hx rfl (pc0 := 249) (pc' := 288) rfl (hb hby at_249) (by decide) (by decide)) ?_
   show own_Ends _ _ _ _ (T99.setTop (mkF m 288 #[.val (.int x0), .val (.int x1), .val (.int x2), .val (.int x3), .val (.int x4), .val (.int x5), .val (.int (2 : Int32)), .val (.ref b86), .val (.int x1), .val (.int (x1 + x2)), .val (.int ((x1 + x2) + x3)), .val (.int (((x1 + x2) + x3) + x4)), .val (.int ((((x1 + x2) + x3) + x4) + x5)), .val (.int (x2 + x1)), .val (.int (1 : Int32)), .val (.int (x1 + x2))] []))
   refine own_st (fun t => XS.iload (own_here Y100) hx rfl (hb hby at_288) rfl) ?_
   show own_Ends _ _ _ _ (T99.setTop (mkF m 290 #[.val (.int x0), .val (.int x1), .val (.int x2), .val (.int x3), .val (.int x4), .val (.int x5), .val (.int (2 : Int32)), .val (.ref b86), .val (.int x1), .val (.int (x1 + x2)), .val (.int ((x1 + x2) + x3)), .val (.int (((x1 + x2) + x3) + x4)), .val (.int ((((x1 + x2) + x3) + x4) + x5)), .val (.int (x2 + x1)), .val (.int (1 : Int32)), .val (.int (x1 + x2))] [(.int (1 : Int32))]))
   refine own_st (fun t => XS.ifNo (own_here Y100) hx rfl (hb hby at_290) rfl (XT.i0_eq_f (by decide))) ?_
   show own_Ends _ _ _ _ (T99.setTop (mkF m 293 #[.val (.int x0), .val (.int x1), .val (.int x2), .val (.int x3), .val (.int x4), .val (.int x5), .val (.int (2 : Int32)), .val (.ref b86), .val (.int x1), .val (.int (x1 + x2)), .val (.int ((x1 + x2) + x3)), .val (.int (((x1 + x2) + x3) + x4)), .val (.int ((((x1 + x2) + x3) + x4) + x5)), .val (.int (x2 + x1)), .val (.int (1 : Int32)), .val (.int (x1 + x2))] []))
   refine own_st (fun t => XS.iload (own_here Y100) hx rfl (hb hby at_293) rfl) ?_
   show own_Ends _ _ _ _ (T99.setTop (mkF m 295 #[.val (.int x0), .val (.int x1), .val (.int x2), .val (.int x3), .val (.int x4), .val (.int x5), .val (.int (2 : Int32)), .val (.ref b86), .val (.int x1), .val (.int (x1 + x2)), .val (.int ((x1 + x2) + x3)), .val (.int (((x1 + x2) + x3) + x4)), .val (.int ((((x1 + x2) + x3) + x4) + x5)), .val (.int (x2 + x1)), .val (.int (1 : Int32)), .val (.int (x1 + x2))] [(.int (x2 + x1))]))
   refine own_st (fun t => XS.iload (own_here Y100) hx rfl (hb hby at_295) rfl) ?_
   show own_Ends _ _ _ _ (T99.setTop (mkF m 297 #[.val (.int x0), .val (.int x1), .val (.int x2), .val (.int x3), .val (.int x4), .val (.int x5), .val (.int (2 : Int32)), .val (.ref b86), .val (.int x1), .val (.int (x1 + x2)), .val (.int ((x1 + x2) + x3)), .val (.int (((x1 + x2) + x3) + x4)), .val (.int ((((x1 + x2) + x3) + x4) + x5)), .val (.int (x2 + x1)), .val (.int (1 : Int32)), .val (.int (x1 + x2))] [(.int (x1 + x2)), (.int (x2 + x1))]))
   refine own_st (fun t => XS.icmpNo (own_here Y100) hx rfl (hb hby at_297) rfl (XT.ii_ne_f (by first | rfl | ac_rfl | simp only [Int32.add_comm, Int32.add_left_comm, Int32.add_assoc]))) ?_
   show own_Ends _ _ _ _ (T99.setTop (mkF m 300 #[.val (.int x0), .val (.int x1), .val (.int x2), .val (.int x3), .val (.int x4), .val (.int x5), .val (.int (2 : Int32)), .val (.ref b86), .val (.int x1), .val (.int (x1 + x2)), .val (.int ((x1 + x2) + x3)), .val (.int (((x1 + x2) + x3) + x4)), .val (.int ((((x1 + x2) + x3) + x4) + x5)), .val (.int (x2 + x1)), .val (.int (1 : Int32)), .val (.int (x1 + x2))] []))
   refine own_st (fun t => XS.iconst (own_here Y100) hx rfl (hb hby at_300) ) ?_
   show own_Ends _ _ _ _ (T99.setTop (mkF m 301 #[.val (.int x0), .val (.int x1), .val (.int x2), .val (.int x3), .val (.int x4), .val (.int x5), .val (.int (2 : Int32)), .val (.ref b86), .val (.int x1), .val (.int (x1 + x2)), .val (.int ((x1 + x2) + x3)), .val (.int (((x1 + x2) + x3) + x4)), .val (.int ((((x1 + x2) + x3) + x4) + x5)), .val (.int (x2 + x1)), .val (.int (1 : Int32)), .val (.int (x1 + x2))] [(.int (1 : Int32))]))
   refine own_st (fun t => XS.goto (own_here Y100) hx rfl (pc0 := 301) (pc' := 305) rfl (hb hby at_301) (by decide) (by decide)) ?_
   show own_Ends _ _ _ _ (T99.setTop (mkF m 305 #[.val (.int x0), .val (.int x1), .val (.int x2), .val (.int x3), .val (.int x4), .val (.int x5), .val (.int (2 : Int32)), .val (.ref b86), .val (.int x1), .val (.int (x1 + x2)), .val (.int ((x1 + x2) + x3)), .val (.int (((x1 + x2) + x3) + x4)), .val (.int ((((x1 + x2) + x3) + x4) + x5)), .val (.int (x2 + x1)), .val (.int (1 : Int32)), .val (.int (x1 + x2))] [(.int (1 : Int32))]))
   refine own_retN Y100 hx hlk (t := .boolean) hret (by simp) (hb hby at_305) (by decide) (by decide) ?_
   exact rfl
  ·
   show own_Ends _ _ _ _ (T0.setTop (mkF m 10 #[.val (.int x0), .val (.int x1), .val (.int x2), .val (.int x3), .val (.int x4), .val (.int x5), .val (.int (3 : Int32)), .unset, .unset, .unset, .unset, .unset, .unset, .unset, .unset, .unset] []))
   refine own_st (fun t => XS.iload (own_here Y0) hx rfl (hb hby at_10) rfl) ?_
   show own_Ends _ _ _ _ (T0.setTop (mkF m 12 #[.val (.int x0), .val (.int x1), .val (.int x2), .val (.int x3), .val (.int x4), .val (.int x5), .val (.int (3 : Int32)), .unset, .unset, .unset, .unset, .unset, .unset, .unset, .unset, .unset] [(.int (3 : Int32))]))
   refine own_newP Y0 hx hZ (hw _ (List.mem_of_getElem? (i := 1) rfl)) rfl (hb hby at_12) rfl (by decide) (nz := 3) (cap := 3) (by decide) (by decide) (by decide) (by decide) (by decide) (ty := .int) rfl (fun T106 h108 b111 eb112 Y107 E109 A110 => ?_)
   have g113 : n0 ≤ b111 := by rw [eb112]; exact Z0
   replace A110 : own_A Z h108 b111 .int [(.int (0 : Int32)), (.int (0 : Int32)), (.int (0 : Int32))] := A110
   show own_Ends _ _ _ _ (T106.setTop (mkF m 14 #[.val (.int x0), .val (.int x1), .val (.int x2), .val (.int x3), .val (.int x4), .val (.int x5), .val (.int (3 : Int32)), .unset, .unset, .unset, .unset, .unset, .unset, .unset, .unset, .unset] [(.ref b111)]))
   refine own_st (fun t => XS.astore (own_here Y107) hx rfl (hb hby at_14) rfl rfl (l' := #[.val (.int x0), .val (.int x1), .val (.int x2), .val (.int x3), .val (.int x4), .val (.int x5), .val (.int (3 : Int32)), .val (.ref b111), .unset, .unset, .unset, .unset, .unset, .unset, .unset, .unset]) rfl) ?_
   show own_Ends _ _ _ _ (T106.setTop (mkF m 16 #[.val (.int x0), .val (.int x1), .val (.int x2), .val (.int x3), .val (.int x4), .val (.int x5), .val (.int (3 : Int32)), .val (.ref b111), .unset, .unset, .unset, .unset, .unset, .unset, .unset, .unset] []))
   refine own_st (fun t => XS.aload (own_here Y107) hx rfl (hb hby at_16) rfl rfl) ?_
   show own_Ends _ _ _ _ (T106.setTop (mkF m 18 #[.val (.int x0), .val (.int x1), .val (.int x2), .val (.int x3), .val (.int x4), .val (.int x5), .val (.int (3 : Int32)), .val (.ref b111), .unset, .unset, .unset, .unset, .unset, .unset, .unset, .unset] [(.ref b111)]))
   refine own_st (fun t => XS.iconst (own_here Y107) hx rfl (hb hby at_18) ) ?_
   show own_Ends _ _ _ _ (T106.setTop (mkF m 19 #[.val (.int x0), .val (.int x1), .val (.int x2), .val (.int x3), .val (.int x4), .val (.int x5), .val (.int (3 : Int32)), .val (.ref b111), .unset, .unset, .unset, .unset, .unset, .unset, .unset, .unset] [(.int (0 : Int32)), (.ref b111)]))
   refine own_st (fun t => XS.iloadN (own_here Y107) hx rfl (hb hby at_19) rfl) ?_
   show own_Ends _ _ _ _ (T106.setTop (mkF m 20 #[.val (.int x0), .val (.int x1), .val (.int x2), .val (.int x3), .val (.int x4), .val (.int x5), .val (.int (3 : Int32)), .val (.ref b111), .unset, .unset, .unset, .unset, .unset, .unset, .unset, .unset] [(.int x1), (.int (0 : Int32)), (.ref b111)]))
   refine own_stI Y107 hx hZ A110 g113 (i := 0) (by decide) (by decide) (Nat.le_of_ble_eq_true rfl) rfl rfl (hb hby at_20) (fun T114 h116 Y115 W117 A118 => ?_)
   replace A118 : own_A Z h116 b111 .int [(.int x1), (.int (0 : Int32)), (.int (0 : Int32))] := A118
   show own_Ends _ _ _ _ (T114.setTop (mkF m 21 #[.val (.int x0), .val (.int x1), .val (.int x2), .val (.int x3), .val (.int x4), .val (.int x5), .val (.int (3 : Int32)), .val (.ref b111), .unset, .unset, .unset, .unset, .unset, .unset, .unset, .unset] []))
   refine own_st (fun t => XS.iload (own_here Y115) hx rfl (hb hby at_21) rfl) ?_
   show own_Ends _ _ _ _ (T114.setTop (mkF m 23 #[.val (.int x0), .val (.int x1), .val (.int x2), .val (.int x3), .val (.int x4), .val (.int x5), .val (.int (3 : Int32)), .val (.ref b111), .unset, .unset, .unset, .unset, .unset, .unset, .unset, .unset] [(.int (3 : Int32))]))
   refine own_st (fun t => XS.iconst (own_here Y115) hx rfl (hb hby at_23) ) ?_
   show own_Ends _ _ _ _ (T114.setTop (mkF m 24 #[.val (.int x0), .val (.int x1), .val (.int x2), .val (.int x3), .val (.int x4), .val (.int x5), .val (.int (3 : Int32)), .val (.ref b111), .unset, .unset, .unset, .unset, .unset, .unset, .unset, .unset] [(.int (1 : Int32)), (.int (3 : Int32))]))
   refine own_st (fun t => XS.icmpNo (own_here Y115) hx rfl (hb hby at_24) rfl (XT.ii_le_f (by decide))) ?_
   show own_Ends _ _ _ _ (T114.setTop (mkF m 27 #[.val (.int x0), .val (.int x1), .val (.int x2), .val (.int x3), .val (.int x4), .val (.int x5), .val (.int (3 : Int32)), .val (.ref b111), .unset, .unset, .unset, .unset, .unset, .unset, .unset, .unset] []))
   refine own_st (fun t => XS.aload (own_here Y115) hx rfl (hb hby at_27) rfl rfl) ?_
   show own_Ends _ _ _ _ (T114.setTop (mkF m 29 #[.val (.int x0), .val (.int x1), .val (.int x2), .val (.int x3), .val (.int x4), .val (.int x5), .val (.int (3 : Int32)), .val (.ref b111), .unset, .unset, .unset, .unset, .unset, .unset, .unset, .unset] [(.ref b111)]))
   refine own_st (fun t => XS.iconst (own_here Y115) hx rfl (hb hby at_29) ) ?_
   show own_Ends _ _ _ _ (T114.setTop (mkF m 30 #[.val (.int x0), .val (.int x1), .val (.int x2), .val (.int x3), .val (.int x4), .val (.int x5), .val (.int (3 : Int32)), .val (.ref b111), .unset, .unset, .unset, .unset, .unset, .unset, .unset, .unset] [(.int (1 : Int32)), (.ref b111)]))
   refine own_st (fun t => XS.iloadN (own_here Y115) hx rfl (hb hby at_30) rfl) ?_
   show own_Ends _ _ _ _ (T114.setTop (mkF m 31 #[.val (.int x0), .val (.int x1), .val (.int x2), .val (.int x3), .val (.int x4), .val (.int x5), .val (.int (3 : Int32)), .val (.ref b111), .unset, .unset, .unset, .unset, .unset, .unset, .unset, .unset] [(.int x2), (.int (1 : Int32)), (.ref b111)]))
   refine own_stI Y115 hx hZ A118 g113 (i := 1) (by decide) (by decide) (Nat.le_of_ble_eq_true rfl) rfl rfl (hb hby at_31) (fun T119 h121 Y120 W122 A123 => ?_)
   replace A123 : own_A Z h121 b111 .int [(.int x1), (.int x2), (.int (0 : Int32))] := A123
   show own_Ends _ _ _ _ (T119.setTop (mkF m 32 #[.val (.int x0), .val (.int x1), .val (.int x2), .val (.int x3), .val (.int x4), .val (.int x5), .val (.int (3 : Int32)), .val (.ref b111), .unset, .unset, .unset, .unset, .unset, .unset, .unset, .unset] []))
   refine own_st (fun t => XS.iload (own_here Y120) hx rfl (hb hby at_32) rfl) ?_
   show own_Ends _ _ _ _ (T119.setTop (mkF m 34 #[.val (.int x0), .val (.int x1), .val (.int x2), .val (.int x3), .val (.int x4), .val (.int x5), .val (.int (3 : Int32)), .val (.ref b111), .unset, .unset, .unset, .unset, .unset, .unset, .unset, .unset] [(.int (3 : Int32))]))
   refine own_st (fun t => XS.iconst (own_here Y120) hx rfl (hb hby at_34) ) ?_
   show own_Ends _ _ _ _ (T119.setTop (mkF m 35 #[.val (.int x0), .val (.int x1), .val (.int x2), .val (.int x3), .val (.int x4), .val (.int x5), .val (.int (3 : Int32)), .val (.ref b111), .unset, .unset, .unset, .unset, .unset, .unset, .unset, .unset] [(.int (2 : Int32)), (.int (3 : Int32))]))
   refine own_st (fun t => XS.icmpNo (own_here Y120) hx rfl (hb hby at_35) rfl (XT.ii_le_f (by decide))) ?_
   show own_Ends _ _ _ _ (T119.setTop (mkF m 38 #[.val (.int x0), .val (.int x1), .val (.int x2), .val (.int x3), .val (.int x4), .val (.int x5), .val (.int (3 : Int32)), .val (.ref b111), .unset, .unset, .unset, .unset, .unset, .unset, .unset, .unset] []))
   refine own_st (fun t => XS.aload (own_here Y120) hx rfl (hb hby at_38) rfl rfl) ?_
   show own_Ends _ _ _ _ (T119.setTop (mkF m 40 #[.val (.int x0), .val (.int x1), .val (.int x2), .val (.int x3), .val (.int x4), .val (.int x5), .val (.int (3 : Int32)), .val (.ref b111), .unset, .unset, .unset, .unset, .unset, .unset, .unset, .unset] [(.ref b111)]))
   refine own_st (fun t => XS.iconst (own_here Y120) hx rfl (hb hby at_40) ) ?_
   show own_Ends _ _ _ _ (T119.setTop (mkF m 41 #[.val (.int x0), .val (.int x1), .val (.int x2), .val (.int x3), .val (.int x4), .val (.int x5), .val (.int (3 : Int32)), .val (.ref b111), .unset, .unset, .unset, .unset, .unset, .unset, .unset, .unset] [(.int (2 : Int32)), (.ref b111)]))
   refine own_st (fun t => XS.iloadN (own_here Y120) hx rfl (hb hby at_41) rfl) ?_
   show own_Ends _ _ _ _ (T119.setTop (mkF m 42 #[.val (.int x0), .val (.int x1), .val (.int x2), .val (.int x3), .val (.int x4), .val (.int x5), .val (.int (3 : Int32)), .val (.ref b111), .unset, .unset, .unset, .unset, .unset, .unset, .unset, .unset] [(.int x3), (.int (2 : Int32)), (.ref b111)]))
   refine own_stI Y120 hx hZ A123 g113 (i := 2) (by decide) (by decide) (Nat.le_of_ble_eq_true rfl) rfl rfl (hb hby at_42) (fun T124 h126 Y125 W127 A128 => ?_)
   replace A128 : own_A Z h126 b111 .int [(.int x1), (.int x2), (.int x3)] := A128
   show own_Ends _ _ _ _ (T124.setTop (mkF m 43 #[.val (.int x0), .val (.int x1), .val (.int x2), .val (.int x3), .val (.int x4), .val (.int x5), .val (.int (3 : Int32)), .val (.ref b111), .unset, .unset, .unset, .unset, .unset, .unset, .unset, .unset] []))
   refine own_st (fun t => XS.iload (own_here Y125) hx rfl (hb hby at_43) rfl) ?_
   show own_Ends _ _ _ _ (T124.setTop (mkF m 45 #[.val (.int x0), .val (.int x1), .val (.int x2), .val (.int x3), .val (.int x4), .val (.int x5), .val (.int (3 : Int32)), .val (.ref b111), .unset, .unset, .unset, .unset, .unset, .unset, .unset, .unset] [(.int (3 : Int32))]))
   refine own_st (fun t => XS.iconst (own_here Y125) hx rfl (hb hby at_45) ) ?_
   show own_Ends _ _ _ _ (T124.setTop (mkF m 46 #[.val (.int x0), .val (.int x1), .val (.int x2), .val (.int x3), .val (.int x4), .val (.int x5), .val (.int (3 : Int32)), .val (.ref b111), .unset, .unset, .unset, .unset, .unset, .unset, .unset, .unset] [(.int (3 : Int32)), (.int (3 : Int32))]))
   refine own_st (fun t => XS.icmpYes (own_here Y125) hx rfl (pc0 := 46) (pc' := 55) rfl (hb hby at_46) rfl (XT.ii_le_t (by decide)) (by decide) (by decide)) ?_
   show own_Ends _ _ _ _ (T124.setTop (mkF m 55 #[.val (.int x0), .val (.int x1), .val (.int x2), .val (.int x3), .val (.int x4), .val (.int x5), .val (.int (3 : Int32)), .val (.ref b111), .unset, .unset, .unset, .unset, .unset, .unset, .unset, .unset] []))
   refine own_st (fun t => XS.iload (own_here Y125) hx rfl (hb hby at_55) rfl) ?_
   show own_Ends _ _ _ _ (T124.setTop (mkF m 57 #[.val (.int x0), .val (.int x1), .val (.int x2), .val (.int x3), .val (.int x4), .val (.int x5), .val (.int (3 : Int32)), .val (.ref b111), .unset, .unset, .unset, .unset, .unset, .unset, .unset, .unset] [(.int (3 : Int32))]))
   refine own_st (fun t => XS.iconst (own_here Y125) hx rfl (hb hby at_57) ) ?_
   show own_Ends _ _ _ _ (T124.setTop (mkF m 58 #[.val (.int x0), .val (.int x1), .val (.int x2), .val (.int x3), .val (.int x4), .val (.int x5), .val (.int (3 : Int32)), .val (.ref b111), .unset, .unset, .unset, .unset, .unset, .unset, .unset, .unset] [(.int (4 : Int32)), (.int (3 : Int32))]))
   refine own_st (fun t => XS.icmpYes (own_here Y125) hx rfl (pc0 := 58) (pc' := 67) rfl (hb hby at_58) rfl (XT.ii_le_t (by decide)) (by decide) (by decide)) ?_
   show own_Ends _ _ _ _ (T124.setTop (mkF m 67 #[.val (.int x0), .val (.int x1), .val (.int x2), .val (.int x3), .val (.int x4), .val (.int x5), .val (.int (3 : Int32)), .val (.ref b111), .unset, .unset, .unset, .unset, .unset, .unset, .unset, .unset] []))
   refine own_st (fun t => XS.iloadN (own_here Y125) hx rfl (hb hby at_67) rfl) ?_
   show own_Ends _ _ _ _ (T124.setTop (mkF m 68 #[.val (.int x0), .val (.int x1), .val (.int x2), .val (.int x3), .val (.int x4), .val (.int x5), .val (.int (3 : Int32)), .val (.ref b111), .unset, .unset, .unset, .unset, .unset, .unset, .unset, .unset] [(.int x1)]))
   refine own_st (fun t => XS.istore (own_here Y125) hx rfl (hb hby at_68) rfl (l' := #[.val (.int x0), .val (.int x1), .val (.int x2), .val (.int x3), .val (.int x4), .val (.int x5), .val (.int (3 : Int32)), .val (.ref b111), .val (.int x1), .unset, .unset, .unset, .unset, .unset, .unset, .unset]) rfl) ?_
   show own_Ends _ _ _ _ (T124.setTop (mkF m 70 #[.val (.int x0), .val (.int x1), .val (.int x2), .val (.int x3), .val (.int x4), .val (.int x5), .val (.int (3 : Int32)), .val (.ref b111), .val (.int x1), .unset, .unset, .unset, .unset, .unset, .unset, .unset] []))
   refine own_st (fun t => XS.iload (own_here Y125) hx rfl (hb hby at_70) rfl) ?_
   show own_Ends _ _ _ _ (T124.setTop (mkF m 72 #[.val (.int x0), .val (.int x1), .val (.int x2), .val (.int x3), .val (.int x4), .val (.int x5), .val (.int (3 : Int32)), .val (.ref b111), .val (.int x1), .unset, .unset, .unset, .unset, .unset, .unset, .unset] [(.int x1)]))
   refine own_st (fun t => XS.iloadN (own_here Y125) hx rfl (hb hby at_72) rfl) ?_
   show own_Ends _ _ _ _ (T124.setTop (mkF m 73 #[.val (.int x0), .val (.int x1), .val (.int x2), .val (.int x3), .val (.int x4), .val (.int x5), .val (.int (3 : Int32)), .val (.ref b111), .val (.int x1), .unset, .unset, .unset, .unset, .unset, .unset, .unset] [(.int x2), (.int x1)]))
   refine own_st (fun t => XS.iadd (own_here Y125) hx rfl (hb hby at_73) rfl) ?_
   show own_Ends _ _ _ _ (T124.setTop (mkF m 74 #[.val (.int x0), .val (.int x1), .val (.int x2), .val (.int x3), .val (.int x4), .val (.int x5), .val (.int (3 : Int32)), .val (.ref b111), .val (.int x1), .unset, .unset, .unset, .unset, .unset, .unset, .unset] [(.int (x1 + x2))]))
   refine own_st (fun t => XS.istore (own_here Y125) hx rfl (hb hby at_74) rfl (l' := #[.val (.int x0), .val (.int x1), .val (.int x2), .val (.int x3), .val (.int x4), .val (.int x5), .val (.int (3 : Int32)), .val (.ref b111), .val (.int x1), .val (.int (x1 + x2)), .unset, .unset, .unset, .unset, .unset, .unset]) rfl) ?_
   show own_Ends _ _ _ _ (T124.setTop (mkF m 76 #[.val (.int x0), .val (.int x1), .val (.int x2), .val (.int x3), .val (.int x4), .val (.int x5), .val (.int (3 : Int32)), .val (.ref b111), .val (.int x1), .val (.int (x1 + x2)), .unset, .unset, .unset, .unset, .unset, .unset] []))
   refine own_st (fun t => XS.iload (own_here Y125) hx rfl (hb hby at_76) rfl) ?_
   show own_Ends _ _ _ _ (T124.setTop (mkF m 78 #[.val (.int x0), .val (.int x1), .val (.int x2), .val (.int x3), .val (.int x4), .val (.int x5), .val (.int (3 : Int32)), .val (.ref b111), .val (.int x1), .val (.int (x1 + x2)), .unset, .unset, .unset, .unset, .unset, .unset] [(.int (x1 + x2))]))
   refine own_st (fun t => XS.iloadN (own_here Y125) hx rfl (hb hby at_78) rfl) ?_
   show own_Ends _ _ _ _ (T124.setTop (mkF m 79 #[.val (.int x0), .val (.int x1), .val (.int x2), .val (.int x3), .val (.int x4), .val (.int x5), .val (.int (3 : Int32)), .val (.ref b111), .val (.int x1), .val (.int (x1 + x2)), .unset, .unset, .unset, .unset, .unset, .unset] [(.int x3), (.int (x1 + x2))]))
   refine own_st (fun t => XS.iadd (own_here Y125) hx rfl (hb hby at_79) rfl) ?_
   show own_Ends _ _ _ _ (T124.setTop (mkF m 80 #[.val (.int x0), .val (.int x1), .val (.int x2), .val (.int x3), .val (.int x4), .val (.int x5), .val (.int (3 : Int32)), .val (.ref b111), .val (.int x1), .val (.int (x1 + x2)), .unset, .unset, .unset, .unset, .unset, .unset] [(.int ((x1 + x2) + x3))]))
   refine own_st (fun t => XS.istore (own_here Y125) hx rfl (hb hby at_80) rfl (l' := #[.val (.int x0), .val (.int x1), .val (.int x2), .val (.int x3), .val (.int x4), .val (.int x5), .val (.int (3 : Int32)), .val (.ref b111), .val (.int x1), .val (.int (x1 + x2)), .val (.int ((x1 + x2) + x3)), .unset, .unset, .unset, .unset, .unset]) rfl) ?_
   show own_Ends _ _ _ _ (T124.setTop (mkF m 82 #[.val (.int x0), .val (.int x1), .val (.int x2), .val (.int x3), .val (.int x4), .val (.int x5), .val (.int (3 : Int32)), .val (.ref b111), .val (.int x1), .val (.int (x1 + x2)), .val (.int ((x1 + x2) + x3)), .unset, .unset, .unset, .unset, .unset] []))
   refine own_st (fun t => XS.iload (own_here Y125) hx rfl (hb hby at_82) rfl) ?_
   show own_Ends _ _ _ _ (T124.setTop (mkF m 84 #[.val (.int x0), .val (.int x1), .val (.int x2), .val (.int x3), .val (.int x4), .val (.int x5), .val (.int (3 : Int32)), .val (.ref b111), .val (.int x1), .val (.int (x1 + x2)), .val (.int ((x1 + x2) + x3)), .unset, .unset, .unset, .unset, .unset] [(.int ((x1 + x2) + x3))]))
   refine own_st (fun t => XS.iload (own_here Y125) hx rfl (hb hby at_84) rfl) ?_
   show own_Ends _ _ _ _ (T124.setTop (mkF m 86 #[.val (.int x0), .val (.int x1), .val (.int x2), .val (.int x3), .val (.int x4), .val (.int x5), .val (.int (3 : Int32)), .val (.ref b111), .val (.int x1), .val (.int (x1 + x2)), .val (.int ((x1 + x2) + x3)), .unset, .unset, .unset, .unset, .unset] [(.int x4), (.int ((x1 + x2) + x3))]))
   refine own_st (fun t => XS.iadd (own_here Y125) hx rfl (hb hby at_86) rfl) ?_
   show own_Ends _ _ _ _ (T124.setTop (mkF m 87 #[.val (.int x0), .val (.int x1), .val (.int x2), .val (.int x3), .val (.int x4), .val (.int x5), .val (.int (3 : Int32)), .val (.ref b111), .val (.int x1), .val (.int (x1 + x2)), .val (.int ((x1 + x2) + x3)), .unset, .unset, .unset, .unset, .unset] [(.int (((x1 + x2) + x3) + x4))]))
   refine own_st (fun t => XS.istore (own_here Y125) hx rfl (hb hby at_87) rfl (l' := #[.val (.int x0), .val (.int x1), .val (.int x2), .val (.int x3), .val (.int x4), .val (.int x5), .val (.int (3 : Int32)), .val (.ref b111), .val (.int x1), .val (.int (x1 + x2)), .val (.int ((x1 + x2) + x3)), .val (.int (((x1 + x2) + x3) + x4)), .unset, .unset, .unset, .unset]) rfl) ?_
   show own_Ends _ _ _ _ (T124.setTop (mkF m 89 #[.val (.int x0), .val (.int x1), .val (.int x2), .val (.int x3), .val (.int x4), .val (.int x5), .val (.int (3 : Int32)), .val (.ref b111), .val (.int x1), .val (.int (x1 + x2)), .val (.int ((x1 + x2) + x3)), .val (.int (((x1 + x2) + x3) + x4)), .unset, .unset, .unset, .unset] []))
   refine own_st (fun t => XS.iload (own_here Y125) hx rfl (hb hby at_89) rfl) ?_
   show own_Ends _ _ _ _ (T124.setTop (mkF m 91 #[.val (.int x0), .val (.int x1), .val (.int x2), .val (.int x3), .val (.int x4), .val (.int x5), .val (.int (3 : Int32)), .val (.ref b111), .val (.int x1), .val (.int (x1 + x2)), .val (.int ((x1 + x2) + x3)), .val (.int (((x1 + x2) + x3) + x4)), .unset, .unset, .unset, .unset] [(.int (((x1 + x2) + x3) + x4))]))
   refine own_st (fun t => XS.iload (own_here Y125) hx rfl (hb hby at_91) rfl) ?_
   show own_Ends _ _ _ _ (T124.setTop (mkF m 93 #[.val (.int x0), .val (.int x1), .val (.int x2), .val (.int x3), .val (.int x4), .val (.int x5), .val (.int (3 : Int32)), .val (.ref b111), .val (.int x1), .val (.int (x1 + x2)), .val (.int ((x1 + x2) + x3)), .val (.int (((x1 + x2) + x3) + x4)), .unset, .unset, .unset, .unset] [(.int x5), (.int (((x1 + x2) + x3) + x4))]))
   refine own_st (fun t => XS.iadd (own_here Y125) hx rfl (hb hby at_93) rfl) ?_
   show own_Ends _ _ _ _ (T124.setTop (mkF m 94 #[.val (.int x0), .val (.int x1), .val (.int x2), .val (.int x3), .val (.int x4), .val (.int x5), .val (.int (3 : Int32)), .val (.ref b111), .val (.int x1), .val (.int (x1 + x2)), .val (.int ((x1 + x2) + x3)), .val (.int (((x1 + x2) + x3) + x4)), .unset, .unset, .unset, .unset] [(.int ((((x1 + x2) + x3) + x4) + x5))]))
   refine own_st (fun t => XS.istore (own_here Y125) hx rfl (hb hby at_94) rfl (l' := #[.val (.int x0), .val (.int x1), .val (.int x2), .val (.int x3), .val (.int x4), .val (.int x5), .val (.int (3 : Int32)), .val (.ref b111), .val (.int x1), .val (.int (x1 + x2)), .val (.int ((x1 + x2) + x3)), .val (.int (((x1 + x2) + x3) + x4)), .val (.int ((((x1 + x2) + x3) + x4) + x5)), .unset, .unset, .unset]) rfl) ?_
   show own_Ends _ _ _ _ (T124.setTop (mkF m 96 #[.val (.int x0), .val (.int x1), .val (.int x2), .val (.int x3), .val (.int x4), .val (.int x5), .val (.int (3 : Int32)), .val (.ref b111), .val (.int x1), .val (.int (x1 + x2)), .val (.int ((x1 + x2) + x3)), .val (.int (((x1 + x2) + x3) + x4)), .val (.int ((((x1 + x2) + x3) + x4) + x5)), .unset, .unset, .unset] []))
   refine own_st (fun t => XS.aload (own_here Y125) hx rfl (hb hby at_96) rfl rfl) ?_
   show own_Ends _ _ _ _ (T124.setTop (mkF m 98 #[.val (.int x0), .val (.int x1), .val (.int x2), .val (.int x3), .val (.int x4), .val (.int x5), .val (.int (3 : Int32)), .val (.ref b111), .val (.int x1), .val (.int (x1 + x2)), .val (.int ((x1 + x2) + x3)), .val (.int (((x1 + x2) + x3) + x4)), .val (.int ((((x1 + x2) + x3) + x4) + x5)), .unset, .unset, .unset] [(.ref b111)]))
   refine own_callS Y125 hx hZ (y := (⟨"com/example/tierpath/tierpath/Hierarchy", "prefixSums", "([I)I"⟩ : MethodName)) hown (hw _ (List.mem_of_getElem? (i := 2) rfl)) (hw _ (List.mem_of_getElem? (i := 3) rfl)) (hw _ (List.mem_of_getElem? (i := 4) rfl)) (hw _ (List.mem_of_getElem? (i := 5) rfl)) (by decide) (argsL := [(.ref b111)]) (rest := []) (own_rm1_3 l Z a0 hw [] b111 x1 x2 x3 h126 n0  A128 g113) (W := 0) (by decide) (by decide) (by decide) (by decide) rfl (by rw [hml]; rfl) (lenOf own_pd0 rfl) rfl (by show 2 * 0 + _ ≤ _; exact Nat.le_of_eq rfl) (hb hby at_98) (fun T129 h131 v132 Y130 q133 => ?_)
   obtain ⟨rfl, K134, F135⟩ := q133
   show own_Ends _ _ _ _ (T129.setTop (mkF m 101 #[.val (.int x0), .val (.int x1), .val (.int x2), .val (.int x3), .val (.int x4), .val (.int x5), .val (.int (3 : Int32)), .val (.ref b111), .val (.int x1), .val (.int (x1 + x2)), .val (.int ((x1 + x2) + x3)), .val (.int (((x1 + x2) + x3) + x4)), .val (.int ((((x1 + x2) + x3) + x4) + x5)), .unset, .unset, .unset] [(.int (x3 + (x2 + x1)))]))
   refine own_st (fun t => XS.istore (own_here Y130) hx rfl (hb hby at_101) rfl (l' := #[.val (.int x0), .val (.int x1), .val (.int x2), .val (.int x3), .val (.int x4), .val (.int x5), .val (.int (3 : Int32)), .val (.ref b111), .val (.int x1), .val (.int (x1 + x2)), .val (.int ((x1 + x2) + x3)), .val (.int (((x1 + x2) + x3) + x4)), .val (.int ((((x1 + x2) + x3) + x4) + x5)), .val (.int (x3 + (x2 + x1))), .unset, .unset]) rfl) ?_
   show own_Ends _ _ _ _ (T129.setTop (mkF m 103 #[.val (.int x0), .val (.int x1), .val (.int x2), .val (.int x3), .val (.int x4), .val (.int x5), .val (.int (3 : Int32)), .val (.ref b111), .val (.int x1), .val (.int (x1 + x2)), .val (.int ((x1 + x2) + x3)), .val (.int (((x1 + x2) + x3) + x4)), .val (.int ((((x1 + x2) + x3) + x4) + x5)), .val (.int (x3 + (x2 + x1))), .unset, .unset] []))
   refine own_st (fun t => XS.aload (own_here Y130) hx rfl (hb hby at_103) rfl rfl) ?_
   show own_Ends _ _ _ _ (T129.setTop (mkF m 105 #[.val (.int x0), .val (.int x1), .val (.int x2), .val (.int x3), .val (.int x4), .val (.int x5), .val (.int (3 : Int32)), .val (.ref b111), .val (.int x1), .val (.int (x1 + x2)), .val (.int ((x1 + x2) + x3)), .val (.int (((x1 + x2) + x3) + x4)), .val (.int ((((x1 + x2) + x3) + x4) + x5)), .val (.int (x3 + (x2 + x1))), .unset, .unset] [(.ref b111)]))
   refine own_len Y130 hx hZ F135 (z := (3 : Int32)) rfl rfl rfl (hb hby at_105) ?_
   show own_Ends _ _ _ _ (T129.setTop (mkF m 106 #[.val (.int x0), .val (.int x1), .val (.int x2), .val (.int x3), .val (.int x4), .val (.int x5), .val (.int (3 : Int32)), .val (.ref b111), .val (.int x1), .val (.int (x1 + x2)), .val (.int ((x1 + x2) + x3)), .val (.int (((x1 + x2) + x3) + x4)), .val (.int ((((x1 + x2) + x3) + x4) + x5)), .val (.int (x3 + (x2 + x1))), .unset, .unset] [(.int (3 : Int32))]))
   refine own_st (fun t => XS.iload (own_here Y130) hx rfl (hb hby at_106) rfl) ?_
   show own_Ends _ _ _ _ (T129.setTop (mkF m 108 #[.val (.int x0), .val (.int x1), .val (.int x2), .val (.int x3), .val (.int x4), .val (.int x5), .val (.int (3 : Int32)), .val (.ref b111), .val (.int x1), .val (.int (x1 + x2)), .val (.int ((x1 + x2) + x3)), .val (.int (((x1 + x2) + x3) + x4)), .val (.int ((((x1 + x2) + x3) + x4) + x5)), .val (.int (x3 + (x2 + x1))), .unset, .unset] [(.int (3 : Int32)), (.int (3 : Int32))]))
   refine own_st (fun t => XS.icmpNo (own_here Y130) hx rfl (hb hby at_108) rfl (XT.ii_ne_f (by decide))) ?_
   show own_Ends _ _ _ _ (T129.setTop (mkF m 111 #[.val (.int x0), .val (.int x1), .val (.int x2), .val (.int x3), .val (.int x4), .val (.int x5), .val (.int (3 : Int32)), .val (.ref b111), .val (.int x1), .val (.int (x1 + x2)), .val (.int ((x1 + x2) + x3)), .val (.int (((x1 + x2) + x3) + x4)), .val (.int ((((x1 + x2) + x3) + x4) + x5)), .val (.int (x3 + (x2 + x1))), .unset, .unset] []))
   refine own_st (fun t => XS.aload (own_here Y130) hx rfl (hb hby at_111) rfl rfl) ?_
   show own_Ends _ _ _ _ (T129.setTop (mkF m 113 #[.val (.int x0), .val (.int x1), .val (.int x2), .val (.int x3), .val (.int x4), .val (.int x5), .val (.int (3 : Int32)), .val (.ref b111), .val (.int x1), .val (.int (x1 + x2)), .val (.int ((x1 + x2) + x3)), .val (.int (((x1 + x2) + x3) + x4)), .val (.int ((((x1 + x2) + x3) + x4) + x5)), .val (.int (x3 + (x2 + x1))), .unset, .unset] [(.ref b111)]))
   refine own_st (fun t => XS.iconst (own_here Y130) hx rfl (hb hby at_113) ) ?_
   show own_Ends _ _ _ _ (T129.setTop (mkF m 114 #[.val (.int x0), .val (.int x1), .val (.int x2), .val (.int x3), .val (.int x4), .val (.int x5), .val (.int (3 : Int32)), .val (.ref b111), .val (.int x1), .val (.int (x1 + x2)), .val (.int ((x1 + x2) + x3)), .val (.int (((x1 + x2) + x3) + x4)), .val (.int ((((x1 + x2) + x3) + x4) + x5)), .val (.int (x3 + (x2 + x1))), .unset, .unset] [(.int (0 : Int32)), (.ref b111)]))
   refine own_ldI Y130 hx hZ F135 (i := 0) (by decide) (by decide) (Nat.le_of_ble_eq_true rfl) (v := (.int x1)) rfl rfl rfl (hb hby at_114) ?_
   show own_Ends _ _ _ _ (T129.setTop (mkF m 115 #[.val (.int x0), .val (.int x1), .val (.int x2), .val (.int x3), .val (.int x4), .val (.int x5), .val (.int (3 : Int32)), .val (.ref b111), .val (.int x1), .val (.int (x1 + x2)), .val (.int ((x1 + x2) + x3)), .val (.int (((x1 + x2) + x3) + x4)), .val (.int ((((x1 + x2) + x3) + x4) + x5)), .val (.int (x3 + (x2 + x1))), .unset, .unset] [(.int x1)]))
   refine own_st (fun t => XS.iload (own_here Y130) hx rfl (hb hby at_115) rfl) ?_
   show own_Ends _ _ _ _ (T129.setTop (mkF m 117 #[.val (.int x0), .val (.int x1), .val (.int x2), .val (.int x3), .val (.int x4), .val (.int x5), .val (.int (3 : Int32)), .val (.ref b111), .val (.int x1), .val (.int (x1 + x2)), .val (.int ((x1 + x2) + x3)), .val (.int (((x1 + x2) + x3) + x4)), .val (.int ((((x1 + x2) + x3) + x4) + x5)), .val (.int (x3 + (x2 + x1))), .unset, .unset] [(.int x1), (.int x1)]))
   refine own_st (fun t => XS.icmpNo (own_here Y130) hx rfl (hb hby at_117) rfl (XT.ii_ne_f (by first | rfl | ac_rfl | simp only [Int32.add_comm, Int32.add_left_comm, Int32.add_assoc]))) ?_
   show own_Ends _ _ _ _ (T129.setTop (mkF m 120 #[.val (.int x0), .val (.int x1), .val (.int x2), .val (.int x3), .val (.int x4), .val (.int x5), .val (.int (3 : Int32)), .val (.ref b111), .val (.int x1), .val (.int (x1 + x2)), .val (.int ((x1 + x2) + x3)), .val (.int (((x1 + x2) + x3) + x4)), .val (.int ((((x1 + x2) + x3) + x4) + x5)), .val (.int (x3 + (x2 + x1))), .unset, .unset] []))
   refine own_st (fun t => XS.iconst (own_here Y130) hx rfl (hb hby at_120) ) ?_
   show own_Ends _ _ _ _ (T129.setTop (mkF m 121 #[.val (.int x0), .val (.int x1), .val (.int x2), .val (.int x3), .val (.int x4), .val (.int x5), .val (.int (3 : Int32)), .val (.ref b111), .val (.int x1), .val (.int (x1 + x2)), .val (.int ((x1 + x2) + x3)), .val (.int (((x1 + x2) + x3) + x4)), .val (.int ((((x1 + x2) + x3) + x4) + x5)), .val (.int (x3 + (x2 + x1))), .unset, .unset] [(.int (1 : Int32))]))
   refine own_st (fun t => XS.goto (own_here Y130) hx rfl (pc0 := 121) (pc' := 125) rfl (hb hby at_121) (by decide) (by decide)) ?_
   show own_Ends _ _ _ _ (T129.setTop (mkF m 125 #[.val (.int x0), .val (.int x1), .val (.int x2), .val (.int x3), .val (.int x4), .val (.int x5), .val (.int (3 : Int32)), .val (.ref b111), .val (.int x1), .val (.int (x1 + x2)), .val (.int ((x1 + x2) + x3)), .val (.int (((x1 + x2) + x3) + x4)), .val (.int ((((x1 + x2) + x3) + x4) + x5)), .val (.int (x3 + (x2 + x1))), .unset, .unset] [(.int (1 : Int32))]))
   refine own_st (fun t => XS.istore (own_here Y130) hx rfl (hb hby at_125) rfl (l' := #[.val (.int x0), .val (.int x1), .val (.int x2), .val (.int x3), .val (.int x4), .val (.int x5), .val (.int (3 : Int32)), .val (.ref b111), .val (.int x1), .val (.int (x1 + x2)), .val (.int ((x1 + x2) + x3)), .val (.int (((x1 + x2) + x3) + x4)), .val (.int ((((x1 + x2) + x3) + x4) + x5)), .val (.int (x3 + (x2 + x1))), .val (.int (1 : Int32)), .unset]) rfl) ?_
   show own_Ends _ _ _ _ (T129.setTop (mkF m 127 #[.val (.int x0), .val (.int x1), .val (.int x2), .val (.int x3), .val (.int x4), .val (.int x5), .val (.int (3 : Int32)), .val (.ref b111), .val (.int x1), .val (.int (x1 + x2)), .val (.int ((x1 + x2) + x3)), .val (.int (((x1 + x2) + x3) + x4)), .val (.int ((((x1 + x2) + x3) + x4) + x5)), .val (.int (x3 + (x2 + x1))), .val (.int (1 : Int32)), .unset] []))
   refine own_st (fun t => XS.iload (own_here Y130) hx rfl (hb hby at_127) rfl) ?_
   show own_Ends _ _ _ _ (T129.setTop (mkF m 129 #[.val (.int x0), .val (.int x1), .val (.int x2), .val (.int x3), .val (.int x4), .val (.int x5), .val (.int (3 : Int32)), .val (.ref b111), .val (.int x1), .val (.int (x1 + x2)), .val (.int ((x1 + x2) + x3)), .val (.int (((x1 + x2) + x3) + x4)), .val (.int ((((x1 + x2) + x3) + x4) + x5)), .val (.int (x3 + (x2 + x1))), .val (.int (1 : Int32)), .unset] [(.int (3 : Int32))]))
   refine own_st (fun t => XS.iconst (own_here Y130) hx rfl (hb hby at_129) ) ?_
   show own_Ends _ _ _ _ (T129.setTop (mkF m 130 #[.val (.int x0), .val (.int x1), .val (.int x2), .val (.int x3), .val (.int x4), .val (.int x5), .val (.int (3 : Int32)), .val (.ref b111), .val (.int x1), .val (.int (x1 + x2)), .val (.int ((x1 + x2) + x3)), .val (.int (((x1 + x2) + x3) + x4)), .val (.int ((((x1 + x2) + x3) + x4) + x5)), .val (.int (x3 + (x2 + x1))), .val (.int (1 : Int32)), .unset] [(.int (1 : Int32)), (.int (3 : Int32))]))
   refine own_st (fun t => XS.icmpNo (own_here Y130) hx rfl (hb hby at_130) rfl (XT.ii_le_f (by decide))) ?_
   show own_Ends _ _ _ _ (T129.setTop (mkF m 133 #[.val (.int x0), .val (.int x1), .val (.int x2), .val (.int x3), .val (.int x4), .val (.int x5), .val (.int (3 : Int32)), .val (.ref b111), .val (.int x1), .val (.int (x1 + x2)), .val (.int ((x1 + x2) + x3)), .val (.int (((x1 + x2) + x3) + x4)), .val (.int ((((x1 + x2) + x3) + x4) + x5)), .val (.int (x3 + (x2 + x1))), .val (.int (1 : Int32)), .unset] []))
   refine own_st (fun t => XS.iload (own_here Y130) hx rfl (hb hby at_133) rfl) ?_
   show own_Ends _ _ _ _ (T129.setTop (mkF m 135 #[.val (.int x0), .val (.int x1), .val (.int x2), .val (.int x3), .val (.int x4), .val (.int x5), .val (.int (3 : Int32)), .val (.ref b111), .val (.int x1), .val (.int (x1 + x2)), .val (.int ((x1 + x2) + x3)), .val (.int (((x1 + x2) + x3) + x4)), .val (.int ((((x1 + x2) + x3) + x4) + x5)), .val (.int (x3 + (x2 + x1))), .val (.int (1 : Int32)), .unset] [(.int (1 : Int32))]))
   refine own_st (fun t => XS.ifNo (own_here Y130) hx rfl (hb hby at_135) rfl (XT.i0_eq_f (by decide))) ?_
   show own_Ends _ _ _ _ (T129.setTop (mkF m 138 #[.val (.int x0), .val (.int x1), .val (.int x2), .val (.int x3), .val (.int x4), .val (.int x5), .val (.int (3 : Int32)), .val (.ref b111), .val (.int x1), .val (.int (x1 + x2)), .val (.int ((x1 + x2) + x3)), .val (.int (((x1 + x2) + x3) + x4)), .val (.int ((((x1 + x2) + x3) + x4) + x5)), .val (.int (x3 + (x2 + x1))), .val (.int (1 : Int32)), .unset] []))
   refine own_st (fun t => XS.aload (own_here Y130) hx rfl (hb hby at_138) rfl rfl) ?_
   show own_Ends _ _ _ _ (T129.setTop (mkF m 140 #[.val (.int x0), .val (.int x1), .val (.int x2), .val (.int x3), .val (.int x4), .val (.int x5), .val (.int (3 : Int32)), .val (.ref b111), .val (.int x1), .val (.int (x1 + x2)), .val (.int ((x1 + x2) + x3)), .val (.int (((x1 + x2) + x3) + x4)), .val (.int ((((x1 + x2) + x3) + x4) + x5)), .val (.int (x3 + (x2 + x1))), .val (.int (1 : Int32)), .unset] [(.ref b111)]))
   refine own_st (fun t => XS.iconst (own_here Y130) hx rfl (hb hby at_140) ) ?_
   show own_Ends _ _ _ _ (T129.setTop (mkF m 141 #[.val (.int x0), .val (.int x1), .val (.int x2), .val (.int x3), .val (.int x4), .val (.int x5), .val (.int (3 : Int32)), .val (.ref b111), .val (.int x1), .val (.int (x1 + x2)), .val (.int ((x1 + x2) + x3)), .val (.int (((x1 + x2) + x3) + x4)), .val (.int ((((x1 + x2) + x3) + x4) + x5)), .val (.int (x3 + (x2 + x1))), .val (.int (1 : Int32)), .unset] [(.int (1 : Int32)), (.ref b111)]))
   refine own_ldI Y130 hx hZ F135 (i := 1) (by decide) (by decide) (Nat.le_of_ble_eq_true rfl) (v := (.int (x2 + x1))) rfl rfl rfl (hb hby at_141) ?_
   show own_Ends _ _ _ _ (T129.setTop (mkF m 142 #[.val (.int x0), .val (.int x1), .val (.int x2), .val (.int x3), .val (.int x4), .val (.int x5), .val (.int (3 : Int32)), .val (.ref b111), .val (.int x1), .val (.int (x1 + x2)), .val (.int ((x1 + x2) + x3)), .val (.int (((x1 + x2) + x3) + x4)), .val (.int ((((x1 + x2) + x3) + x4) + x5)), .val (.int (x3 + (x2 + x1))), .val (.int (1 : Int32)), .unset] [(.int (x2 + x1))]))
   refine own_st (fun t => XS.iload (own_here Y130) hx rfl (hb hby at_142) rfl) ?_
   show own_Ends _ _ _ _ (T129.setTop (mkF m 144 #[.val (.int x0), .val (.int x1), .val (.int x2), .val (.int x3), .val (.int x4), .val (.int x5), .val (.int (3 : Int32)), .val (.ref b111), .val (.int x1), .val (.int (x1 + x2)), .val (.int ((x1 + x2) + x3)), .val (.int (((x1 + x2) + x3) + x4)), .val (.int ((((x1 + x2) + x3) + x4) + x5)), .val (.int (x3 + (x2 + x1))), .val (.int (1 : Int32)), .unset] [(.int (x1 + x2)), (.int (x2 + x1))]))
   refine own_st (fun t => XS.icmpNo (own_here Y130) hx rfl (hb hby at_144) rfl (XT.ii_ne_f (by first | rfl | ac_rfl | simp only [Int32.add_comm, Int32.add_left_comm, Int32.add_assoc]))) ?_
   show own_Ends _ _ _ _ (T129.setTop (mkF m 147 #[.val (.int x0), .val (.int x1), .val (.int x2), .val (.int x3), .val (.int x4), .val (.int x5), .val (.int (3 : Int32)), .val (.ref b111), .val (.int x1), .val (.int (x1 + x2)), .val (.int ((x1 + x2) + x3)), .val (.int (((x1 + x2) + x3) + x4)), .val (.int ((((x1 + x2) + x3) + x4) + x5)), .val (.int (x3 + (x2 + x1))), .val (.int (1 : Int32)), .unset] []))
   refine own_st (fun t => XS.iconst (own_here Y130) hx rfl (hb hby at_147) ) ?_
   show own_Ends _ _ _ _ (T129.setTop (mkF m 148 #[.val (.int x0), .val (.int x1), .val (.int x2), .val (.int x3), .val (.int x4), .val (.int x5), .val (.int (3 : Int32)), .val (.ref b111), .val (.int x1), .val (.int (x1 + x2)), .val (.int ((x1 + x2) + x3)), .val (.int (((x1 + x2) + x3) + x4)), .val (.int ((((x1 + x2) + x3) + x4) + x5)), .val (.int (x3 + (x2 + x1))), .val (.int (1 : Int32)), .unset] [(.int (1 : Int32))]))
   refine own_st (fun t => XS.goto (own_here Y130) hx rfl (pc0 := 148) (pc' := 152) rfl (hb hby at_148) (by decide) (by decide)) ?_
   show own_Ends _ _ _ _ (T129.setTop (mkF m 152 #[.val (.int x0), .val (.int x1), .val (.int x2), .val (.int x3), .val (.int x4), .val (.int x5), .val (.int (3 : Int32)), .val (.ref b111), .val (.int x1), .val (.int (x1 + x2)), .val (.int ((x1 + x2) + x3)), .val (.int (((x1 + x2) + x3) + x4)), .val (.int ((((x1 + x2) + x3) + x4) + x5)), .val (.int (x3 + (x2 + x1))), .val (.int (1 : Int32)), .unset] [(.int (1 : Int32))]))
   refine own_st (fun t => XS.istore (own_here Y130) hx rfl (hb hby at_152) rfl (l' := #[.val (.int x0), .val (.int x1), .val (.int x2), .val (.int x3), .val (.int x4), .val (.int x5), .val (.int (3 : Int32)), .val (.ref b111), .val (.int x1), .val (.int (x1 + x2)), .val (.int ((x1 + x2) + x3)), .val (.int (((x1 + x2) + x3) + x4)), .val (.int ((((x1 + x2) + x3) + x4) + x5)), .val (.int (x3 + (x2 + x1))), .val (.int (1 : Int32)), .unset]) rfl) ?_
   show own_Ends _ _ _ _ (T129.setTop (mkF m 154 #[.val (.int x0), .val (.int x1), .val (.int x2), .val (.int x3), .val (.int x4), .val (.int x5), .val (.int (3 : Int32)), .val (.ref b111), .val (.int x1), .val (.int (x1 + x2)), .val (.int ((x1 + x2) + x3)), .val (.int (((x1 + x2) + x3) + x4)), .val (.int ((((x1 + x2) + x3) + x4) + x5)), .val (.int (x3 + (x2 + x1))), .val (.int (1 : Int32)), .unset] []))
   refine own_st (fun t => XS.iload (own_here Y130) hx rfl (hb hby at_154) rfl) ?_
   show own_Ends _ _ _ _ (T129.setTop (mkF m 156 #[.val (.int x0), .val (.int x1), .val (.int x2), .val (.int x3), .val (.int x4), .val (.int x5), .val (.int (3 : Int32)), .val (.ref b111), .val (.int x1), .val (.int (x1 + x2)), .val (.int ((x1 + x2) + x3)), .val (.int (((x1 + x2) + x3) + x4)), .val (.int ((((x1 + x2) + x3) + x4) + x5)), .val (.int (x3 + (x2 + x1))), .val (.int (1 : Int32)), .unset] [(.int (3 : Int32))]))
   refine own_st (fun t => XS.iconst (own_here Y130) hx rfl (hb hby at_156) ) ?_
   show own_Ends _ _ _ _ (T129.setTop (mkF m 157 #[.val (.int x0), .val (.int x1), .val (.int x2), .val (.int x3), .val (.int x4), .val (.int x5), .val (.int (3 : Int32)), .val (.ref b111), .val (.int x1), .val (.int (x1 + x2)), .val (.int ((x1 + x2) + x3)), .val (.int (((x1 + x2) + x3) + x4)), .val (.int ((((x1 + x2) + x3) + x4) + x5)), .val (.int (x3 + (x2 + x1))), .val (.int (1 : Int32)), .unset] [(.int (2 : Int32)), (.int (3 : Int32))]))
   refine own_st (fun t => XS.icmpNo (own_here Y130) hx rfl (hb hby at_157) rfl (XT.ii_le_f (by decide))) ?_
   show own_Ends _ _ _ _ (T129.setTop (mkF m 160 #[.val (.int x0), .val (.int x1), .val (.int x2), .val (.int x3), .val (.int x4), .val (.int x5), .val (.int (3 : Int32)), .val (.ref b111), .val (.int x1), .val (.int (x1 + x2)), .val (.int ((x1 + x2) + x3)), .val (.int (((x1 + x2) + x3) + x4)), .val (.int ((((x1 + x2) + x3) + x4) + x5)), .val (.int (x3 + (x2 + x1))), .val (.int (1 : Int32)), .unset] []))
   refine own_st (fun t => XS.iload (own_here Y130) hx rfl (hb hby at_160) rfl) ?_
   show own_Ends _ _ _ _ (T129.setTop (mkF m 162 #[.val (.int x0), .val (.int x1), .val (.int x2), .val (.int x3), .val (.int x4), .val (.int x5), .val (.int (3 : Int32)), .val (.ref b111), .val (.int x1), .val (.int (x1 + x2)), .val (.int ((x1 + x2) + x3)), .val (.int (((x1 + x2) + x3) + x4)), .val (.int ((((x1 + x2) + x3) + x4) + x5)), .val (.int (x3 + (x2 + x1))), .val (.int (1 : Int32)), .unset] [(.int (1 : Int32))]))
   refine own_st (fun t => XS.ifNo (own_here Y130) hx rfl (hb hby at_162) rfl (XT.i0_eq_f (by decide))) ?_
   show own_Ends _ _ _ _ (T129.setTop (mkF m 165 #[.val (.int x0), .val (.int x1), .val (.int x2), .val (.int x3), .val (.int x4), .val (.int x5), .val (.int (3 : Int32)), .val (.ref b111), .val (.int x1), .val (.int (x1 + x2)), .val (.int ((x1 + x2) + x3)), .val (.int (((x1 + x2) + x3) + x4)), .val (.int ((((x1 + x2) + x3) + x4) + x5)), .val (.int (x3 + (x2 + x1))), .val (.int (1 : Int32)), .unset] []))
   refine own_st (fun t => XS.aload (own_here Y130) hx rfl (hb hby at_165) rfl rfl) ?_
   show own_Ends _ _ _ _ (T129.setTop (mkF m 167 #[.val (.int x0), .val (.int x1), .val (.int x2), .val (.int x3), .val (.int x4), .val (.int x5), .val (.int (3 : Int32)), .val (.ref b111), .val (.int x1), .val (.int (x1 + x2)), .val (.int ((x1 + x2) + x3)), .val (.int (((x1 + x2) + x3) + x4)), .val (.int ((((x1 + x2) + x3) + x4) + x5)), .val (.int (x3 + (x2 + x1))), .val (.int (1 : Int32)), .unset] [(.ref b111)]))
   refine own_st (fun t => XS.iconst (own_here Y130) hx rfl (hb hby at_167) ) ?_
   show own_Ends _ _ _ _ (T129.setTop (mkF m 168 #[.val (.int x0), .val (.int x1), .val (.int x2), .val (.int x3), .val (.int x4), .val (.int x5), .val (.int (3 : Int32)), .val (.ref b111), .val (.int x1), .val (.int (x1 + x2)), .val (.int ((x1 + x2) + x3)), .val (.int (((x1 + x2) + x3) + x4)), .val (.int ((((x1 + x2) + x3) + x4) + x5)), .val (.int (x3 + (x2 + x1))), .val (.int (1 : Int32)), .unset] [(.int (2 : Int32)), (.ref b111)]))
   refine own_ldI Y130 hx hZ F135 (i := 2) (by decide) (by decide) (Nat.le_of_ble_eq_true rfl) (v := (.int (x3 + (x2 + x1)))) rfl rfl rfl (hb hby at_168) ?_
   show own_Ends _ _ _ _ (T129.setTop (mkF m 169 #[.val (.int x0), .val (.int x1), .val (.int x2), .val (.int x3), .val (.int x4), .val (.int x5), .val (.int (3 : Int32)), .val (.ref b111), .val (.int x1), .val (.int (x1 + x2)), .val (.int ((x1 + x2) + x3)), .val (.int (((x1 + x2) + x3) + x4)), .val (.int ((((x1 + x2) + x3) + x4) + x5)), .val (.int (x3 + (x2 + x1))), .val (.int (1 : Int32)), .unset] [(.int (x3 + (x2 + x1)))]))
   refine own_st (fun t => XS.iload (own_here Y130) hx rfl (hb hby at_169) rfl) ?_
   show own_Ends _ _ _ _ (T129.setTop (mkF m 171 #[.val (.int x0), .val (.int x1), .val (.int x2), .val (.int x3), .val (.int x4), .val (.int x5), .val (.int (3 : Int32)), .val (.ref b111), .val (.int x1), .val (.int (x1 + x2)), .val (.int ((x1 + x2) + x3)), .val (.int (((x1 + x2) + x3) + x4)), .val (.int ((((x1 + x2) + x3) + x4) + x5)), .val (.int (x3 + (x2 + x1))), .val (.int (1 : Int32)), .unset] [(.int ((x1 + x2) + x3)), (.int (x3 + (x2 + x1)))]))
   refine own_st (fun t => XS.icmpNo (own_here Y130) hx rfl (hb hby at_171) rfl (XT.ii_ne_f (by first | rfl | ac_rfl | simp only [Int32.add_comm, Int32.add_left_comm, Int32.add_assoc]))) ?_
   show own_Ends _ _ _ _ (T129.setTop (mkF m 174 #[.val (.int x0), .val (.int x1), .val (.int x2), .val (.int x3), .val (.int x4), .val (.int x5), .val (.int (3 : Int32)), .val (.ref b111), .val (.int x1), .val (.int (x1 + x2)), .val (.int ((x1 + x2) + x3)), .val (.int (((x1 + x2) + x3) + x4)), .val (.int ((((x1 + x2) + x3) + x4) + x5)), .val (.int (x3 + (x2 + x1))), .val (.int (1 : Int32)), .unset] []))
   refine own_st (fun t => XS.iconst (own_here Y130) hx rfl (hb hby at_174) ) ?_
   show own_Ends _ _ _ _ (T129.setTop (mkF m 175 #[.val (.int x0), .val (.int x1), .val (.int x2), .val (.int x3), .val (.int x4), .val (.int x5), .val (.int (3 : Int32)), .val (.ref b111), .val (.int x1), .val (.int (x1 + x2)), .val (.int ((x1 + x2) + x3)), .val (.int (((x1 + x2) + x3) + x4)), .val (.int ((((x1 + x2) + x3) + x4) + x5)), .val (.int (x3 + (x2 + x1))), .val (.int (1 : Int32)), .unset] [(.int (1 : Int32))]))
   refine own_st (fun t => XS.goto (own_here Y130) hx rfl (pc0 := 175) (pc' := 179) rfl (hb hby at_175) (by decide) (by decide)) ?_
   show own_Ends _ _ _ _ (T129.setTop (mkF m 179 #[.val (.int x0), .val (.int x1), .val (.int x2), .val (.int x3), .val (.int x4), .val (.int x5), .val (.int (3 : Int32)), .val (.ref b111), .val (.int x1), .val (.int (x1 + x2)), .val (.int ((x1 + x2) + x3)), .val (.int (((x1 + x2) + x3) + x4)), .val (.int ((((x1 + x2) + x3) + x4) + x5)), .val (.int (x3 + (x2 + x1))), .val (.int (1 : Int32)), .unset] [(.int (1 : Int32))]))
   refine own_st (fun t => XS.istore (own_here Y130) hx rfl (hb hby at_179) rfl (l' := #[.val (.int x0), .val (.int x1), .val (.int x2), .val (.int x3), .val (.int x4), .val (.int x5), .val (.int (3 : Int32)), .val (.ref b111), .val (.int x1), .val (.int (x1 + x2)), .val (.int ((x1 + x2) + x3)), .val (.int (((x1 + x2) + x3) + x4)), .val (.int ((((x1 + x2) + x3) + x4) + x5)), .val (.int (x3 + (x2 + x1))), .val (.int (1 : Int32)), .unset]) rfl) ?_
   show own_Ends _ _ _ _ (T129.setTop (mkF m 181 #[.val (.int x0), .val (.int x1), .val (.int x2), .val (.int x3), .val (.int x4), .val (.int x5), .val (.int (3 : Int32)), .val (.ref b111), .val (.int x1), .val (.int (x1 + x2)), .val (.int ((x1 + x2) + x3)), .val (.int (((x1 + x2) + x3) + x4)), .val (.int ((((x1 + x2) + x3) + x4) + x5)), .val (.int (x3 + (x2 + x1))), .val (.int (1 : Int32)), .unset] []))
   refine own_st (fun t => XS.iload (own_here Y130) hx rfl (hb hby at_181) rfl) ?_
   show own_Ends _ _ _ _ (T129.setTop (mkF m 183 #[.val (.int x0), .val (.int x1), .val (.int x2), .val (.int x3), .val (.int x4), .val (.int x5), .val (.int (3 : Int32)), .val (.ref b111), .val (.int x1), .val (.int (x1 + x2)), .val (.int ((x1 + x2) + x3)), .val (.int (((x1 + x2) + x3) + x4)), .val (.int ((((x1 + x2) + x3) + x4) + x5)), .val (.int (x3 + (x2 + x1))), .val (.int (1 : Int32)), .unset] [(.int (3 : Int32))]))
   refine own_st (fun t => XS.iconst (own_here Y130) hx rfl (hb hby at_183) ) ?_
   show own_Ends _ _ _ _ (T129.setTop (mkF m 184 #[.val (.int x0), .val (.int x1), .val (.int x2), .val (.int x3), .val (.int x4), .val (.int x5), .val (.int (3 : Int32)), .val (.ref b111), .val (.int x1), .val (.int (x1 + x2)), .val (.int ((x1 + x2) + x3)), .val (.int (((x1 + x2) + x3) + x4)), .val (.int ((((x1 + x2) + x3) + x4) + x5)), .val (.int (x3 + (x2 + x1))), .val (.int (1 : Int32)), .unset] [(.int (3 : Int32)), (.int (3 : Int32))]))
   refine own_st (fun t => XS.icmpYes (own_here Y130) hx rfl (pc0 := 184) (pc' := 208) rfl (hb hby at_184) rfl (XT.ii_le_t (by decide)) (by decide) (by decide)) ?_
   show own_Ends _ _ _ _ (T129.setTop (mkF m 208 #[.val (.int x0), .val (.int x1), .val (.int x2), .val (.int x3), .val (.int x4), .val (.int x5), .val (.int (3 : Int32)), .val (.ref b111), .val (.int x1), .val (.int (x1 + x2)), .val (.int ((x1 + x2) + x3)), .val (.int (((x1 + x2) + x3) + x4)), .val (.int ((((x1 + x2) + x3) + x4) + x5)), .val (.int (x3 + (x2 + x1))), .val (.int (1 : Int32)), .unset] []))
   refine own_st (fun t => XS.iload (own_here Y130) hx rfl (hb hby at_208) rfl) ?_
   show own_Ends _ _ _ _ (T129.setTop (mkF m 210 #[.val (.int x0), .val (.int x1), .val (.int x2), .val (.int x3), .val (.int x4), .val (.int x5), .val (.int (3 : Int32)), .val (.ref b111), .val (.int x1), .val (.int (x1 + x2)), .val (.int ((x1 + x2) + x3)), .val (.int (((x1 + x2) + x3) + x4)), .val (.int ((((x1 + x2) + x3) + x4) + x5)), .val (.int (x3 + (x2 + x1))), .val (.int (1 : Int32)), .unset] [(.int (3 : Int32))]))
   refine own_st (fun t => XS.iconst (own_here Y130) hx rfl (hb hby at_210) ) ?_
   show own_Ends _ _ _ _ (T129.setTop (mkF m 211 #[.val (.int x0), .val (.int x1), .val (.int x2), .val (.int x3), .val (.int x4), .val (.int x5), .val (.int (3 : Int32)), .val (.ref b111), .val (.int x1), .val (.int (x1 + x2)), .val (.int ((x1 + x2) + x3)), .val (.int (((x1 + x2) + x3) + x4)), .val (.int ((((x1 + x2) + x3) + x4) + x5)), .val (.int (x3 + (x2 + x1))), .val (.int (1 : Int32)), .unset] [(.int (4 : Int32)), (.int (3 : Int32))]))
   refine own_st (fun t => XS.icmpYes (own_here Y130) hx rfl (pc0 := 211) (pc' := 235) rfl (hb hby at_211) rfl (XT.ii_le_t (by decide)) (by decide) (by decide)) ?_
   show own_Ends _ _ _ _ (T129.setTop (mkF m 235 #[.val (.int x0), .val (.int x1), .val (.int x2), .val (.int x3), .val (.int x4), .val (.int x5), .val (.int (3 : Int32)), .val (.ref b111), .val (.int x1), .val (.int (x1 + x2)), .val (.int ((x1 + x2) + x3)), .val (.int (((x1 + x2) + x3) + x4)), .val (.int ((((x1 + x2) + x3) + x4) + x5)), .val (.int (x3 + (x2 + x1))), .val (.int (1 : Int32)), .unset] []))
   refine own_st (fun t => XS.iload (own_here Y130) hx rfl (hb hby at_235) rfl) ?_
   show own_Ends _ _ _ _ (T129.setTop (mkF m 237 #[.val (.int x0), .val (.int x1), .val (.int x2), .val (.int x3), .val (.int x4), .val (.int x5), .val (.int (3 : Int32)), .val (.ref b111), .val (.int x1), .val (.int (x1 + x2)), .val (.int ((x1 + x2) + x3)), .val (.int (((x1 + x2) + x3) + x4)), .val (.int ((((x1 + x2) + x3) + x4) + x5)), .val (.int (x3 + (x2 + x1))), .val (.int (1 : Int32)), .unset] [(.int x1)]))
   refine own_st (fun t => XS.istore (own_here Y130) hx rfl (hb hby at_237) rfl (l' := #[.val (.int x0), .val (.int x1), .val (.int x2), .val (.int x3), .val (.int x4), .val (.int x5), .val (.int (3 : Int32)), .val (.ref b111), .val (.int x1), .val (.int (x1 + x2)), .val (.int ((x1 + x2) + x3)), .val (.int (((x1 + x2) + x3) + x4)), .val (.int ((((x1 + x2) + x3) + x4) + x5)), .val (.int (x3 + (x2 + x1))), .val (.int (1 : Int32)), .val (.int x1)]) rfl) ?_
   show own_Ends _ _ _ _ (T129.setTop (mkF m 239 #[.val (.int x0), .val (.int x1), .val (.int x2), .val (.int x3), .val (.int x4), .val (.int x5), .val (.int (3 : Int32)), .val (.ref b111), .val (.int x1), .val (.int (x1 + x2)), .val (.int ((x1 + x2) + x3)), .val (.int (((x1 + x2) + x3) + x4)), .val (.int ((((x1 + x2) + x3) + x4) + x5)), .val (.int (x3 + (x2 + x1))), .val (.int (1 : Int32)), .val (.int x1)] []))
   refine own_st (fun t => XS.iload (own_here Y130) hx rfl (hb hby at_239) rfl) ?_
   show own_Ends _ _ _ _ (T129.setTop (mkF m 241 #[.val (.int x0), .val (.int x1), .val (.int x2), .val (.int x3), .val (.int x4), .val (.int x5), .val (.int (3 : Int32)), .val (.ref b111), .val (.int x1), .val (.int (x1 + x2)), .val (.int ((x1 + x2) + x3)), .val (.int (((x1 + x2) + x3) + x4)), .val (.int ((((x1 + x2) + x3) + x4) + x5)), .val (.int (x3 + (x2 + x1))), .val (.int (1 : Int32)), .val (.int x1)] [(.int (3 : Int32))]))
   refine own_st (fun t => XS.iconst (own_here Y130) hx rfl (hb hby at_241) ) ?_
   show own_Ends _ _ _ _ (T129.setTop (mkF m 242 #[.val (.int x0), .val (.int x1), .val (.int x2), .val (.int x3), .val (.int x4), .val (.int x5), .val (.int (3 : Int32)), .val (.ref b111), .val (.int x1), .val (.int (x1 + x2)), .val (.int ((x1 + x2) + x3)), .val (.int (((x1 + x2) + x3) + x4)), .val (.int ((((x1 + x2) + x3) + x4) + x5)), .val (.int (x3 + (x2 + x1))), .val (.int (1 : Int32)), .val (.int x1)] [(.int (2 : Int32)), (.int (3 : Int32))]))
   refine own_st (fun t => XS.icmpYes (own_here Y130) hx rfl (pc0 := 242) (pc' := 252) rfl (hb hby at_242) rfl (XT.ii_ne_t (by decide)) (by decide) (by decide)) ?_
   show own_Ends _ _ _ _ (T129.setTop (mkF m 252 #[.val (.int x0), .val (.int x1), .val (.int x2), .val (.int x3), .val (.int x4), .val (.int x5), .val (.int (3 : Int32)), .val (.ref b111), .val (.int x1), .val (.int (x1 + x2)), .val (.int ((x1 + x2) + x3)), .val (.int (((x1 + x2) + x3) + x4)), .val (.int ((((x1 + x2) + x3) + x4) + x5)), .val (.int (x3 + (x2 + x1))), .val (.int (1 : Int32)), .val (.int x1)] []))
   refine own_st (fun t => XS.iload (own_here Y130) hx rfl (hb hby at_252) rfl) ?_
   show own_Ends _ _ _ _ (T129.setTop (mkF m 254 #[.val (.int x0), .val (.int x1), .val (.int x2), .val (.int x3), .val (.int x4), .val (.int x5), .val (.int (3 : Int32)), .val (.ref b111), .val (.int x1), .val (.int (x1 + x2)), .val (.int ((x1 + x2) + x3)), .val (.int (((x1 + x2) + x3) + x4)), .val (.int ((((x1 + x2) + x3) + x4) + x5)), .val (.int (x3 + (x2 + x1))), .val (.int (1 : Int32)), .val (.int x1)] [(.int (3 : Int32))]))
   refine own_st (fun t => XS.iconst (own_here Y130) hx rfl (hb hby at_254) ) ?_
   show own_Ends _ _ _ _ (T129.setTop (mkF m 255 #[.val (.int x0), .val (.int x1), .val (.int x2), .val (.int x3), .val (.int x4), .val (.int x5), .val (.int (3 : Int32)), .val (.ref b111), .val (.int x1), .val (.int (x1 + x2)), .val (.int ((x1 + x2) + x3)), .val (.int (((x1 + x2) + x3) + x4)), .val (.int ((((x1 + x2) + x3) + x4) + x5)), .val (.int (x3 + (x2 + x1))), .val (.int (1 : Int32)), .val (.int x1)] [(.int (3 : Int32)), (.int (3 : Int32))]))
   refine own_st (fun t => XS.icmpNo (own_here Y130) hx rfl (hb hby at_255) rfl (XT.ii_ne_f (by decide))) ?_
   show own_Ends _ _ _ _ (T129.setTop (mkF m 258 #[.val (.int x0), .val (.int x1), .val (.int x2), .val (.int x3), .val (.int x4), .val (.int x5), .val (.int (3 : Int32)), .val (.ref b111), .val (.int x1), .val (.int (x1 + x2)), .val (.int ((x1 + x2) + x3)), .val (.int (((x1 + x2) + x3) + x4)), .val (.int ((((x1 + x2) + x3) + x4) + x5)), .val (.int (x3 + (x2 + x1))), .val (.int (1 : Int32)), .val (.int x1)] []))
   refine own_st (fun t => XS.iload (own_here Y130) hx rfl (hb hby at_258) rfl) ?_
   show own_Ends _ _ _ _ (T129.setTop (mkF m 260 #[.val (.int x0), .val (.int x1), .val (.int x2), .val (.int x3), .val (.int x4), .val (.int x5), .val (.int (3 : Int32)), .val (.ref b111), .val (.int x1), .val (.int (x1 + x2)), .val (.int ((x1 + x2) + x3)), .val (.int (((x1 + x2) + x3) + x4)), .val (.int ((((x1 + x2) + x3) + x4) + x5)), .val (.int (x3 + (x2 + x1))), .val (.int (1 : Int32)), .val (.int x1)] [(.int ((x1 + x2) + x3))]))
   refine own_st (fun t => XS.istore (own_here Y130) hx rfl (hb hby at_260) rfl (l' := #[.val (.int x0), .val (.int x1), .val (.int x2), .val (.int x3), .val (.int x4), .val (.int x5), .val (.int (3 : Int32)), .val (.ref b111), .val (.int x1), .val (.int (x1 + x2)), .val (.int ((x1 + x2) + x3)), .val (.int (((x1 + x2) + x3) + x4)), .val (.int ((((x1 + x2) + x3) + x4) + x5)), .val (.int (x3 + (x2 + x1))), .val (.int (1 : Int32)), .val (.int ((x1 + x2) + x3))]) rfl) ?_
   show own_Ends _ _ _ _ (T129.setTop (mkF m 262 #[.val (.int x0), .val (.int x1), .val (.int x2), .val (.int x3), .val (.int x4), .val (.int x5), .val (.int (3 : Int32)), .val (.ref b111), .val (.int x1), .val (.int (x1 + x2)), .val (.int ((x1 + x2) + x3)), .val (.int (((x1 + x2) + x3) + x4)), .val (.int ((((x1 + x2) + x3) + x4) + x5)), .val (.int (x3 + (x2 + x1))), .val (.int (1 : Int32)), .val (.int ((x1 + x2) + x3))] []))
   refine own_st (fun t => XS.goto (own_here Y130) hx rfl (pc0 := 262) (pc' := 288) rfl (hb hby at_262) (by decide) (by decide)) ?_
   show own_Ends _ _ _ _ (T129.setTop (mkF m 288 #[.val (.int x0), .val (.int x1), .val (.int x2), .val (.int x3), .val (.int x4), .val (.int x5), .val (.int (3 : Int32)), .val (.ref b111), .val (.int x1), .val (.int (x1 + x2)), .val (.int ((x1 + x2) + x3)), .val (.int (((x1 + x2) + x3) + x4)), .val (.int ((((x1 + x2) + x3) + x4) + x5)), .val (.int (x3 + (x2 + x1))), .val (.int (1 : Int32)), .val (.int ((x1 + x2) + x3))] []))
   refine own_st (fun t => XS.iload (own_here Y130) hx rfl (hb hby at_288) rfl) ?_
   show own_Ends _ _ _ _ (T129.setTop (mkF m 290 #[.val (.int x0), .val (.int x1), .val (.int x2), .val (.int x3), .val (.int x4), .val (.int x5), .val (.int (3 : Int32)), .val (.ref b111), .val (.int x1), .val (.int (x1 + x2)), .val (.int ((x1 + x2) + x3)), .val (.int (((x1 + x2) + x3) + x4)), .val (.int ((((x1 + x2) + x3) + x4) + x5)), .val (.int (x3 + (x2 + x1))), .val (.int (1 : Int32)), .val (.int ((x1 + x2) + x3))] [(.int (1 : Int32))]))
   refine own_st (fun t => XS.ifNo (own_here Y130) hx rfl (hb hby at_290) rfl (XT.i0_eq_f (by decide))) ?_
   show own_Ends _ _ _ _ (T129.setTop (mkF m 293 #[.val (.int x0), .val (.int x1), .val (.int x2), .val (.int x3), .val (.int x4), .val (.int x5), .val (.int (3 : Int32)), .val (.ref b111), .val (.int x1), .val (.int (x1 + x2)), .val (.int ((x1 + x2) + x3)), .val (.int (((x1 + x2) + x3) + x4)), .val (.int ((((x1 + x2) + x3) + x4) + x5)), .val (.int (x3 + (x2 + x1))), .val (.int (1 : Int32)), .val (.int ((x1 + x2) + x3))] []))
   refine own_st (fun t => XS.iload (own_here Y130) hx rfl (hb hby at_293) rfl) ?_
   show own_Ends _ _ _ _ (T129.setTop (mkF m 295 #[.val (.int x0), .val (.int x1), .val (.int x2), .val (.int x3), .val (.int x4), .val (.int x5), .val (.int (3 : Int32)), .val (.ref b111), .val (.int x1), .val (.int (x1 + x2)), .val (.int ((x1 + x2) + x3)), .val (.int (((x1 + x2) + x3) + x4)), .val (.int ((((x1 + x2) + x3) + x4) + x5)), .val (.int (x3 + (x2 + x1))), .val (.int (1 : Int32)), .val (.int ((x1 + x2) + x3))] [(.int (x3 + (x2 + x1)))]))
   refine own_st (fun t => XS.iload (own_here Y130) hx rfl (hb hby at_295) rfl) ?_
   show own_Ends _ _ _ _ (T129.setTop (mkF m 297 #[.val (.int x0), .val (.int x1), .val (.int x2), .val (.int x3), .val (.int x4), .val (.int x5), .val (.int (3 : Int32)), .val (.ref b111), .val (.int x1), .val (.int (x1 + x2)), .val (.int ((x1 + x2) + x3)), .val (.int (((x1 + x2) + x3) + x4)), .val (.int ((((x1 + x2) + x3) + x4) + x5)), .val (.int (x3 + (x2 + x1))), .val (.int (1 : Int32)), .val (.int ((x1 + x2) + x3))] [(.int ((x1 + x2) + x3)), (.int (x3 + (x2 + x1)))]))
   refine own_st (fun t => XS.icmpNo (own_here Y130) hx rfl (hb hby at_297) rfl (XT.ii_ne_f (by first | rfl | ac_rfl | simp only [Int32.add_comm, Int32.add_left_comm, Int32.add_assoc]))) ?_
   show own_Ends _ _ _ _ (T129.setTop (mkF m 300 #[.val (.int x0), .val (.int x1), .val (.int x2), .val (.int x3), .val (.int x4), .val (.int x5), .val (.int (3 : Int32)), .val (.ref b111), .val (.int x1), .val (.int (x1 + x2)), .val (.int ((x1 + x2) + x3)), .val (.int (((x1 + x2) + x3) + x4)), .val (.int ((((x1 + x2) + x3) + x4) + x5)), .val (.int (x3 + (x2 + x1))), .val (.int (1 : Int32)), .val (.int ((x1 + x2) + x3))] []))
   refine own_st (fun t => XS.iconst (own_here Y130) hx rfl (hb hby at_300) ) ?_
   show own_Ends _ _ _ _ (T129.setTop (mkF m 301 #[.val (.int x0), .val (.int x1), .val (.int x2), .val (.int x3), .val (.int x4), .val (.int x5), .val (.int (3 : Int32)), .val (.ref b111), .val (.int x1), .val (.int (x1 + x2)), .val (.int ((x1 + x2) + x3)), .val (.int (((x1 + x2) + x3) + x4)), .val (.int ((((x1 + x2) + x3) + x4) + x5)), .val (.int (x3 + (x2 + x1))), .val (.int (1 : Int32)), .val (.int ((x1 + x2) + x3))] [(.int (1 : Int32))]))
   refine own_st (fun t => XS.goto (own_here Y130) hx rfl (pc0 := 301) (pc' := 305) rfl (hb hby at_301) (by decide) (by decide)) ?_
   show own_Ends _ _ _ _ (T129.setTop (mkF m 305 #[.val (.int x0), .val (.int x1), .val (.int x2), .val (.int x3), .val (.int x4), .val (.int x5), .val (.int (3 : Int32)), .val (.ref b111), .val (.int x1), .val (.int (x1 + x2)), .val (.int ((x1 + x2) + x3)), .val (.int (((x1 + x2) + x3) + x4)), .val (.int ((((x1 + x2) + x3) + x4) + x5)), .val (.int (x3 + (x2 + x1))), .val (.int (1 : Int32)), .val (.int ((x1 + x2) + x3))] [(.int (1 : Int32))]))
   refine own_retN Y130 hx hlk (t := .boolean) hret (by simp) (hb hby at_305) (by decide) (by decide) ?_
   exact rfl
  ·
   show own_Ends _ _ _ _ (T0.setTop (mkF m 10 #[.val (.int x0), .val (.int x1), .val (.int x2), .val (.int x3), .val (.int x4), .val (.int x5), .val (.int (4 : Int32)), .unset, .unset, .unset, .unset, .unset, .unset, .unset, .unset, .unset] []))
   refine own_st (fun t => XS.iload (own_here Y0) hx rfl (hb hby at_10) rfl) ?_
   show own_Ends _ _ _ _ (T0.setTop (mkF m 12 #[.val (.int x0), .val (.int x1), .val (.int x2), .val (.int x3), .val (.int x4), .val (.int x5), .val (.int (4 : Int32)), .unset, .unset, .unset, .unset, .unset, .unset, .unset, .unset, .unset] [(.int (4 : Int32))]))
   refine own_newP Y0 hx hZ (hw _ (List.mem_of_getElem? (i := 1) rfl)) rfl (hb hby at_12) rfl (by decide) (nz := 4) (cap := 4) (by decide) (by decide) (by decide) (by decide) (by decide) (ty := .int) rfl (fun T136 h138 b141 eb142 Y137 E139 A140 => ?_)
   have g143 : n0 ≤ b141 := by rw [eb142]; exact Z0
   replace A140 : own_A Z h138 b141 .int [(.int (0 : Int32)), (.int (0 : Int32)), (.int (0 : Int32)), (.int (0 : Int32))] := A140
   show own_Ends _ _ _ _ (T136.setTop (mkF m 14 #[.val (.int x0), .val (.int x1), .val (.int x2), .val (.int x3), .val (.int x4), .val (.int x5), .val (.int (4 : Int32)), .unset, .unset, .unset, .unset, .unset, .unset, .unset, .unset, .unset] [(.ref b141)]))
   refine own_st (fun t => XS.astore (own_here Y137) hx rfl (hb hby at_14) rfl rfl (l' := #[.val (.int x0), .val (.int x1), .val (.int x2), .val (.int x3), .val (.int x4), .val (.int x5), .val (.int (4 : Int32)), .val (.ref b141), .unset, .unset, .unset, .unset, .unset, .unset, .unset, .unset]) rfl) ?_
   show own_Ends _ _ _ _ (T136.setTop (mkF m 16 #[.val (.int x0), .val (.int x1), .val (.int x2), .val (.int x3), .val (.int x4), .val (.int x5), .val (.int (4 : Int32)), .val (.ref b141), .unset, .unset, .unset, .unset, .unset, .unset, .unset, .unset] []))
   refine own_st (fun t => XS.aload (own_here Y137) hx rfl (hb hby at_16) rfl rfl) ?_
   show own_Ends _ _ _ _ (T136.setTop (mkF m 18 #[.val (.int x0), .val (.int x1), .val (.int x2), .val (.int x3), .val (.int x4), .val (.int x5), .val (.int (4 : Int32)), .val (.ref b141), .unset, .unset, .unset, .unset, .unset, .unset, .unset, .unset] [(.ref b141)]))
   refine own_st (fun t => XS.iconst (own_here Y137) hx rfl (hb hby at_18) ) ?_
   show own_Ends _ _ _ _ (T136.setTop (mkF m 19 #[.val (.int x0), .val (.int x1), .val (.int x2), .val (.int x3), .val (.int x4), .val (.int x5), .val (.int (4 : Int32)), .val (.ref b141), .unset, .unset, .unset, .unset, .unset, .unset, .unset, .unset] [(.int (0 : Int32)), (.ref b141)]))
   refine own_st (fun t => XS.iloadN (own_here Y137) hx rfl (hb hby at_19) rfl) ?_
   show own_Ends _ _ _ _ (T136.setTop (mkF m 20 #[.val (.int x0), .val (.int x1), .val (.int x2), .val (.int x3), .val (.int x4), .val (.int x5), .val (.int (4 : Int32)), .val (.ref b141), .unset, .unset, .unset, .unset, .unset, .unset, .unset, .unset] [(.int x1), (.int (0 : Int32)), (.ref b141)]))
   refine own_stI Y137 hx hZ A140 g143 (i := 0) (by decide) (by decide) (Nat.le_of_ble_eq_true rfl) rfl rfl (hb hby at_20) (fun T144 h146 Y145 W147 A148 => ?_)
   replace A148 : own_A Z h146 b141 .int [(.int x1), (.int (0 : Int32)), (.int (0 : Int32)), (.int (0 : Int32))] := A148
   show own_Ends _ _ _ _ (T144.setTop (mkF m 21 #[.val (.int x0), .val (.int x1), .val (.int x2), .val (.int x3), .val (.int x4), .val (.int x5), .val (.int (4 : Int32)), .val (.ref b141), .unset, .unset, .unset, .unset, .unset, .unset, .unset, .unset] []))
   refine own_st (fun t => XS.iload (own_here Y145) hx rfl (hb hby at_21) rfl) ?_
   show own_Ends _ _ _ _ (T144.setTop (mkF m 23 #[.val (.int x0), .val (.int x1), .val (.int x2), .val (.int x3), .val (.int x4), .val (.int x5), .val (.int (4 : Int32)), .val (.ref b141), .unset, .unset, .unset, .unset, .unset, .unset, .unset, .unset] [(.int (4 : Int32))]))
   refine own_st (fun t => XS.iconst (own_here Y145) hx rfl (hb hby at_23) ) ?_
   show own_Ends _ _ _ _ (T144.setTop (mkF m 24 #[.val (.int x0), .val (.int x1), .val (.int x2), .val (.int x3), .val (.int x4), .val (.int x5), .val (.int (4 : Int32)), .val (.ref b141), .unset, .unset, .unset, .unset, .unset, .unset, .unset, .unset] [(.int (1 : Int32)), (.int (4 : Int32))]))
   refine own_st (fun t => XS.icmpNo (own_here Y145) hx rfl (hb hby at_24) rfl (XT.ii_le_f (by decide))) ?_
   show own_Ends _ _ _ _ (T144.setTop (mkF m 27 #[.val (.int x0), .val (.int x1), .val (.int x2), .val (.int x3), .val (.int x4), .val (.int x5), .val (.int (4 : Int32)), .val (.ref b141), .unset, .unset, .unset, .unset, .unset, .unset, .unset, .unset] []))
   refine own_st (fun t => XS.aload (own_here Y145) hx rfl (hb hby at_27) rfl rfl) ?_
   show own_Ends _ _ _ _ (T144.setTop (mkF m 29 #[.val (.int x0), .val (.int x1), .val (.int x2), .val (.int x3), .val (.int x4), .val (.int x5), .val (.int (4 : Int32)), .val (.ref b141), .unset, .unset, .unset, .unset, .unset, .unset, .unset, .unset] [(.ref b141)]))
   refine own_st (fun t => XS.iconst (own_here Y145) hx rfl (hb hby at_29) ) ?_
   show own_Ends _ _ _ _ (T144.setTop (mkF m 30 #[.val (.int x0), .val (.int x1), .val (.int x2), .val (.int x3), .val (.int x4), .val (.int x5), .val (.int (4 : Int32)), .val (.ref b141), .unset, .unset, .unset, .unset, .unset, .unset, .unset, .unset] [(.int (1 : Int32)), (.ref b141)]))
   refine own_st (fun t => XS.iloadN (own_here Y145) hx rfl (hb hby at_30) rfl) ?_
   show own_Ends _ _ _ _ (T144.setTop (mkF m 31 #[.val (.int x0), .val (.int x1), .val (.int x2), .val (.int x3), .val (.int x4), .val (.int x5), .val (.int (4 : Int32)), .val (.ref b141), .unset, .unset, .unset, .unset, .unset, .unset, .unset, .unset] [(.int x2), (.int (1 : Int32)), (.ref b141)]))
   refine own_stI Y145 hx hZ A148 g143 (i := 1) (by decide) (by decide) (Nat.le_of_ble_eq_true rfl) rfl rfl (hb hby at_31) (fun T149 h151 Y150 W152 A153 => ?_)
   replace A153 : own_A Z h151 b141 .int [(.int x1), (.int x2), (.int (0 : Int32)), (.int (0 : Int32))] := A153
   show own_Ends _ _ _ _ (T149.setTop (mkF m 32 #[.val (.int x0), .val (.int x1), .val (.int x2), .val (.int x3), .val (.int x4), .val (.int x5), .val (.int (4 : Int32)), .val (.ref b141), .unset, .unset, .unset, .unset, .unset, .unset, .unset, .unset] []))
   refine own_st (fun t => XS.iload (own_here Y150) hx rfl (hb hby at_32) rfl) ?_
   show own_Ends _ _ _ _ (T149.setTop (mkF m 34 #[.val (.int x0), .val (.int x1), .val (.int x2), .val (.int x3), .val (.int x4), .val (.int x5), .val (.int (4 : Int32)), .val (.ref b141), .unset, .unset, .unset, .unset, .unset, .unset, .unset, .unset] [(.int (4 : Int32))]))
   refine own_st (fun t => XS.iconst (own_here Y150) hx rfl (hb hby at_34) ) ?_
   show own_Ends _ _ _ _ (T149.setTop (mkF m 35 #[.val (.int x0), .val (.int x1), .val (.int x2), .val (.int x3), .val (.int x4), .val (.int x5), .val (.int (4 : Int32)), .val (.ref b141), .unset, .unset, .unset, .unset, .unset, .unset, .unset, .unset] [(.int (2 : Int32)), (.int (4 : Int32))]))
   refine own_st (fun t => XS.icmpNo (own_here Y150) hx rfl (hb hby at_35) rfl (XT.ii_le_f (by decide))) ?_
   show own_Ends _ _ _ _ (T149.setTop (mkF m 38 #[.val (.int x0), .val (.int x1), .val (.int x2), .val (.int x3), .val (.int x4), .val (.int x5), .val (.int (4 : Int32)), .val (.ref b141), .unset, .unset, .unset, .unset, .unset, .unset, .unset, .unset] []))
   refine own_st (fun t => XS.aload (own_here Y150) hx rfl (hb hby at_38) rfl rfl) ?_
   show own_Ends _ _ _ _ (T149.setTop (mkF m 40 #[.val (.int x0), .val (.int x1), .val (.int x2), .val (.int x3), .val (.int x4), .val (.int x5), .val (.int (4 : Int32)), .val (.ref b141), .unset, .unset, .unset, .unset, .unset, .unset, .unset, .unset] [(.ref b141)]))
   refine own_st (fun t => XS.iconst (own_here Y150) hx rfl (hb hby at_40) ) ?_
   show own_Ends _ _ _ _ (T149.setTop (mkF m 41 #[.val (.int x0), .val (.int x1), .val (.int x2), .val (.int x3), .val (.int x4), .val (.int x5), .val (.int (4 : Int32)), .val (.ref b141), .unset, .unset, .unset, .unset, .unset, .unset, .unset, .unset] [(.int (2 : Int32)), (.ref b141)]))
   refine own_st (fun t => XS.iloadN (own_here Y150) hx rfl (hb hby at_41) rfl) ?_
   show own_Ends _ _ _ _ (T149.setTop (mkF m 42 #[.val (.int x0), .val (.int x1), .val (.int x2), .val (.int x3), .val (.int x4), .val (.int x5), .val (.int (4 : Int32)), .val (.ref b141), .unset, .unset, .unset, .unset, .unset, .unset, .unset, .unset] [(.int x3), (.int (2 : Int32)), (.ref b141)]))
   refine own_stI Y150 hx hZ A153 g143 (i := 2) (by decide) (by decide) (Nat.le_of_ble_eq_true rfl) rfl rfl (hb hby at_42) (fun T154 h156 Y155 W157 A158 => ?_)
   replace A158 : own_A Z h156 b141 .int [(.int x1), (.int x2), (.int x3), (.int (0 : Int32))] := A158
   show own_Ends _ _ _ _ (T154.setTop (mkF m 43 #[.val (.int x0), .val (.int x1), .val (.int x2), .val (.int x3), .val (.int x4), .val (.int x5), .val (.int (4 : Int32)), .val (.ref b141), .unset, .unset, .unset, .unset, .unset, .unset, .unset, .unset] []))
   refine own_st (fun t => XS.iload (own_here Y155) hx rfl (hb hby at_43) rfl) ?_
   show own_Ends _ _ _ _ (T154.setTop (mkF m 45 #[.val (.int x0), .val (.int x1), .val (.int x2), .val (.int x3), .val (.int x4), .val (.int x5), .val (.int (4 : Int32)), .val (.ref b141), .unset, .unset, .unset, .unset, .unset, .unset, .unset, .unset] [(.int (4 : Int32))]))
   refine own_st (fun t => XS.iconst (own_here Y155) hx rfl (hb hby at_45) ) ?_
   show own_Ends _ _ _ _ (T154.setTop (mkF m 46 #[.val (.int x0), .val (.int x1), .val (.int x2), .val (.int x3), .val (.int x4), .val (.int x5), .val (.int (4 : Int32)), .val (.ref b141), .unset, .unset, .unset, .unset, .unset, .unset, .unset, .unset] [(.int (3 : Int32)), (.int (4 : Int32))]))
   refine own_st (fun t => XS.icmpNo (own_here Y155) hx rfl (hb hby at_46) rfl (XT.ii_le_f (by decide))) ?_
   show own_Ends _ _ _ _ (T154.setTop (mkF m 49 #[.val (.int x0), .val (.int x1), .val (.int x2), .val (.int x3), .val (.int x4), .val (.int x5), .val (.int (4 : Int32)), .val (.ref b141), .unset, .unset, .unset, .unset, .unset, .unset, .unset, .unset] []))
   refine own_st (fun t => XS.aload (own_here Y155) hx rfl (hb hby at_49) rfl rfl) ?_
   show own_Ends _ _ _ _ (T154.setTop (mkF m 51 #[.val (.int x0), .val (.int x1), .val (.int x2), .val (.int x3), .val (.int x4), .val (.int x5), .val (.int (4 : Int32)), .val (.ref b141), .unset, .unset, .unset, .unset, .unset, .unset, .unset, .unset] [(.ref b141)]))
   refine own_st (fun t => XS.iconst (own_here Y155) hx rfl (hb hby at_51) ) ?_
   show own_Ends _ _ _ _ (T154.setTop (mkF m 52 #[.val (.int x0), .val (.int x1), .val (.int x2), .val (.int x3), .val (.int x4), .val (.int x5), .val (.int (4 : Int32)), .val (.ref b141), .unset, .unset, .unset, .unset, .unset, .unset, .unset, .unset] [(.int (3 : Int32)), (.ref b141)]))
   refine own_st (fun t => XS.iload (own_here Y155) hx rfl (hb hby at_52) rfl) ?_
   show own_Ends _ _ _ _ (T154.setTop (mkF m 54 #[.val (.int x0), .val (.int x1), .val (.int x2), .val (.int x3), .val (.int x4), .val (.int x5), .val (.int (4 : Int32)), .val (.ref b141), .unset, .unset, .unset, .unset, .unset, .unset, .unset, .unset] [(.int x4), (.int (3 : Int32)), (.ref b141)]))
   refine own_stI Y155 hx hZ A158 g143 (i := 3) (by decide) (by decide) (Nat.le_of_ble_eq_true rfl) rfl rfl (hb hby at_54) (fun T159 h161 Y160 W162 A163 => ?_)
   replace A163 : own_A Z h161 b141 .int [(.int x1), (.int x2), (.int x3), (.int x4)] := A163
   show own_Ends _ _ _ _ (T159.setTop (mkF m 55 #[.val (.int x0), .val (.int x1), .val (.int x2), .val (.int x3), .val (.int x4), .val (.int x5), .val (.int (4 : Int32)), .val (.ref b141), .unset, .unset, .unset, .unset, .unset, .unset, .unset, .unset] []))
   refine own_st (fun t => XS.iload (own_here Y160) hx rfl (hb hby at_55) rfl) ?_
   show own_Ends _ _ _ _ (T159.setTop (mkF m 57 #[.val (.int x0), .val (.int x1), .val (.int x2), .val (.int x3), .val (.int x4), .val (.int x5), .val (.int (4 : Int32)), .val (.ref b141), .unset, .unset, .unset, .unset, .unset, .unset, .unset, .unset] [(.int (4 : Int32))]))
   refine own_st (fun t => XS.iconst (own_here Y160) hx rfl (hb hby at_57) ) ?_
   show own_Ends _ _ _ _ (T159.setTop (mkF m 58 #[.val (.int x0), .val (.int x1), .val (.int x2), .val (.int x3), .val (.int x4), .val (.int x5), .val (.int (4 : Int32)), .val (.ref b141), .unset, .unset, .unset, .unset, .unset, .unset, .unset, .unset] [(.int (4 : Int32)), (.int (4 : Int32))]))
   refine own_st (fun t => XS.icmpYes (own_here Y160) hx rfl (pc0 := 58) (pc' := 67) rfl (hb hby at_58) rfl (XT.ii_le_t (by decide)) (by decide) (by decide)) ?_
   show own_Ends _ _ _ _ (T159.setTop (mkF m 67 #[.val (.int x0), .val (.int x1), .val (.int x2), .val (.int x3), .val (.int x4), .val (.int x5), .val (.int (4 : Int32)), .val (.ref b141), .unset, .unset, .unset, .unset, .unset, .unset, .unset, .unset] []))
   refine own_st (fun t => XS.iloadN (own_here Y160) hx rfl (hb hby at_67) rfl) ?_
   show own_Ends _ _ _ _ (T159.setTop (mkF m 68 #[.val (.int x0), .val (.int x1), .val (.int x2), .val (.int x3), .val (.int x4), .val (.int x5), .val (.int (4 : Int32)), .val (.ref b141), .unset, .unset, .unset, .unset, .unset, .unset, .unset, .unset] [(.int x1)]))
   refine own_st (fun t => XS.istore (own_here Y160) hx rfl (hb hby at_68) rfl (l' := #[.val (.int x0), .val (.int x1), .val (.int x2), .val (.int x3), .val (.int x4), .val (.int x5), .val (.int (4 : Int32)), .val (.ref b141), .val (.int x1), .unset, .unset, .unset, .unset, .unset, .unset, .unset]) rfl) ?_
   show own_Ends _ _ _ _ (T159.setTop (mkF m 70 #[.val (.int x0), .val (.int x1), .val (.int x2), .val (.int x3), .val (.int x4), .val (.int x5), .val (.int (4 : Int32)), .val (.ref b141), .val (.int x1), .unset, .unset, .unset, .unset, .unset, .unset, .unset] []))
   refine own_st (fun t => XS.iload (own_here Y160) hx rfl (hb hby at_70) rfl) ?_
   show own_Ends _ _ _ _ (T159.setTop (mkF m 72 #[.val (.int x0), .val (.int x1), .val (.int x2), .val (.int x3), .val (.int x4), .val (.int x5), .val (.int (4 : Int32)), .val (.ref b141), .val (.int x1), .unset, .unset, .unset, .unset, .unset, .unset, .unset] [(.int x1)]))
   refine own_st (fun t => XS.iloadN (own_here Y160) hx rfl (hb hby at_72) rfl) ?_
   show own_Ends _ _ _ _ (T159.setTop (mkF m 73 #[.val (.int x0), .val (.int x1), .val (.int x2), .val (.int x3), .val (.int x4), .val (.int x5), .val (.int (4 : Int32)), .val (.ref b141), .val (.int x1), .unset, .unset, .unset, .unset, .unset, .unset, .unset] [(.int x2), (.int x1)]))
   refine own_st (fun t => XS.iadd (own_here Y160) hx rfl (hb hby at_73) rfl) ?_
   show own_Ends _ _ _ _ (T159.setTop (mkF m 74 #[.val (.int x0), .val (.int x1), .val (.int x2), .val (.int x3), .val (.int x4), .val (.int x5), .val (.int (4 : Int32)), .val (.ref b141), .val (.int x1), .unset, .unset, .unset, .unset, .unset, .unset, .unset] [(.int (x1 + x2))]))
   refine own_st (fun t => XS.istore (own_here Y160) hx rfl (hb hby at_74) rfl (l' := #[.val (.int x0), .val (.int x1), .val (.int x2), .val (.int x3), .val (.int x4), .val (.int x5), .val (.int (4 : Int32)), .val (.ref b141), .val (.int x1), .val (.int (x1 + x2)), .unset, .unset, .unset, .unset, .unset, .unset]) rfl) ?_
   show own_Ends _ _ _ _ (T159.setTop (mkF m 76 #[.val (.int x0), .val (.int x1), .val (.int x2), .val (.int x3), .val (.int x4), .val (.int x5), .val (.int (4 : Int32)), .val (.ref b141), .val (.int x1), .val (.int (x1 + x2)), .unset, .unset, .unset, .unset, .unset, .unset] []))
   refine own_st (fun t => XS.iload (own_here Y160) hx rfl (hb hby at_76) rfl) ?_
   show own_Ends _ _ _ _ (T159.setTop (mkF m 78 #[.val (.int x0), .val (.int x1), .val (.int x2), .val (.int x3), .val (.int x4), .val (.int x5), .val (.int (4 : Int32)), .val (.ref b141), .val (.int x1), .val (.int (x1 + x2)), .unset, .unset, .unset, .unset, .unset, .unset] [(.int (x1 + x2))]))
   refine own_st (fun t => XS.iloadN (own_here Y160) hx rfl (hb hby at_78) rfl) ?_
   show own_Ends _ _ _ _ (T159.setTop (mkF m 79 #[.val (.int x0), .val (.int x1), .val (.int x2), .val (.int x3), .val (.int x4), .val (.int x5), .val (.int (4 : Int32)), .val (.ref b141), .val (.int x1), .val (.int (x1 + x2)), .unset, .unset, .unset, .unset, .unset, .unset] [(.int x3), (.int (x1 + x2))]))
   refine own_st (fun t => XS.iadd (own_here Y160) hx rfl (hb hby at_79) rfl) ?_
   show own_Ends _ _ _ _ (T159.setTop (mkF m 80 #[.val (.int x0), .val (.int x1), .val (.int x2), .val (.int x3), .val (.int x4), .val (.int x5), .val (.int (4 : Int32)), .val (.ref b141), .val (.int x1), .val (.int (x1 + x2)), .unset, .unset, .unset, .unset, .unset, .unset] [(.int ((x1 + x2) + x3))]))
   refine own_st (fun t => XS.istore (own_here Y160) hx rfl (hb hby at_80) rfl (l' := #[.val (.int x0), .val (.int x1), .val (.int x2), .val (.int x3), .val (.int x4), .val (.int x5), .val (.int (4 : Int32)), .val (.ref b141), .val (.int x1), .val (.int (x1 + x2)), .val (.int ((x1 + x2) + x3)), .unset, .unset, .unset, .unset, .unset]) rfl) ?_
   show own_Ends _ _ _ _ (T159.setTop (mkF m 82 #[.val (.int x0), .val (.int x1), .val (.int x2), .val (.int x3), .val (.int x4), .val (.int x5), .val (.int (4 : Int32)), .val (.ref b141), .val (.int x1), .val (.int (x1 + x2)), .val (.int ((x1 + x2) + x3)), .unset, .unset, .unset, .unset, .unset] []))
   refine own_st (fun t => XS.iload (own_here Y160) hx rfl (hb hby at_82) rfl) ?_
   show own_Ends _ _ _ _ (T159.setTop (mkF m 84 #[.val (.int x0), .val (.int x1), .val (.int x2), .val (.int x3), .val (.int x4), .val (.int x5), .val (.int (4 : Int32)), .val (.ref b141), .val (.int x1), .val (.int (x1 + x2)), .val (.int ((x1 + x2) + x3)), .unset, .unset, .unset, .unset, .unset] [(.int ((x1 + x2) + x3))]))
   refine own_st (fun t => XS.iload (own_here Y160) hx rfl (hb hby at_84) rfl) ?_
   show own_Ends _ _ _ _ (T159.setTop (mkF m 86 #[.val (.int x0), .val (.int x1), .val (.int x2), .val (.int x3), .val (.int x4), .val (.int x5), .val (.int (4 : Int32)), .val (.ref b141), .val (.int x1), .val (.int (x1 + x2)), .val (.int ((x1 + x2) + x3)), .unset, .unset, .unset, .unset, .unset] [(.int x4), (.int ((x1 + x2) + x3))]))
   refine own_st (fun t => XS.iadd (own_here Y160) hx rfl (hb hby at_86) rfl) ?_
   show own_Ends _ _ _ _ (T159.setTop (mkF m 87 #[.val (.int x0), .val (.int x1), .val (.int x2), .val (.int x3), .val (.int x4), .val (.int x5), .val (.int (4 : Int32)), .val (.ref b141), .val (.int x1), .val (.int (x1 + x2)), .val (.int ((x1 + x2) + x3)), .unset, .unset, .unset, .unset, .unset] [(.int (((x1 + x2) + x3) + x4))]))
   refine own_st (fun t => XS.istore (own_here Y160) hx rfl (hb hby at_87) rfl (l' := #[.val (.int x0), .val (.int x1), .val (.int x2), .val (.int x3), .val (.int x4), .val (.int x5), .val (.int (4 : Int32)), .val (.ref b141), .val (.int x1), .val (.int (x1 + x2)), .val (.int ((x1 + x2) + x3)), .val (.int (((x1 + x2) + x3) + x4)), .unset, .unset, .unset, .unset]) rfl) ?_
   show own_Ends _ _ _ _ (T159.setTop (mkF m 89 #[.val (.int x0), .val (.int x1), .val (.int x2), .val (.int x3), .val (.int x4), .val (.int x5), .val (.int (4 : Int32)), .val (.ref b141), .val (.int x1), .val (.int (x1 + x2)), .val (.int ((x1 + x2) + x3)), .val (.int (((x1 + x2) + x3) + x4)), .unset, .unset, .unset, .unset] []))
   refine own_st (fun t => XS.iload (own_here Y160) hx rfl (hb hby at_89) rfl) ?_
   show own_Ends _ _ _ _ (T159.setTop (mkF m 91 #[.val (.int x0), .val (.int x1), .val (.int x2), .val (.int x3), .val (.int x4), .val (.int x5), .val (.int (4 : Int32)), .val (.ref b141), .val (.int x1), .val (.int (x1 + x2)), .val (.int ((x1 + x2) + x3)), .val (.int (((x1 + x2) + x3) + x4)), .unset, .unset, .unset, .unset] [(.int (((x1 + x2) + x3) + x4))]))
   refine own_st (fun t => XS.iload (own_here Y160) hx rfl (hb hby at_91) rfl) ?_
   show own_Ends _ _ _ _ (T159.setTop (mkF m 93 #[.val (.int x0), .val (.int x1), .val (.int x2), .val (.int x3), .val (.int x4), .val (.int x5), .val (.int (4 : Int32)), .val (.ref b141), .val (.int x1), .val (.int (x1 + x2)), .val (.int ((x1 + x2) + x3)), .val (.int (((x1 + x2) + x3) + x4)), .unset, .unset, .unset, .unset] [(.int x5), (.int (((x1 + x2) + x3) + x4))]))
   refine own_st (fun t => XS.iadd (own_here Y160) hx rfl (hb hby at_93) rfl) ?_
   show own_Ends _ _ _ _ (T159.setTop (mkF m 94 #[.val (.int x0), .val (.int x1), .val (.int x2), .val (.int x3), .val (.int x4), .val (.int x5), .val (.int (4 : Int32)), .val (.ref b141), .val (.int x1), .val (.int (x1 + x2)), .val (.int ((x1 + x2) + x3)), .val (.int (((x1 + x2) + x3) + x4)), .unset, .unset, .unset, .unset] [(.int ((((x1 + x2) + x3) + x4) + x5))]))
   refine own_st (fun t => XS.istore (own_here Y160) hx rfl (hb hby at_94) rfl (l' := #[.val (.int x0), .val (.int x1), .val (.int x2), .val (.int x3), .val (.int x4), .val (.int x5), .val (.int (4 : Int32)), .val (.ref b141), .val (.int x1), .val (.int (x1 + x2)), .val (.int ((x1 + x2) + x3)), .val (.int (((x1 + x2) + x3) + x4)), .val (.int ((((x1 + x2) + x3) + x4) + x5)), .unset, .unset, .unset]) rfl) ?_
   show own_Ends _ _ _ _ (T159.setTop (mkF m 96 #[.val (.int x0), .val (.int x1), .val (.int x2), .val (.int x3), .val (.int x4), .val (.int x5), .val (.int (4 : Int32)), .val (.ref b141), .val (.int x1), .val (.int (x1 + x2)), .val (.int ((x1 + x2) + x3)), .val (.int (((x1 + x2) + x3) + x4)), .val (.int ((((x1 + x2) + x3) + x4) + x5)), .unset, .unset, .unset] []))
   refine own_st (fun t => XS.aload (own_here Y160) hx rfl (hb hby at_96) rfl rfl) ?_
   show own_Ends _ _ _ _ (T159.setTop (mkF m 98 #[.val (.int x0), .val (.int x1), .val (.int x2), .val (.int x3), .val (.int x4), .val (.int x5), .val (.int (4 : Int32)), .val (.ref b141), .val (.int x1), .val (.int (x1 + x2)), .val (.int ((x1 + x2) + x3)), .val (.int (((x1 + x2) + x3) + x4)), .val (.int ((((x1 + x2) + x3) + x4) + x5)), .unset, .unset, .unset] [(.ref b141)]))
   refine own_callS Y160 hx hZ (y := (⟨"com/example/tierpath/tierpath/Hierarchy", "prefixSums", "([I)I"⟩ : MethodName)) hown (hw _ (List.mem_of_getElem? (i := 2) rfl)) (hw _ (List.mem_of_getElem? (i := 3) rfl)) (hw _ (List.mem_of_getElem? (i := 4) rfl)) (hw _ (List.mem_of_getElem? (i := 5) rfl)) (by decide) (argsL := [(.ref b141)]) (rest := []) (own_rm1_4 l Z a0 hw [] b141 x1 x2 x3 x4 h161 n0  A163 g143) (W := 0) (by decide) (by decide) (by decide) (by decide) rfl (by rw [hml]; rfl) (lenOf own_pd0 rfl) rfl (by show 2 * 0 + _ ≤ _; exact Nat.le_of_eq rfl) (hb hby at_98) (fun T164 h166 v167 Y165 q168 => ?_)
   obtain ⟨rfl, K169, F170⟩ := q168
   show own_Ends _ _ _ _ (T164.setTop (mkF m 101 #[.val (.int x0), .val (.int x1), .val (.int x2), .val (.int x3), .val (.int x4), .val (.int x5), .val (.int (4 : Int32)), .val (.ref b141), .val (.int x1), .val (.int (x1 + x2)), .val (.int ((x1 + x2) + x3)), .val (.int (((x1 + x2) + x3) + x4)), .val (.int ((((x1 + x2) + x3) + x4) + x5)), .unset, .unset, .unset] [(.int (x4 + (x3 + (x2 + x1))))]))
   refine own_st (fun t => XS.istore (own_here Y165) hx rfl (hb hby at_101) rfl (l' := #[.val (.int x0), .val (.int x1), .val (.int x2), .val (.int x3), .val (.int x4), .val (.int x5), .val (.int (4 : Int32)), .val (.ref b141), .val (.int x1), .val (.int (x1 + x2)), .val (.int ((x1 + x2) + x3)), .val (.int (((x1 + x2) + x3) + x4)), .val (.int ((((x1 + x2) + x3) + x4) + x5)), .val (.int (x4 + (x3 + (x2 + x1)))), .unset, .unset]) rfl) ?_
   show own_Ends _ _ _ _ (T164.setTop (mkF m 103 #[.val (.int x0), .val (.int x1), .val (.int x2), .val (.int x3), .val (.int x4), .val (.int x5), .val (.int (4 : Int32)), .val (.ref b141), .val (.int x1), .val (.int (x1 + x2)), .val (.int ((x1 + x2) + x3)), .val (.int (((x1 + x2) + x3) + x4)), .val (.int ((((x1 + x2) + x3) + x4) + x5)), .val (.int (x4 + (x3 + (x2 + x1)))), .unset, .unset] []))
   refine own_st (fun t => XS.aload (own_here Y165) hx rfl (hb hby at_103) rfl rfl) ?_
   show own_Ends _ _ _ _ (T164.setTop (mkF m 105 #[.val (.int x0), .val (.int x1), .val (.int x2), .val (.int x3), .val (.int x4), .val (.int x5), .val (.int (4 : Int32)), .val (.ref b141), .val (.int x1), .val (.int (x1 + x2)), .val (.int ((x1 + x2) + x3)), .val (.int (((x1 + x2) + x3) + x4)), .val (.int ((((x1 + x2) + x3) + x4) + x5)), .val (.int (x4 + (x3 + (x2 + x1)))), .unset, .unset] [(.ref b141)]))
   refine own_len Y165 hx hZ F170 (z := (4 : Int32)) rfl rfl rfl (hb hby at_105) ?_
   show own_Ends _ _ _ _ (T164.setTop (mkF m 106 #[.val (.int x0), .val (.int x1), .val (.int x2), .val (.int x3), .val (.int x4), .val (.int x5), .val (.int (4 : Int32)), .val (.ref b141), .val (.int x1), .val (.int (x1 + x2)), .val (.int ((x1 + x2) + x3)), .val (.int (((x1 + x2) + x3) + x4)), .val (.int ((((x1 + x2) + x3) + x4) + x5)), .val (.int (x4 + (x3 + (x2 + x1)))), .unset, .unset] [(.int (4 : Int32))]))
   refine own_st (fun t => XS.iload (own_here Y165) hx rfl (hb hby at_106) rfl) ?_
   show own_Ends _ _ _ _ (T164.setTop (mkF m 108 #[.val (.int x0), .val (.int x1), .val (.int x2), .val (.int x3), .val (.int x4), .val (.int x5), .val (.int (4 : Int32)), .val (.ref b141), .val (.int x1), .val (.int (x1 + x2)), .val (.int ((x1 + x2) + x3)), .val (.int (((x1 + x2) + x3) + x4)), .val (.int ((((x1 + x2) + x3) + x4) + x5)), .val (.int (x4 + (x3 + (x2 + x1)))), .unset, .unset] [(.int (4 : Int32)), (.int (4 : Int32))]))
   refine own_st (fun t => XS.icmpNo (own_here Y165) hx rfl (hb hby at_108) rfl (XT.ii_ne_f (by decide))) ?_
   show own_Ends _ _ _ _ (T164.setTop (mkF m 111 #[.val (.int x0), .val (.int x1), .val (.int x2), .val (.int x3), .val (.int x4), .val (.int x5), .val (.int (4 : Int32)), .val (.ref b141), .val (.int x1), .val (.int (x1 + x2)), .val (.int ((x1 + x2) + x3)), .val (.int (((x1 + x2) + x3) + x4)), .val (.int ((((x1 + x2) + x3) + x4) + x5)), .val (.int (x4 + (x3 + (x2 + x1)))), .unset, .unset] []))
   refine own_st (fun t => XS.aload (own_here Y165) hx rfl (hb hby at_111) rfl rfl) ?_
   show own_Ends _ _ _ _ (T164.setTop (mkF m 113 #[.val (.int x0), .val (.int x1), .val (.int x2), .val (.int x3), .val (.int x4), .val (.int x5), .val (.int (4 : Int32)), .val (.ref b141), .val (.int x1), .val (.int (x1 + x2)), .val (.int ((x1 + x2) + x3)), .val (.int (((x1 + x2) + x3) + x4)), .val (.int ((((x1 + x2) + x3) + x4) + x5)), .val (.int (x4 + (x3 + (x2 + x1)))), .unset, .unset] [(.ref b141)]))
   refine own_st (fun t => XS.iconst (own_here Y165) hx rfl (hb hby at_113) ) ?_
   show own_Ends _ _ _ _ (T164.setTop (mkF m 114 #[.val (.int x0), .val (.int x1), .val (.int x2), .val (.int x3), .val (.int x4), .val (.int x5), .val (.int (4 : Int32)), .val (.ref b141), .val (.int x1), .val (.int (x1 + x2)), .val (.int ((x1 + x2) + x3)), .val (.int (((x1 + x2) + x3) + x4)), .val (.int ((((x1 + x2) + x3) + x4) + x5)), .val (.int (x4 + (x3 + (x2 + x1)))), .unset, .unset] [(.int (0 : Int32)), (.ref b141)]))
   refine own_ldI Y165 hx hZ F170 (i := 0) (by decide) (by decide) (Nat.le_of_ble_eq_true rfl) (v := (.int x1)) rfl rfl rfl (hb hby at_114) ?_
   show own_Ends _ _ _ _ (T164.setTop (mkF m 115 #[.val (.int x0), .val (.int x1), .val (.int x2), .val (.int x3), .val (.int x4), .val (.int x5), .val (.int (4 : Int32)), .val (.ref b141), .val (.int x1), .val (.int (x1 + x2)), .val (.int ((x1 + x2) + x3)), .val (.int (((x1 + x2) + x3) + x4)), .val (.int ((((x1 + x2) + x3) + x4) + x5)), .val (.int (x4 + (x3 + (x2 + x1)))), .unset, .unset] [(.int x1)]))
   refine own_st (fun t => XS.iload (own_here Y165) hx rfl (hb hby at_115) rfl) ?_
   show own_Ends _ _ _ _ (T164.setTop (mkF m 117 #[.val (.int x0), .val (.int x1), .val (.int x2), .val (.int x3), .val (.int x4), .val (.int x5), .val (.int (4 : Int32)), .val (.ref b141), .val (.int x1), .val (.int (x1 + x2)), .val (.int ((x1 + x2) + x3)), .val (.int (((x1 + x2) + x3) + x4)), .val (.int ((((x1 + x2) + x3) + x4) + x5)), .val (.int (x4 + (x3 + (x2 + x1)))), .unset, .unset] [(.int x1), (.int x1)]))
   refine own_st (fun t => XS.icmpNo (own_here Y165) hx rfl (hb hby at_117) rfl (XT.ii_ne_f (by first | rfl | ac_rfl | simp only [Int32.add_comm, Int32.add_left_comm, Int32.add_assoc]))) ?_
   show own_Ends _ _ _ _ (T164.setTop (mkF m 120 #[.val (.int x0), .val (.int x1), .val (.int x2), .val (.int x3), .val (.int x4), .val (.int x5), .val (.int (4 : Int32)), .val (.ref b141), .val (.int x1), .val (.int (x1 + x2)), .val (.int ((x1 + x2) + x3)), .val (.int (((x1 + x2) + x3) + x4)), .val (.int ((((x1 + x2) + x3) + x4) + x5)), .val (.int (x4 + (x3 + (x2 + x1)))), .unset, .unset] []))
   refine own_st (fun t => XS.iconst (own_here Y165) hx rfl (hb hby at_120) ) ?_
   show own_Ends _ _ _ _ (T164.setTop (mkF m 121 #[.val (.int x0), .val (.int x1), .val (.int x2), .val (.int x3), .val (.int x4), .val (.int x5), .val (.int (4 : Int32)), .val (.ref b141), .val (.int x1), .val (.int (x1 + x2)), .val (.int ((x1 + x2) + x3)), .val (.int (((x1 + x2) + x3) + x4)), .val (.int ((((x1 + x2) + x3) + x4) + x5)), .val (.int (x4 + (x3 + (x2 + x1)))), .unset, .unset] [(.int (1 : Int32))]))
   refine own_st (fun t => XS.goto (own_here Y165) hx rfl (pc0 := 121) (pc' := 125) rfl (hb hby at_121) (by decide) (by decide)) ?_
   show own_Ends _ _ _ _ (T164.setTop (mkF m 125 #[.val (.int x0), .val (.int x1), .val (.int x2), .val (.int x3), .val (.int x4), .val (.int x5), .val (.int (4 : Int32)), .val (.ref b141), .val (.int x1), .val (.int (x1 + x2)), .val (.int ((x1 + x2) + x3)), .val (.int (((x1 + x2) + x3) + x4)), .val (.int ((((x1 + x2) + x3) + x4) + x5)), .val (.int (x4 + (x3 + (x2 + x1)))), .unset, .unset] [(.int (1 : Int32))]))
   refine own_st (fun t => XS.istore (own_here Y165) hx rfl (hb hby at_125) rfl (l' := #[.val (.int x0), .val (.int x1), .val (.int x2), .val (.int x3), .val (.int x4), .val (.int x5), .val (.int (4 : Int32)), .val (.ref b141), .val (.int x1), .val (.int (x1 + x2)), .val (.int ((x1 + x2) + x3)), .val (.int (((x1 + x2) + x3) + x4)), .val (.int ((((x1 + x2) + x3) + x4) + x5)), .val (.int (x4 + (x3 + (x2 + x1)))), .val (.int (1 : Int32)), .unset]) rfl) ?_
   show own_Ends _ _ _ _ (T164.setTop (mkF m 127 #[.val (.int x0), .val (.int x1), .val (.int x2), .val (.int x3), .val (.int x4), .val (.int x5), .val (.int (4 : Int32)), .val (.ref b141), .val (.int x1), .val (.int (x1 + x2)), .val (.int ((x1 + x2) + x3)), .val (.int (((x1 + x2) + x3) + x4)), .val (.int ((((x1 + x2) + x3) + x4) + x5)), .val (.int (x4 + (x3 + (x2 + x1)))), .val (.int (1 : Int32)), .unset] []))
   refine own_st (fun t => XS.iload (own_here Y165) hx rfl (hb hby at_127) rfl) ?_
   show own_Ends _ _ _ _ (T164.setTop (mkF m 129 #[.val (.int x0), .val (.int x1), .val (.int x2), .val (.int x3), .val (.int x4), .val (.int x5), .val (.int (4 : Int32)), .val (.ref b141), .val (.int x1), .val (.int (x1 + x2)), .val (.int ((x1 + x2) + x3)), .val (.int (((x1 + x2) + x3) + x4)), .val (.int ((((x1 + x2) + x3) + x4) + x5)), .val (.int (x4 + (x3 + (x2 + x1)))), .val (.int (1 : Int32)), .unset] [(.int (4 : Int32))]))
   refine own_st (fun t => XS.iconst (own_here Y165) hx rfl (hb hby at_129) ) ?_
   show own_Ends _ _ _ _ (T164.setTop (mkF m 130 #[.val (.int x0), .val (.int x1), .val (.int x2), .val (.int x3), .val (.int x4), .val (.int x5), .val (.int (4 : Int32)), .val (.ref b141), .val (.int x1), .val (.int (x1 + x2)), .val (.int ((x1 + x2) + x3)), .val (.int (((x1 + x2) + x3) + x4)), .val (.int ((((x1 + x2) + x3) + x4) + x5)), .val (.int (x4 + (x3 + (x2 + x1)))), .val (.int (1 : Int32)), .unset] [(.int (1 : Int32)), (.int (4 : Int32))]))
   refine own_st (fun t => XS.icmpNo (own_here Y165) hx rfl (hb hby at_130) rfl (XT.ii_le_f (by decide))) ?_
   show own_Ends _ _ _ _ (T164.setTop (mkF m 133 #[.val (.int x0), .val (.int x1), .val (.int x2), .val (.int x3), .val (.int x4), .val (.int x5), .val (.int (4 : Int32)), .val (.ref b141), .val (.int x1), .val (.int (x1 + x2)), .val (.int ((x1 + x2) + x3)), .val (.int (((x1 + x2) + x3) + x4)), .val (.int ((((x1 + x2) + x3) + x4) + x5)), .val (.int (x4 + (x3 + (x2 + x1)))), .val (.int (1 : Int32)), .unset] []))
   refine own_st (fun t => XS.iload (own_here Y165) hx rfl (hb hby at_133) rfl) ?_
   show own_Ends _ _ _ _ (T164.setTop (mkF m 135 #[.val (.int x0), .val (.int x1), .val (.int x2), .val (.int x3), .val (.int x4), .val (.int x5), .val (.int (4 : Int32)), .val (.ref b141), .val (.int x1), .val (.int (x1 + x2)), .val (.int ((x1 + x2) + x3)), .val (.int (((x1 + x2) + x3) + x4)), .val (.int ((((x1 + x2) + x3) + x4) + x5)), .val (.int (x4 + (x3 + (x2 + x1)))), .val (.int (1 : Int32)), .unset] [(.int (1 : Int32))]))
   refine own_st (fun t => XS.ifNo (own_here Y165) hx rfl (hb hby at_135) rfl (XT.i0_eq_f (by decide))) ?_
   show own_Ends _ _ _ _ (T164.setTop (mkF m 138 #[.val (.int x0), .val (.int x1), .val (.int x2), .val (.int x3), .val (.int x4), .val (.int x5), .val (.int (4 : Int32)), .val (.ref b141), .val (.int x1), .val (.int (x1 + x2)), .val (.int ((x1 + x2) + x3)), .val (.int (((x1 + x2) + x3) + x4)), .val (.int ((((x1 + x2) + x3) + x4) + x5)), .val (.int (x4 + (x3 + (x2 + x1)))), .val (.int (1 : Int32)), .unset] []))
   refine own_st (fun t => XS.aload (own_here Y165) hx rfl (hb hby at_138) rfl rfl) ?_
   show own_Ends _ _ _ _ (T164.setTop (mkF m 140 #[.val (.int x0), .val (.int x1), .val (.int x2), .val (.int x3), .val (.int x4), .val (.int x5), .val (.int (4 : Int32)), .val (.ref b141), .val (.int x1), .val (.int (x1 + x2)), .val (.int ((x1 + x2) + x3)), .val (.int (((x1 + x2) + x3) + x4)), .val (.int ((((x1 + x2) + x3) + x4) + x5)), .val (.int (x4 + (x3 + (x2 + x1)))), .val (.int (1 : Int32)), .unset] [(.ref b141)]))
   refine own_st (fun t => XS.iconst (own_here Y165) hx rfl (hb hby at_140) ) ?_
   show own_Ends _ _ _ _ (T164.setTop (mkF m 141 #[.val (.int x0), .val (.int x1), .val (.int x2), .val (.int x3), .val (.int x4), .val (.int x5), .val (.int (4 : Int32)), .val (.ref b141), .val (.int x1), .val (.int (x1 + x2)), .val (.int ((x1 + x2) + x3)), .val (.int (((x1 + x2) + x3) + x4)), .val (.int ((((x1 + x2) + x3) + x4) + x5)), .val (.int (x4 + (x3 + (x2 + x1)))), .val (.int (1 : Int32)), .unset] [(.int (1 : Int32)), (.ref b141)]))
   refine own_ldI Y165 hx hZ F170 (i := 1) (by decide) (by decide) (Nat.le_of_ble_eq_true rfl) (v := (.int (x2 + x1))) rfl rfl rfl (hb hby at_141) ?_
   show own_Ends _ _ _ _ (T164.setTop (mkF m 142 #[.val (.int x0), .val (.int x1), .val (.int x2), .val (.int x3), .val (.int x4), .val (.int x5), .val (.int (4 : Int32)), .val (.ref b141), .val (.int x1), .val (.int (x1 + x2)), .val (.int ((x1 + x2) + x3)), .val (.int (((x1 + x2) + x3) + x4)), .val (.int ((((x1 + x2) + x3) + x4) + x5)), .val (.int (x4 + (x3 + (x2 + x1)))), .val (.int (1 : Int32)), .unset] [(.int (x2 + x1))]))
   refine own_st (fun t => XS.iload (own_here Y165) hx rfl (hb hby at_142) rfl) ?_
   show own_Ends _ _ _ _ (T164.setTop (mkF m 144 #[.val (.int x0), .val (.int x1), .val (.int x2), .val (.int x3), .val (.int x4), .val (.int x5), .val (.int (4 : Int32)), .val (.ref b141), .val (.int x1), .val (.int (x1 + x2)), .val (.int ((x1 + x2) + x3)), .val (.int (((x1 + x2) + x3) + x4)), .val (.int ((((x1 + x2) + x3) + x4) + x5)), .val (.int (x4 + (x3 + (x2 + x1)))), .val (.int (1 : Int32)), .unset] [(.int (x1 + x2)), (.int (x2 + x1))]))
   refine own_st (fun t => XS.icmpNo (own_here Y165) hx rfl (hb hby at_144) rfl (XT.ii_ne_f (by first | rfl | ac_rfl | simp only [Int32.add_comm, Int32.add_left_comm, Int32.add_assoc]))) ?_
   show own_Ends _ _ _ _ (T164.setTop (mkF m 147 #[.val (.int x0), .val (.int x1), .val (.int x2), .val (.int x3), .val (.int x4), .val (.int x5), .val (.int (4 : Int32)), .val (.ref b141), .val (.int x1), .val (.int (x1 + x2)), .val (.int ((x1 + x2) + x3)), .val (.int (((x1 + x2) + x3) + x4)), .val (.int ((((x1 + x2) + x3) + x4) + x5)), .val (.int (x4 + (x3 + (x2 + x1)))), .val (.int (1 : Int32)), .unset] []))
   refine own_st (fun t => XS.iconst (own_here Y165) hx rfl (hb hby at_147) ) ?_
   show own_Ends _ _ _ _ (T164.setTop (mkF m 148 #[.val (.int x0), .val (.int x1), .val (.int x2), .val (.int x3), .val (.int x4), .val (.int x5), .val (.int (4 : Int32)), .val (.ref b141), .val (.int x1), .val (.int (x1 + x2)), .val (.int ((x1 + x2) + x3)), .val (.int (((x1 + x2) + x3) + x4)), .val (.int ((((x1 + x2) + x3) + x4) + x5)), .val (.int (x4 + (x3 + (x2 + x1)))), .val (.int (1 : Int32)), .unset] [(.int (1 : Int32))]))
   refine own_st (fun t => XS.goto (own_here Y165) hx rfl (pc0 := 148) (pc' := 152) rfl (hb hby at_148) (by decide) (by decide)) ?_
   show own_Ends _ _ _ _ (T164.setTop (mkF m 152 #[.val (.int x0), .val (.int x1), .val (.int x2), .val (.int x3), .val (.int x4), .val (.int x5), .val (.int (4 : Int32)), .val (.ref b141), .val (.int x1), .val (.int (x1 + x2)), .val (.int ((x1 + x2) + x3)), .val (.int (((x1 + x2) + x3) + x4)), .val (.int ((((x1 + x2) + x3) + x4) + x5)), .val (.int (x4 + (x3 + (x2 + x1)))), .val (.int (1 : Int32)), .unset] [(.int (1 : Int32))]))
   refine own_st (fun t => XS.istore (own_here Y165) hx rfl (hb hby at_152) rfl (l' := #[.val (.int x0), .val (.int x1), .val (.int x2), .val (.int x3), .val (.int x4), .val (.int x5), .val (.int (4 : Int32)), .val (.ref b141), .val (.int x1), .val (.int (x1 + x2)), .val (.int ((x1 + x2) + x3)), .val (.int (((x1 + x2) + x3) + x4)), .val (.int ((((x1 + x2) + x3) + x4) + x5)), .val (.int (x4 + (x3 + (x2 + x1)))), .val (.int (1 : Int32)), .unset]) rfl) ?_
   show own_Ends _ _ _ _ (T164.setTop (mkF m 154 #[.val (.int x0), .val (.int x1), .val (.int x2), .val (.int x3), .val (.int x4), .val (.int x5), .val (.int (4 : Int32)), .val (.ref b141), .val (.int x1), .val (.int (x1 + x2)), .val (.int ((x1 + x2) + x3)), .val (.int (((x1 + x2) + x3) + x4)), .val (.int ((((x1 + x2) + x3) + x4) + x5)), .val (.int (x4 + (x3 + (x2 + x1)))), .val (.int (1 : Int32)), .unset] []))
   refine own_st (fun t => XS.iload (own_here Y165) hx rfl (hb hby at_154) rfl) ?_
   show own_Ends _ _ _ _ (T164.setTop (mkF m 156 #[.val (.int x0), .val (.int x1), .val (.int x2), .val (.int x3), .val (.int x4), .val (.int x5), .val (.int (4 : Int32)), .val (.ref b141), .val (.int x1), .val (.int (x1 + x2)), .val (.int ((x1 + x2) + x3)), .val (.int (((x1 + x2) + x3) + x4)), .val (.int ((((x1 + x2) + x3) + x4) + x5)), .val (.int (x4 + (x3 + (x2 + x1)))), .val (.int (1 : Int32)), .unset] [(.int (4 : Int32))]))
   refine own_st (fun t => XS.iconst (own_here Y165) hx rfl (hb hby at_156) ) ?_
   show own_Ends _ _ _ _ (T164.setTop (mkF m 157 #[.val (.int x0), .val (.int x1), .val (.int x2), .val (.int x3), .val (.int x4), .val (.int x5), .val (.int (4 : Int32)), .val (.ref b141), .val (.int x1), .val (.int (x1 + x2)), .val (.int ((x1 + x2) + x3)), .val (.int (((x1 + x2) + x3) + x4)), .val (.int ((((x1 + x2) + x3) + x4) + x5)), .val (.int (x4 + (x3 + (x2 + x1)))), .val (.int (1 : Int32)), .unset] [(.int (2 : Int32)), (.int (4 : Int32))]))
   refine own_st (fun t => XS.icmpNo (own_here Y165) hx rfl (hb hby at_157) rfl (XT.ii_le_f (by decide))) ?_
   show own_Ends _ _ _ _ (T164.setTop (mkF m 160 #[.val (.int x0), .val (.int x1), .val (.int x2), .val (.int x3), .val (.int x4), .val (.int x5), .val (.int (4 : Int32)), .val (.ref b141), .val (.int x1), .val (.int (x1 + x2)), .val (.int ((x1 + x2) + x3)), .val (.int (((x1 + x2) + x3) + x4)), .val (.int ((((x1 + x2) + x3) + x4) + x5)), .val (.int (x4 + (x3 + (x2 + x1)))), .val (.int (1 : Int32)), .unset] []))
   refine own_st (fun t => XS.iload (own_here Y165) hx rfl (hb hby at_160) rfl) ?_
   show own_Ends _ _ _ _ (T164.setTop (mkF m 162 #[.val (.int x0), .val (.int x1), .val (.int x2), .val (.int x3), .val (.int x4), .val (.int x5), .val (.int (4 : Int32)), .val (.ref b141), .val (.int x1), .val (.int (x1 + x2)), .val (.int ((x1 + x2) + x3)), .val (.int (((x1 + x2) + x3) + x4)), .val (.int ((((x1 + x2) + x3) + x4) + x5)), .val (.int (x4 + (x3 + (x2 + x1)))), .val (.int (1 : Int32)), .unset] [(.int (1 : Int32))]))
   refine own_st (fun t => XS.ifNo (own_here Y165) hx rfl (hb hby at_162) rfl (XT.i0_eq_f (by decide))) ?_
   show own_Ends _ _ _ _ (T164.setTop (mkF m 165 #[.val (.int x0), .val (.int x1), .val (.int x2), .val (.int x3), .val (.int x4), .val (.int x5), .val (.int (4 : Int32)), .val (.ref b141), .val (.int x1), .val (.int (x1 + x2)), .val (.int ((x1 + x2) + x3)), .val (.int (((x1 + x2) + x3) + x4)), .val (.int ((((x1 + x2) + x3) + x4) + x5)), .val (.int (x4 + (x3 + (x2 + x1)))), .val (.int (1 : Int32)), .unset] []))
   refine own_st (fun t => XS.aload (own_here Y165) hx rfl (hb hby at_165) rfl rfl) ?_
   show own_Ends _ _ _ _ (T164.setTop (mkF m 167 #[.val (.int x0), .val (.int x1), .val (.int x2), .val (.int x3), .val (.int x4), .val (.int x5), .val (.int (4 : Int32)), .val (.ref b141), .val (.int x1), .val (.int (x1 + x2)), .val (.int ((x1 + x2) + x3)), .val (.int (((x1 + x2) + x3) + x4)), .val (.int ((((x1 + x2) + x3) + x4) + x5)), .val (.int (x4 + (x3 + (x2 + x1)))), .val (.int (1 : Int32)), .unset] [(.ref b141)]))
   refine own_st (fun t => XS.iconst (own_here Y165) hx rfl (hb hby at_167) ) ?_
   show own_Ends _ _ _ _ (T164.setTop (mkF m 168 #[.val (.int x0), .val (.int x1), .val (.int x2), .val (.int x3), .val (.int x4), .val (.int x5), .val (.int (4 : Int32)), .val (.ref b141), .val (.int x1), .val (.int (x1 + x2)), .val (.int ((x1 + x2) + x3)), .val (.int (((x1 + x2) + x3) + x4)), .val (.int ((((x1 + x2) + x3) + x4) + x5)), .val (.int (x4 + (x3 + (x2 + x1)))), .val (.int (1 : Int32)), .unset] [(.int (2 : Int32)), (.ref b141)]))
   refine own_ldI Y165 hx hZ F170 (i := 2) (by decide) (by decide) (Nat.le_of_ble_eq_true rfl) (v := (.int (x3 + (x2 + x1)))) rfl rfl rfl (hb hby at_168) ?_
   show own_Ends _ _ _ _ (T164.setTop (mkF m 169 #[.val (.int x0), .val (.int x1), .val (.int x2), .val (.int x3), .val (.int x4), .val (.int x5), .val (.int (4 : Int32)), .val (.ref b141), .val (.int x1), .val (.int (x1 + x2)), .val (.int ((x1 + x2) + x3)), .val (.int (((x1 + x2) + x3) + x4)), .val (.int ((((x1 + x2) + x3) + x4) + x5)), .val (.int (x4 + (x3 + (x2 + x1)))), .val (.int (1 : Int32)), .unset] [(.int (x3 + (x2 + x1)))]))
   refine own_st (fun t => XS.iload (own_here Y165) hx rfl (hb hby at_169) rfl) ?_
   show own_Ends _ _ _ _ (T164.setTop (mkF m 171 #[.val (.int x0), .val (.int x1), .val (.int x2), .val (.int x3), .val (.int x4), .val (.int x5), .val (.int (4 : Int32)), .val (.ref b141), .val (.int x1), .val (.int (x1 + x2)), .val (.int ((x1 + x2) + x3)), .val (.int (((x1 + x2) + x3) + x4)), .val (.int ((((x1 + x2) + x3) + x4) + x5)), .val (.int (x4 + (x3 + (x2 + x1)))), .val (.int (1 : Int32)), .unset] [(.int ((x1 + x2) + x3)), (.int (x3 + (x2 + x1)))]))
   refine own_st (fun t => XS.icmpNo (own_here Y165) hx rfl (hb hby at_171) rfl (XT.ii_ne_f (by first | rfl | ac_rfl | simp only [Int32.add_comm, Int32.add_left_comm, Int32.add_assoc]))) ?_
   show own_Ends _ _ _ _ (T164.setTop (mkF m 174 #[.val (.int x0), .val (.int x1), .val (.int x2), .val (.int x3), .val (.int x4), .val (.int x5), .val (.int (4 : Int32)), .val (.ref b141), .val (.int x1), .val (.int (x1 + x2)), .val (.int ((x1 + x2) + x3)), .val (.int (((x1 + x2) + x3) + x4)), .val (.int ((((x1 + x2) + x3) + x4) + x5)), .val (.int (x4 + (x3 + (x2 + x1)))), .val (.int (1 : Int32)), .unset] []))
   refine own_st (fun t => XS.iconst (own_here Y165) hx rfl (hb hby at_174) ) ?_
   show own_Ends _ _ _ _ (T164.setTop (mkF m 175 #[.val (.int x0), .val (.int x1), .val (.int x2), .val (.int x3), .val (.int x4), .val (.int x5), .val (.int (4 : Int32)), .val (.ref b141), .val (.int x1), .val (.int (x1 + x2)), .val (.int ((x1 + x2) + x3)), .val (.int (((x1 + x2) + x3) + x4)), .val (.int ((((x1 + x2) + x3) + x4) + x5)), .val (.int (x4 + (x3 + (x2 + x1)))), .val (.int (1 : Int32)), .unset] [(.int (1 : Int32))]))
   refine own_st (fun t => XS.goto (own_here Y165) hx rfl (pc0 := 175) (pc' := 179) rfl (hb hby at_175) (by decide) (by decide)) ?_
   show own_Ends _ _ _ _ (T164.setTop (mkF m 179 #[.val (.int x0), .val (.int x1), .val (.int x2), .val (.int x3), .val (.int x4), .val (.int x5), .val (.int (4 : Int32)), .val (.ref b141), .val (.int x1), .val (.int (x1 + x2)), .val (.int ((x1 + x2) + x3)), .val (.int (((x1 + x2) + x3) + x4)), .val (.int ((((x1 + x2) + x3) + x4) + x5)), .val (.int (x4 + (x3 + (x2 + x1)))), .val (.int (1 : Int32)), .unset] [(.int (1 : Int32))]))
   refine own_st (fun t => XS.istore (own_here Y165) hx rfl (hb hby at_179) rfl (l' := #[.val (.int x0), .val (.int x1), .val (.int x2), .val (.int x3), .val (.int x4), .val (.int x5), .val (.int (4 : Int32)), .val (.ref b141), .val (.int x1), .val (.int (x1 + x2)), .val (.int ((x1 + x2) + x3)), .val (.int (((x1 + x2) + x3) + x4)), .val (.int ((((x1 + x2) + x3) + x4) + x5)), .val (.int (x4 + (x3 + (x2 + x1)))), .val (.int (1 : Int32)), .unset]) rfl) ?_
   show own_Ends _ _ _ _ (T164.setTop (mkF m 181 #[.val (.int x0), .val (.int x1), .val (.int x2), .val (.int x3), .val (.int x4), .val (.int x5), .val (.int (4 : Int32)), .val (.ref b141), .val (.int x1), .val (.int (x1 + x2)), .val (.int ((x1 + x2) + x3)), .val (.int (((x1 + x2) + x3) + x4)), .val (.int ((((x1 + x2) + x3) + x4) + x5)), .val (.int (x4 + (x3 + (x2 + x1)))), .val (.int (1 : Int32)), .unset] []))
   refine own_st (fun t => XS.iload (own_here Y165) hx rfl (hb hby at_181) rfl) ?_
   show own_Ends _ _ _ _ (T164.setTop (mkF m 183 #[.val (.int x0), .val (.int x1), .val (.int x2), .val (.int x3), .val (.int x4), .val (.int x5), .val (.int (4 : Int32)), .val (.ref b141), .val (.int x1), .val (.int (x1 + x2)), .val (.int ((x1 + x2) + x3)), .val (.int (((x1 + x2) + x3) + x4)), .val (.int ((((x1 + x2) + x3) + x4) + x5)), .val (.int (x4 + (x3 + (x2 + x1)))), .val (.int (1 : Int32)), .unset] [(.int (4 : Int32))]))
   refine own_st (fun t => XS.iconst (own_here Y165) hx rfl (hb hby at_183) ) ?_
   show own_Ends _ _ _ _ (T164.setTop (mkF m 184 #[.val (.int x0), .val (.int x1), .val (.int x2), .val (.int x3), .val (.int x4), .val (.int x5), .val (.int (4 : Int32)), .val (.ref b141), .val (.int x1), .val (.int (x1 + x2)), .val (.int ((x1 + x2) + x3)), .val (.int (((x1 + x2) + x3) + x4)), .val (.int ((((x1 + x2) + x3) + x4) + x5)), .val (.int (x4 + (x3 + (x2 + x1)))), .val (.int (1 : Int32)), .unset] [(.int (3 : Int32)), (.int (4 : Int32))]))
   refine own_st (fun t => XS.icmpNo (own_here Y165) hx rfl (hb hby at_184) rfl (XT.ii_le_f (by decide))) ?_
   show own_Ends _ _ _ _ (T164.setTop (mkF m 187 #[.val (.int x0), .val (.int x1), .val (.int x2), .val (.int x3), .val (.int x4), .val (.int x5), .val (.int (4 : Int32)), .val (.ref b141), .val (.int x1), .val (.int (x1 + x2)), .val (.int ((x1 + x2) + x3)), .val (.int (((x1 + x2) + x3) + x4)), .val (.int ((((x1 + x2) + x3) + x4) + x5)), .val (.int (x4 + (x3 + (x2 + x1)))), .val (.int (1 : Int32)), .unset] []))
   refine own_st (fun t => XS.iload (own_here Y165) hx rfl (hb hby at_187) rfl) ?_
   show own_Ends _ _ _ _ (T164.setTop (mkF m 189 #[.val (.int x0), .val (.int x1), .val (.int x2), .val (.int x3), .val (.int x4), .val (.int x5), .val (.int (4 : Int32)), .val (.ref b141), .val (.int x1), .val (.int (x1 + x2)), .val (.int ((x1 + x2) + x3)), .val (.int (((x1 + x2) + x3) + x4)), .val (.int ((((x1 + x2) + x3) + x4) + x5)), .val (.int (x4 + (x3 + (x2 + x1)))), .val (.int (1 : Int32)), .unset] [(.int (1 : Int32))]))
   refine own_st (fun t => XS.ifNo (own_here Y165) hx rfl (hb hby at_189) rfl (XT.i0_eq_f (by decide))) ?_
   show own_Ends _ _ _ _ (T164.setTop (mkF m 192 #[.val (.int x0), .val (.int x1), .val (.int x2), .val (.int x3), .val (.int x4), .val (.int x5), .val (.int (4 : Int32)), .val (.ref b141), .val (.int x1), .val (.int (x1 + x2)), .val (.int ((x1 + x2) + x3)), .val (.int (((x1 + x2) + x3) + x4)), .val (.int ((((x1 + x2) + x3) + x4) + x5)), .val (.int (x4 + (x3 + (x2 + x1)))), .val (.int (1 : Int32)), .unset] []))
   refine own_st (fun t => XS.aload (own_here Y165) hx rfl (hb hby at_192) rfl rfl) ?_
   show own_Ends _ _ _ _ (T164.setTop (mkF m 194 #[.val (.int x0), .val (.int x1), .val (.int x2), .val (.int x3), .val (.int x4), .val (.int x5), .val (.int (4 : Int32)), .val (.ref b141), .val (.int x1), .val (.int (x1 + x2)), .val (.int ((x1 + x2) + x3)), .val (.int (((x1 + x2) + x3) + x4)), .val (.int ((((x1 + x2) + x3) + x4) + x5)), .val (.int (x4 + (x3 + (x2 + x1)))), .val (.int (1 : Int32)), .unset] [(.ref b141)]))
   refine own_st (fun t => XS.iconst (own_here Y165) hx rfl (hb hby at_194) ) ?_
   show own_Ends _ _ _ _ (T164.setTop (mkF m 195 #[.val (.int x0), .val (.int x1), .val (.int x2), .val (.int x3), .val (.int x4), .val (.int x5), .val (.int (4 : Int32)), .val (.ref b141), .val (.int x1), .val (.int (x1 + x2)), .val (.int ((x1 + x2) + x3)), .val (.int (((x1 + x2) + x3) + x4)), .val (.int ((((x1 + x2) + x3) + x4) + x5)), .val (.int (x4 + (x3 + (x2 + x1)))), .val (.int (1 : Int32)), .unset] [(.int (3 : Int32)), (.ref b141)]))
   refine own_ldI Y165 hx hZ F170 (i := 3) (by decide) (by decide) (Nat.le_of_ble_eq_true rfl) (v := (.int (x4 + (x3 + (x2 + x1))))) rfl rfl rfl (hb hby at_195) ?_
   show own_Ends _ _ _ _ (T164.setTop (mkF m 196 #[.val (.int x0), .val (.int x1), .val (.int x2), .val (.int x3), .val (.int x4), .val (.int x5), .val (.int (4 : Int32)), .val (.ref b141), .val (.int x1), .val (.int (x1 + x2)), .val (.int ((x1 + x2) + x3)), .val (.int (((x1 + x2) + x3) + x4)), .val (.int ((((x1 + x2) + x3) + x4) + x5)), .val (.int (x4 + (x3 + (x2 + x1)))), .val (.int (1 : Int32)), .unset] [(.int (x4 + (x3 + (x2 + x1))))]))
   refine own_st (fun t => XS.iload (own_here Y165) hx rfl (hb hby at_196) rfl) ?_
   show own_Ends _ _ _ _ (T164.setTop (mkF m 198 #[.val (.int x0), .val (.int x1), .val (.int x2), .val (.int x3), .val (.int x4), .val (.int x5), .val (.int (4 : Int32)), .val (.ref b141), .val (.int x1), .val (.int (x1 + x2)), .val (.int ((x1 + x2) + x3)), .val (.int (((x1 + x2) + x3) + x4)), .val (.int ((((x1 + x2) + x3) + x4) + x5)), .val (.int (x4 + (x3 + (x2 + x1)))), .val (.int (1 : Int32)), .unset] [(.int (((x1 + x2) + x3) + x4)), (.int (x4 + (x3 + (x2 + x1))))]))
   refine own_st (fun t => XS.icmpNo (own_here Y165) hx rfl (hb hby at_198) rfl (XT.ii_ne_f (by first | rfl | ac_rfl | simp only [Int32.add_comm, Int32.add_left_comm, Int32.add_assoc]))) ?_
   show own_Ends _ _ _ _ (T164.setTop (mkF m 201 #[.val (.int x0), .val (.int x1), .val (.int x2), .val (.int x3), .val (.int x4), .val (.int x5), .val (.int (4 : Int32)), .val (.ref b141), .val (.int x1), .val (.int (x1 + x2)), .val (.int ((x1 + x2) + x3)), .val (.int (((x1 + x2) + x3) + x4)), .val (.int ((((x1 + x2) + x3) + x4) + x5)), .val (.int (x4 + (x3 + (x2 + x1)))), .val (.int (1 : Int32)), .unset] []))
   refine own_st (fun t => XS.iconst (own_here Y165) hx rfl (hb hby at_201) ) ?_
   show own_Ends _ _ _ _ (T164.setTop (mkF m 202 #[.val (.int x0), .val (.int x1), .val (.int x2), .val (.int x3), .val (.int x4), .val (.int x5), .val (.int (4 : Int32)), .val (.ref b141), .val (.int x1), .val (.int (x1 + x2)), .val (.int ((x1 + x2) + x3)), .val (.int (((x1 + x2) + x3) + x4)), .val (.int ((((x1 + x2) + x3) + x4) + x5)), .val (.int (x4 + (x3 + (x2 + x1)))), .val (.int (1 : Int32)), .unset] [(.int (1 : Int32))]))
   refine own_st (fun t => XS.goto (own_here Y165) hx rfl (pc0 := 202) (pc' := 206) rfl (hb hby at_202) (by decide) (by decide)) ?_
   show own_Ends _ _ _ _ (T164.setTop (mkF m 206 #[.val (.int x0), .val (.int x1), .val (.int x2), .val (.int x3), .val (.int x4), .val (.int x5), .val (.int (4 : Int32)), .val (.ref b141), .val (.int x1), .val (.int (x1 + x2)), .val (.int ((x1 + x2) + x3)), .val (.int (((x1 + x2) + x3) + x4)), .val (.int ((((x1 + x2) + x3) + x4) + x5)), .val (.int (x4 + (x3 + (x2 + x1)))), .val (.int (1 : Int32)), .unset] [(.int (1 : Int32))]))
   refine own_st (fun t => XS.istore (own_here Y165) hx rfl (hb hby at_206) rfl (l' := #[.val (.int x0), .val (.int x1), .val (.int x2), .val (.int x3), .val (.int x4), .val (.int x5), .val (.int (4 : Int32)), .val (.ref b141), .val (.int x1), .val (.int (x1 + x2)), .val (.int ((x1 + x2) + x3)), .val (.int (((x1 + x2) + x3) + x4)), .val (.int ((((x1 + x2) + x3) + x4) + x5)), .val (.int (x4 + (x3 + (x2 + x1)))), .val (.int (1 : Int32)), .unset]) rfl) ?_
   show own_Ends _ _ _ _ (T164.setTop (mkF m 208 #[.val (.int x0), .val (.int x1), .val (.int x2), .val (.int x3), .val (.int x4), .val (.int x5), .val (.int (4 : Int32)), .val (.ref b141), .val (.int x1), .val (.int (x1 + x2)), .val (.int ((x1 + x2) + x3)), .val (.int (((x1 + x2) + x3) + x4)), .val (.int ((((x1 + x2) + x3) + x4) + x5)), .val (.int (x4 + (x3 + (x2 + x1)))), .val (.int (1 : Int32)), .unset] []))
   refine own_st (fun t => XS.iload (own_here Y165) hx rfl (hb hby at_208) rfl) ?_
   show own_Ends _ _ _ _ (T164.setTop (mkF m 210 #[.val (.int x0), .val (.int x1), .val (.int x2), .val (.int x3), .val (.int x4), .val (.int x5), .val (.int (4 : Int32)), .val (.ref b141), .val (.int x1), .val (.int (x1 + x2)), .val (.int ((x1 + x2) + x3)), .val (.int (((x1 + x2) + x3) + x4)), .val (.int ((((x1 + x2) + x3) + x4) + x5)), .val (.int (x4 + (x3 + (x2 + x1)))), .val (.int (1 : Int32)), .unset] [(.int (4 : Int32))]))
   refine own_st (fun t => XS.iconst (own_here Y165) hx rfl (hb hby at_210) ) ?_
   show own_Ends _ _ _ _ (T164.setTop (mkF m 211 #[.val (.int x0), .val (.int x1), .val (.int x2), .val (.int x3), .val (.int x4), .val (.int x5), .val (.int (4 : Int32)), .val (.ref b141), .val (.int x1), .val (.int (x1 + x2)), .val (.int ((x1 + x2) + x3)), .val (.int (((x1 + x2) + x3) + x4)), .val (.int ((((x1 + x2) + x3) + x4) + x5)), .val (.int (x4 + (x3 + (x2 + x1)))), .val (.int (1 : Int32)), .unset] [(.int (4 : Int32)), (.int (4 : Int32))]))
   refine own_st (fun t => XS.icmpYes (own_here Y165) hx rfl (pc0 := 211) (pc' := 235) rfl (hb hby at_211) rfl (XT.ii_le_t (by decide)) (by decide) (by decide)) ?_
   show own_Ends _ _ _ _ (T164.setTop (mkF m 235 #[.val (.int x0), .val (.int x1), .val (.int x2), .val (.int x3), .val (.int x4), .val (.int x5), .val (.int (4 : Int32)), .val (.ref b141), .val (.int x1), .val (.int (x1 + x2)), .val (.int ((x1 + x2) + x3)), .val (.int (((x1 + x2) + x3) + x4)), .val (.int ((((x1 + x2) + x3) + x4) + x5)), .val (.int (x4 + (x3 + (x2 + x1)))), .val (.int (1 : Int32)), .unset] []))
   refine own_st (fun t => XS.iload (own_here Y165) hx rfl (hb hby at_235) rfl) ?_
   show own_Ends _ _ _ _ (T164.setTop (mkF m 237 #[.val (.int x0), .val (.int x1), .val (.int x2), .val (.int x3), .val (.int x4), .val (.int x5), .val (.int (4 : Int32)), .val (.ref b141), .val (.int x1), .val (.int (x1 + x2)), .val (.int ((x1 + x2) + x3)), .val (.int (((x1 + x2) + x3) + x4)), .val (.int ((((x1 + x2) + x3) + x4) + x5)), .val (.int (x4 + (x3 + (x2 + x1)))), .val (.int (1 : Int32)), .unset] [(.int x1)]))
   refine own_st (fun t => XS.istore (own_here Y165) hx rfl (hb hby at_237) rfl (l' := #[.val (.int x0), .val (.int x1), .val (.int x2), .val (.int x3), .val (.int x4), .val (.int x5), .val (.int (4 : Int32)), .val (.ref b141), .val (.int x1), .val (.int (x1 + x2)), .val (.int ((x1 + x2) + x3)), .val (.int (((x1 + x2) + x3) + x4)), .val (.int ((((x1 + x2) + x3) + x4) + x5)), .val (.int (x4 + (x3 + (x2 + x1)))), .val (.int (1 : Int32)), .val (.int x1)]) rfl) ?_
   show own_Ends _ _ _ _ (T164.setTop (mkF m 239 #[.val (.int x0), .val (.int x1), .val (.int x2), .val (.int x3), .val (.int x4), .val (.int x5), .val (.int (4 : Int32)), .val (.ref b141), .val (.int x1), .val (.int (x1 + x2)), .val (.int ((x1 + x2) + x3)), .val (.int (((x1 + x2) + x3) + x4)), .val (.int ((((x1 + x2) + x3) + x4) + x5)), .val (.int (x4 + (x3 + (x2 + x1)))), .val (.int (1 : Int32)), .val (.int x1)] []))
   refine own_st (fun t => XS.iload (own_here Y165) hx rfl (hb hby at_239) rfl) ?_
   show own_Ends _ _ _ _ (T164.setTop (mkF m 241 #[.val (.int x0), .val (.int x1), .val (.int x2), .val (.int x3), .val (.int x4), .val (.int x5), .val (.int (4 : Int32)), .val (.ref b141), .val (.int x1), .val (.int (x1 + x2)), .val (.int ((x1 + x2) + x3)), .val (.int (((x1 + x2) + x3) + x4)), .val (.int ((((x1 + x2) + x3) + x4) + x5)), .val (.int (x4 + (x3 + (x2 + x1)))), .val (.int (1 : Int32)), .val (.int x1)] [(.int (4 : Int32))]))
   refine own_st (fun t => XS.iconst (own_here Y165) hx rfl (hb hby at_241) ) ?_
   show own_Ends _ _ _ _ (T164.setTop (mkF m 242 #[.val (.int x0), .val (.int x1), .val (.int x2), .val (.int x3), .val (.int x4), .val (.int x5), .val (.int (4 : Int32)), .val (.ref b141), .val (.int x1), .val (.int (x1 + x2)), .val (.int ((x1 + x2) + x3)), .val (.int (((x1 + x2) + x3) + x4)), .val (.int ((((x1 + x2) + x3) + x4) + x5)), .val (.int (x4 + (x3 + (x2 + x1)))), .val (.int (1 : Int32)), .val (.int x1)] [(.int (2 : Int32)), (.int (4 : Int32))]))
   refine own_st (fun t => XS.icmpYes (own_here Y165) hx rfl (pc0 := 242) (pc' := 252) rfl (hb hby at_242) rfl (XT.ii_ne_t (by decide)) (by decide) (by decide)) ?_
   show own_Ends _ _ _ _ (T164.setTop (mkF m 252 #[.val (.int x0), .val (.int x1), .val (.int x2), .val (.int x3), .val (.int x4), .val (.int x5), .val (.int (4 : Int32)), .val (.ref b141), .val (.int x1), .val (.int (x1 + x2)), .val (.int ((x1 + x2) + x3)), .val (.int (((x1 + x2) + x3) + x4)), .val (.int ((((x1 + x2) + x3) + x4) + x5)), .val (.int (x4 + (x3 + (x2 + x1)))), .val (.int (1 : Int32)), .val (.int x1)] []))
   refine own_st (fun t => XS.iload (own_here Y165) hx rfl (hb hby at_252) rfl) ?_
   show own_Ends _ _ _ _ (T164.setTop (mkF m 254 #[.val (.int x0), .val (.int x1), .val (.int x2), .val (.int x3), .val (.int x4), .val (.int x5), .val (.int (4 : Int32)), .val (.ref b141), .val (.int x1), .val (.int (x1 + x2)), .val (.int ((x1 + x2) + x3)), .val (.int (((x1 + x2) + x3) + x4)), .val (.int ((((x1 + x2) + x3) + x4) + x5)), .val (.int (x4 + (x3 + (x2 + x1)))), .val (.int (1 : Int32)), .val (.int x1)] [(.int (4 : Int32))]))
   refine own_st (fun t => XS.iconst (own_here Y165) hx rfl (hb hby at_254) ) ?_
   show own_Ends _ _ _ _ (T164.setTop (mkF m 255 #[.val (.int x0), .val (.int x1), .val (.int x2), .val (.int x3), .val (.int x4), .val (.int x5), .val (.int (4 : Int32)), .val (.ref b141), .val (.int x1), .val (.int (x1 + x2)), .val (.int ((x1 + x2) + x3)), .val (.int (((x1 + x2) + x3) + x4)), .val (.int ((((x1 + x2) + x3) + x4) + x5)), .val (.int (x4 + (x3 + (x2 + x1)))), .val (.int (1 : Int32)), .val (.int x1)] [(.int (3 : Int32)), (.int (4 : Int32))]))
   refine own_st (fun t => XS.icmpYes (own_here Y165) hx rfl (pc0 := 255) (pc' := 265) rfl (hb hby at_255) rfl (XT.ii_ne_t (by decide)) (by decide) (by decide)) ?_
   show own_Ends _ _ _ _ (T164.setTop (mkF m 265 #[.val (.int x0), .val (.int x1), .val (.int x2), .val (.int x3), .val (.int x4), .val (.int x5), .val (.int (4 : Int32)), .val (.ref b141), .val (.int x1), .val (.int (x1 + x2)), .val (.int ((x1 + x2) + x3)), .val (.int (((x1 + x2) + x3) + x4)), .val (.int ((((x1 + x2) + x3) + x4) + x5)), .val (.int (x4 + (x3 + (x2 + x1)))), .val (.int (1 : Int32)), .val (.int x1)] []))
   refine own_st (fun t => XS.iload (own_here Y165) hx rfl (hb hby at_265) rfl) ?_
   show own_Ends _ _ _ _ (T164.setTop (mkF m 267 #[.val (.int x0), .val (.int x1), .val (.int x2), .val (.int x3), .val (.int x4), .val (.int x5), .val (.int (4 : Int32)), .val (.ref b141), .val (.int x1), .val (.int (x1 + x2)), .val (.int ((x1 + x2) + x3)), .val (.int (((x1 + x2) + x3) + x4)), .val (.int ((((x1 + x2) + x3) + x4) + x5)), .val (.int (x4 + (x3 + (x2 + x1)))), .val (.int (1 : Int32)), .val (.int x1)] [(.int (4 : Int32))]))
   refine own_st (fun t => XS.iconst (own_here Y165) hx rfl (hb hby at_267) ) ?_
   show own_Ends _ _ _ _ (T164.setTop (mkF m 268 #[.val (.int x0), .val (.int x1), .val (.int x2), .val (.int x3), .val (.int x4), .val (.int x5), .val (.int (4 : Int32)), .val (.ref b141), .val (.int x1), .val (.int (x1 + x2)), .val (.int ((x1 + x2) + x3)), .val (.int (((x1 + x2) + x3) + x4)), .val (.int ((((x1 + x2) + x3) + x4) + x5)), .val (.int (x4 + (x3 + (x2 + x1)))), .val (.int (1 : Int32)), .val (.int x1)] [(.int (4 : Int32)), (.int (4 : Int32))]))
   refine own_st (fun t => XS.icmpNo (own_here Y165) hx rfl (hb hby at_268) rfl (XT.ii_ne_f (by decide))) ?_
   show own_Ends _ _ _ _ (T164.setTop (mkF m 271 #[.val (.int x0), .val (.int x1), .val (.int x2), .val (.int x3), .val (.int x4), .val (.int x5), .val (.int (4 : Int32)), .val (.ref b141), .val (.int x1), .val (.int (x1 + x2)), .val (.int ((x1 + x2) + x3)), .val (.int (((x1 + x2) + x3) + x4)), .val (.int ((((x1 + x2) + x3) + x4) + x5)), .val (.int (x4 + (x3 + (x2 + x1)))), .val (.int (1 : Int32)), .val (.int x1)] []))
   refine own_st (fun t => XS.iload (own_here Y165) hx rfl (hb hby at_271) rfl) ?_
   show own_Ends _ _ _ _ (T164.setTop (mkF m 273 #[.val (.int x0), .val (.int x1), .val (.int x2), .val (.int x3), .val (.int x4), .val (.int x5), .val (.int (4 : Int32)), .val (.ref b141), .val (.int x1), .val (.int (x1 + x2)), .val (.int ((x1 + x2) + x3)), .val (.int (((x1 + x2) + x3) + x4)), .val (.int ((((x1 + x2) + x3) + x4) + x5)), .val (.int (x4 + (x3 + (x2 + x1)))), .val (.int (1 : Int32)), .val (.int x1)] [(.int (((x1 + x2) + x3) + x4))]))
   refine own_st (fun t => XS.istore (own_here Y165) hx rfl (hb hby at_273) rfl (l' := #[.val (.int x0), .val (.int x1), .val (.int x2), .val (.int x3), .val (.int x4), .val (.int x5), .val (.int (4 : Int32)), .val (.ref b141), .val (.int x1), .val (.int (x1 + x2)), .val (.int ((x1 + x2) + x3)), .val (.int (((x1 + x2) + x3) + x4)), .val (.int ((((x1 + x2) + x3) + x4) + x5)), .val (.int (x4 + (x3 + (x2 + x1)))), .val (.int (1 : Int32)), .val (.int (((x1 + x2) + x3) + x4))]) rfl) ?_
   show own_Ends _ _ _ _ (T164.setTop (mkF m 275 #[.val (.int x0), .val (.int x1), .val (.int x2), .val (.int x3), .val (.int x4), .val (.int x5), .val (.int (4 : Int32)), .val (.ref b141), .val (.int x1), .val (.int (x1 + x2)), .val (.int ((x1 + x2) + x3)), .val (.int (((x1 + x2) + x3) + x4)), .val (.int ((((x1 + x2) + x3) + x4) + x5)), .val (.int (x4 + (x3 + (x2 + x1)))), .val (.int (1 : Int32)), .val (.int (((x1 + x2) + x3) + x4))] []))
   refine own_st (fun t => XS.goto (own_here Y165) hx rfl (pc0 := 275) (pc' := 288) rfl (hb hby at_275) (by decide) (by decide)) ?_
   show own_Ends _ _ _ _ (T164.setTop (mkF m 288 #[.val (.int x0), .val (.int x1), .val (.int x2), .val (.int x3), .val (.int x4), .val (.int x5), .val (.int (4 : Int32)), .val (.ref b141), .val (.int x1), .val (.int (x1 + x2)), .val (.int ((x1 + x2) + x3)), .val (.int (((x1 + x2) + x3) + x4)), .val (.int ((((x1 + x2) + x3) + x4) + x5)), .val (.int (x4 + (x3 + (x2 + x1)))), .val (.int (1 : Int32)), .val (.int (((x1 + x2) + x3) + x4))] []))
   refine own_st (fun t => XS.iload (own_here Y165) hx rfl (hb hby at_288) rfl) ?_
   show own_Ends _ _ _ _ (T164.setTop (mkF m 290 #[.val (.int x0), .val (.int x1), .val (.int x2), .val (.int x3), .val (.int x4), .val (.int x5), .val (.int (4 : Int32)), .val (.ref b141), .val (.int x1), .val (.int (x1 + x2)), .val (.int ((x1 + x2) + x3)), .val (.int (((x1 + x2) + x3) + x4)), .val (.int ((((x1 + x2) + x3) + x4) + x5)), .val (.int (x4 + (x3 + (x2 + x1)))), .val (.int (1 : Int32)), .val (.int (((x1 + x2) + x3) + x4))] [(.int (1 : Int32))]))
   refine own_st (fun t => XS.ifNo (own_here Y165) hx rfl (hb hby at_290) rfl (XT.i0_eq_f (by decide))) ?_
   show own_Ends _ _ _ _ (T164.setTop (mkF m 293 #[.val (.int x0), .val (.int x1), .val (.int x2), .val (.int x3), .val (.int x4), .val (.int x5), .val (.int (4 : Int32)), .val (.ref b141), .val (.int x1), .val (.int (x1 + x2)), .val (.int ((x1 + x2) + x3)), .val (.int (((x1 + x2) + x3) + x4)), .val (.int ((((x1 + x2) + x3) + x4) + x5)), .val (.int (x4 + (x3 + (x2 + x1)))), .val (.int (1 : Int32)), .val (.int (((x1 + x2) + x3) + x4))] []))
   refine own_st (fun t => XS.iload (own_here Y165) hx rfl (hb hby at_293) rfl) ?_
   show own_Ends _ _ _ _ (T164.setTop (mkF m 295 #[.val (.int x0), .val (.int x1), .val (.int x2), .val (.int x3), .val (.int x4), .val (.int x5), .val (.int (4 : Int32)), .val (.ref b141), .val (.int x1), .val (.int (x1 + x2)), .val (.int ((x1 + x2) + x3)), .val (.int (((x1 + x2) + x3) + x4)), .val (.int ((((x1 + x2) + x3) + x4) + x5)), .val (.int (x4 + (x3 + (x2 + x1)))), .val (.int (1 : Int32)), .val (.int (((x1 + x2) + x3) + x4))] [(.int (x4 + (x3 + (x2 + x1))))]))
   refine own_st (fun t => XS.iload (own_here Y165) hx rfl (hb hby at_295) rfl) ?_
   show own_Ends _ _ _ _ (T164.setTop (mkF m 297 #[.val (.int x0), .val (.int x1), .val (.int x2), .val (.int x3), .val (.int x4), .val (.int x5), .val (.int (4 : Int32)), .val (.ref b141), .val (.int x1), .val (.int (x1 + x2)), .val (.int ((x1 + x2) + x3)), .val (.int (((x1 + x2) + x3) + x4)), .val (.int ((((x1 + x2) + x3) + x4) + x5)), .val (.int (x4 + (x3 + (x2 + x1)))), .val (.int (1 : Int32)), .val (.int (((x1 + x2) + x3) + x4))] [(.int (((x1 + x2) + x3) + x4)), (.int (x4 + (x3 + (x2 + x1))))]))
   refine own_st (fun t => XS.icmpNo (own_here Y165) hx rfl (hb hby at_297) rfl (XT.ii_ne_f (by first | rfl | ac_rfl | simp only [Int32.add_comm, Int32.add_left_comm, Int32.add_assoc]))) ?_
   show own_Ends _ _ _ _ (T164.setTop (mkF m 300 #[.val (.int x0), .val (.int x1), .val (.int x2), .val (.int x3), .val (.int x4), .val (.int x5), .val (.int (4 : Int32)), .val (.ref b141), .val (.int x1), .val (.int (x1 + x2)), .val (.int ((x1 + x2) + x3)), .val (.int (((x1 + x2) + x3) + x4)), .val (.int ((((x1 + x2) + x3) + x4) + x5)), .val (.int (x4 + (x3 + (x2 + x1)))), .val (.int (1 : Int32)), .val (.int (((x1 + x2) + x3) + x4))] []))
   refine own_st (fun t => XS.iconst (own_here Y165) hx rfl (hb hby at_300) ) ?_
   show own_Ends _ _ _ _ (T164.setTop (mkF m 301 #[.val (.int x0), .val (.int x1), .val (.int x2), .val (.int x3), .val (.int x4), .val (.int x5), .val (.int (4 : Int32)), .val (.ref b141), .val (.int x1), .val (.int (x1 + x2)), .val (.int ((x1 + x2) + x3)), .val (.int (((x1 + x2) + x3) + x4)), .val (.int ((((x1 + x2) + x3) + x4) + x5)), .val (.int (x4 + (x3 + (x2 + x1)))), .val (.int (1 : Int32)), .val (.int (((x1 + x2) + x3) + x4))] [(.int (1 : Int32))]))
   refine own_st (fun t => XS.goto (own_here Y165) hx rfl (pc0 := 301) (pc' := 305) rfl (hb hby at_301) (by decide) (by decide)) ?_
   show own_Ends _ _ _ _ (T164.setTop (mkF m 305 #[.val (.int x0), .val (.int x1), .val (.int x2), .val (.int x3), .val (.int x4), .val (.int x5), .val (.int (4 : Int32)), .val (.ref b141), .val (.int x1), .val (.int (x1 + x2)), .val (.int ((x1 + x2) + x3)), .val (.int (((x1 + x2) + x3) + x4)), .val (.int ((((x1 + x2) + x3) + x4) + x5)), .val (.int (x4 + (x3 + (x2 + x1)))), .val (.int (1 : Int32)), .val (.int (((x1 + x2) + x3) + x4))] [(.int (1 : Int32))]))
   refine own_retN Y165 hx hlk (t := .boolean) hret (by simp) (hb hby at_305) (by decide) (by decide) ?_
   exact rfl
  ·
   show own_Ends _ _ _ _ (T0.setTop (mkF m 10 #[.val (.int x0), .val (.int x1), .val (.int x2), .val (.int x3), .val (.int x4), .val (.int x5), .val (.int (5 : Int32)), .unset, .unset, .unset, .unset, .unset, .unset, .unset, .unset, .unset] []))
   refine own_st (fun t => XS.iload (own_here Y0) hx rfl (hb hby at_10) rfl) ?_
   show own_Ends _ _ _ _ (T0.setTop (mkF m 12 #[.val (.int x0), .val (.int x1), .val (.int x2), .val (.int x3), .val (.int x4), .val (.int x5), .val (.int (5 : Int32)), .unset, .unset, .unset, .unset, .unset, .unset, .unset, .unset, .unset] [(.int (5 : Int32))]))
   refine own_newP Y0 hx hZ (hw _ (List.mem_of_getElem? (i := 1) rfl)) rfl (hb hby at_12) rfl (by decide) (nz := 5) (cap := 5) (by decide) (by decide) (by decide) (by decide) (by decide) (ty := .int) rfl (fun T171 h173 b176 eb177 Y172 E174 A175 => ?_)
   have g178 : n0 ≤ b176 := by rw [eb177]; exact Z0
   replace A175 : own_A Z h173 b176 .int [(.int (0 : Int32)), (.int (0 : Int32)), (.int (0 : Int32)), (.int (0 : Int32)), (.int (0 : Int32))] := A175
   show own_Ends _ _ _ _ (T171.setTop (mkF m 14 #[.val (.int x0), .val (.int x1), .val (.int x2), .val (.int x3), .val (.int x4), .val (.int x5), .val (.int (5 : Int32)), .unset, .unset, .unset, .unset, .unset, .unset, .unset, .unset, .unset] [(.ref b176)]))
   refine own_st (fun t => XS.astore (own_here Y172) hx rfl (hb hby at_14) rfl rfl (l' := #[.val (.int x0), .val (.int x1), .val (.int x2), .val (.int x3), .val (.int x4), .val (.int x5), .val (.int (5 : Int32)), .val (.ref b176), .unset, .unset, .unset, .unset, .unset, .unset, .unset, .unset]) rfl) ?_
   show own_Ends _ _ _ _ (T171.setTop (mkF m 16 #[.val (.int x0), .val (.int x1), .val (.int x2), .val (.int x3), .val (.int x4), .val (.int x5), .val (.int (5 : Int32)), .val (.ref b176), .unset, .unset, .unset, .unset, .unset, .unset, .unset, .unset] []))
   refine own_st (fun t => XS.aload (own_here Y172) hx rfl (hb hby at_16) rfl rfl) ?_
   show own_Ends _ _ _ _ (T171.setTop (mkF m 18 #[.val (.int x0), .val (.int x1), .val (.int x2), .val (.int x3), .val (.int x4), .val (.int x5), .val (.int (5 : Int32)), .val (.ref b176), .unset, .unset, .unset, .unset, .unset, .unset, .unset, .unset] [(.ref b176)]))
   refine own_st (fun t => XS.iconst (own_here Y172) hx rfl (hb hby at_18) ) ?_
   show own_Ends _ _ _ _ (T171.setTop (mkF m 19 #[.val (.int x0), .val (.int x1), .val (.int x2), .val (.int x3), .val (.int x4), .val (.int x5), .val (.int (5 : Int32)), .val (.ref b176), .unset, .unset, .unset, .unset, .unset, .unset, .unset, .unset] [(.int (0 : Int32)), (.ref b176)]))
   refine own_st (fun t => XS.iloadN (own_here Y172) hx rfl (hb hby at_19) rfl) ?_
   show own_Ends _ _ _ _ (T171.setTop (mkF m 20 #[.val (.int x0), .val (.int x1), .val (.int x2), .val (.int x3), .val (.int x4), .val (.int x5), .val (.int (5 : Int32)), .val (.ref b176), .unset, .unset, .unset, .unset, .unset, .unset, .unset, .unset] [(.int x1), (.int (0 : Int32)), (.ref b176)]))
   refine own_stI Y172 hx hZ A175 g178 (i := 0) (by decide) (by decide) (Nat.le_of_ble_eq_true rfl) rfl rfl (hb hby at_20) (fun T179 h181 Y180 W182 A183 => ?_)
   replace A183 : own_A Z h181 b176 .int [(.int x1), (.int (0 : Int32)), (.int (0 : Int32)), (.int (0 : Int32)), (.int (0 : Int32))] := A183
   show own_Ends _ _ _ _ (T179.setTop (mkF m 21 #[.val (.int x0), .val (.int x1), .val (.int x2), .val (.int x3), .val (.int x4), .val (.int x5), .val (.int (5 : Int32)), .val (.ref b176), .unset, .unset, .unset, .unset, .unset, .unset, .unset, .unset] []))
   refine own_st (fun t => XS.iload (own_here Y180) hx rfl (hb hby at_21) rfl) ?_
   show own_Ends _ _ _ _ (T179.setTop (mkF m 23 #[.val (.int x0), .val (.int x1), .val (.int x2), .val (.int x3), .val (.int x4), .val (.int x5), .val (.int (5 : Int32)), .val (.ref b176), .unset, .unset, .unset, .unset, .unset, .unset, .unset, .unset] [(.int (5 : Int32))]))
   refine own_st (fun t => XS.iconst (own_here Y180) hx rfl (hb hby at_23) ) ?_
   show own_Ends _ _ _ _ (T179.setTop (mkF m 24 #[.val (.int x0), .val (.int x1), .val (.int x2), .val (.int x3), .val (.int x4), .val (.int x5), .val (.int (5 : Int32)), .val (.ref b176), .unset, .unset, .unset, .unset, .unset, .unset, .unset, .unset] [(.int (1 : Int32)), (.int (5 : Int32))]))
   refine own_st (fun t => XS.icmpNo (own_here Y180) hx rfl (hb hby at_24) rfl (XT.ii_le_f (by decide))) ?_
   show own_Ends _ _ _ _ (T179.setTop (mkF m 27 #[.val (.int x0), .val (.int x1), .val (.int x2), .val (.int x3), .val (.int x4), .val (.int x5), .val (.int (5 : Int32)), .val (.ref b176), .unset, .unset, .unset, .unset, .unset, .unset, .unset, .unset] []))
   refine own_st (fun t => XS.aload (own_here Y180) hx rfl (hb hby at_27) rfl rfl) ?_
   show own_Ends _ _ _ _ (T179.setTop (mkF m 29 #[.val (.int x0), .val (.int x1), .val (.int x2), .val (.int x3), .val (.int x4), .val (.int x5), .val (.int (5 : Int32)), .val (.ref b176), .unset, .unset, .unset, .unset, .unset, .unset, .unset, .unset] [(.ref b176)]))
   refine own_st (fun t => XS.iconst (own_here Y180) hx rfl (hb hby at_29) ) ?_
   show own_Ends _ _ _ _ (T179.setTop (mkF m 30 #[.val (.int x0), .val (.int x1), .val (.int x2), .val (.int x3), .val (.int x4), .val (.int x5), .val (.int (5 : Int32)), .val (.ref b176), .unset, .unset, .unset, .unset, .unset, .unset, .unset, .unset] [(.int (1 : Int32)), (.ref b176)]))
   refine own_st (fun t => XS.iloadN (own_here Y180) hx rfl (hb hby at_30) rfl) ?_
   show own_Ends _ _ _ _ (T179.setTop (mkF m 31 #[.val (.int x0), .val (.int x1), .val (.int x2), .val (.int x3), .val (.int x4), .val (.int x5), .val (.int (5 : Int32)), .val (.ref b176), .unset, .unset, .unset, .unset, .unset, .unset, .unset, .unset] [(.int x2), (.int (1 : Int32)), (.ref b176)]))
   refine own_stI Y180 hx hZ A183 g178 (i := 1) (by decide) (by decide) (Nat.le_of_ble_eq_true rfl) rfl rfl (hb hby at_31) (fun T184 h186 Y185 W187 A188 => ?_)
   replace A188 : own_A Z h186 b176 .int [(.int x1), (.int x2), (.int (0 : Int32)), (.int (0 : Int32)), (.int (0 : Int32))] := A188
   show own_Ends _ _ _ _ (T184.setTop (mkF m 32 #[.val (.int x0), .val (.int x1), .val (.int x2), .val (.int x3), .val (.int x4), .val (.int x5), .val (.int (5 : Int32)), .val (.ref b176), .unset, .unset, .unset, .unset, .unset, .unset, .unset, .unset] []))
   refine own_st (fun t => XS.iload (own_here Y185) hx rfl (hb hby at_32) rfl) ?_
   show own_Ends _ _ _ _ (T184.setTop (mkF m 34 #[.val (.int x0), .val (.int x1), .val (.int x2), .val (.int x3), .val (.int x4), .val (.int x5), .val (.int (5 : Int32)), .val (.ref b176), .unset, .unset, .unset, .unset, .unset, .unset, .unset, .unset] [(.int (5 : Int32))]))
   refine own_st (fun t => XS.iconst (own_here Y185) hx rfl (hb hby at_34) ) ?_
   show own_Ends _ _ _ _ (T184.setTop (mkF m 35 #[.val (.int x0), .val (.int x1), .val (.int x2), .val (.int x3), .val (.int x4), .val (.int x5), .val (.int (5 : Int32)), .val (.ref b176), .unset, .unset, .unset, .unset, .unset, .unset, .unset, .unset] [(.int (2 : Int32)), (.int (5 : Int32))]))
   refine own_st (fun t => XS.icmpNo (own_here Y185) hx rfl (hb hby at_35) rfl (XT.ii_le_f (by decide))) ?_
   show own_Ends _ _ _ _ (T184.setTop (mkF m 38 #[.val (.int x0), .val (.int x1), .val (.int x2), .val (.int x3), .val (.int x4), .val (.int x5), .val (.int (5 : Int32)), .val (.ref b176), .unset, .unset, .unset, .unset, .unset, .unset, .unset, .unset] []))
   refine own_st (fun t => XS.aload (own_here Y185) hx rfl (hb hby at_38) rfl rfl) ?_
   show own_Ends _ _ _ _ (T184.setTop (mkF m 40 #[.val (.int x0), .val (.int x1), .val (.int x2), .val (.int x3), .val (.int x4), .val (.int x5), .val (.int (5 : Int32)), .val (.ref b176), .unset, .unset, .unset, .unset, .unset, .unset, .unset, .unset] [(.ref b176)]))
   refine own_st (fun t => XS.iconst (own_here Y185) hx rfl (hb hby at_40) ) ?_
   show own_Ends _ _ _ _ (T184.setTop (mkF m 41 #[.val (.int x0), .val (.int x1), .val (.int x2), .val (.int x3), .val (.int x4), .val (.int x5), .val (.int (5 : Int32)), .val (.ref b176), .unset, .unset, .unset, .unset, .unset, .unset, .unset, .unset] [(.int (2 : Int32)), (.ref b176)]))
   refine own_st (fun t => XS.iloadN (own_here Y185) hx rfl (hb hby at_41) rfl) ?_
   show own_Ends _ _ _ _ (T184.setTop (mkF m 42 #[.val (.int x0), .val (.int x1), .val (.int x2), .val (.int x3), .val (.int x4), .val (.int x5), .val (.int (5 : Int32)), .val (.ref b176), .unset, .unset, .unset, .unset, .unset, .unset, .unset, .unset] [(.int x3), (.int (2 : Int32)), (.ref b176)]))
   refine own_stI Y185 hx hZ A188 g178 (i := 2) (by decide) (by decide) (Nat.le_of_ble_eq_true rfl) rfl rfl (hb hby at_42) (fun T189 h191 Y190 W192 A193 => ?_)
   replace A193 : own_A Z h191 b176 .int [(.int x1), (.int x2), (.int x3), (.int (0 : Int32)), (.int (0 : Int32))] := A193
   show own_Ends _ _ _ _ (T189.setTop (mkF m 43 #[.val (.int x0), .val (.int x1), .val (.int x2), .val (.int x3), .val (.int x4), .val (.int x5), .val (.int (5 : Int32)), .val (.ref b176), .unset, .unset, .unset, .unset, .unset, .unset, .unset, .unset] []))
   refine own_st (fun t => XS.iload (own_here Y190) hx rfl (hb hby at_43) rfl) ?_
   show own_Ends _ _ _ _ (T189.setTop (mkF m 45 #[.val (.int x0), .val (.int x1), .val (.int x2), .val (.int x3), .val (.int x4), .val (.int x5), .val (.int (5 : Int32)), .val (.ref b176), .unset, .unset, .unset, .unset, .unset, .unset, .unset, .unset] [(.int (5 : Int32))]))
   refine own_st (fun t => XS.iconst (own_here Y190) hx rfl (hb hby at_45) ) ?_
   show own_Ends _ _ _ _ (T189.setTop (mkF m 46 #[.val (.int x0), .val (.int x1), .val (.int x2), .val (.int x3), .val (.int x4), .val (.int x5), .val (.int (5 : Int32)), .val (.ref b176), .unset, .unset, .unset, .unset, .unset, .unset, .unset, .unset] [(.int (3 : Int32)), (.int (5 : Int32))]))
   refine own_st (fun t => XS.icmpNo (own_here Y190) hx rfl (hb hby at_46) rfl (XT.ii_le_f (by decide))) ?_
   show own_Ends _ _ _ _ (T189.setTop (mkF m 49 #[.val (.int x0), .val (.int x1), .val (.int x2), .val (.int x3), .val (.int x4), .val (.int x5), .val (.int (5 : Int32)), .val (.ref b176), .unset, .unset, .unset, .unset, .unset, .unset, .unset, .unset] []))
   refine own_st (fun t => XS.aload (own_here Y190) hx rfl (hb hby at_49) rfl rfl) ?_
   show own_Ends _ _ _ _ (T189.setTop (mkF m 51 #[.val (.int x0), .val (.int x1), .val (.int x2), .val (.int x3), .val (.int x4), .val (.int x5), .val (.int (5 : Int32)), .val (.ref b176), .unset, .unset, .unset, .unset, .unset, .unset, .unset, .unset] [(.ref b176)]))
   refine own_st (fun t => XS.iconst (own_here Y190) hx rfl (hb hby at_51) ) ?_
   show own_Ends _ _ _ _ (T189.setTop (mkF m 52 #[.val (.int x0), .val (.int x1), .val (.int x2), .val (.int x3), .val (.int x4), .val (.int x5), .val (.int (5 : Int32)), .val (.ref b176), .unset, .unset, .unset, .unset, .unset, .unset, .unset, .unset] [(.int (3 : Int32)), (.ref b176)]))
   refine own_st (fun t => XS.iload (own_here Y190) hx rfl (hb hby at_52) rfl) ?_
   show own_Ends _ _ _ _ (T189.setTop (mkF m 54 #[.val (.int x0), .val (.int x1), .val (.int x2), .val (.int x3), .val (.int x4), .val (.int x5), .val (.int (5 : Int32)), .val (.ref b176), .unset, .unset, .unset, .unset, .unset, .unset, .unset, .unset] [(.int x4), (.int (3 : Int32)), (.ref b176)]))
   refine own_stI Y190 hx hZ A193 g178 (i := 3) (by decide) (by decide) (Nat.le_of_ble_eq_true rfl) rfl rfl (hb hby at_54) (fun T194 h196 Y195 W197 A198 => ?_)
   replace A198 : own_A Z h196 b176 .int [(.int x1), (.int x2), (.int x3), (.int x4), (.int (0 : Int32))] := A198
   show own_Ends _ _ _ _ (T194.setTop (mkF m 55 #[.val (.int x0), .val (.int x1), .val (.int x2), .val (.int x3), .val (.int x4), .val (.int x5), .val (.int (5 : Int32)), .val (.ref b176), .unset, .unset, .unset, .unset, .unset, .unset, .unset, .unset] []))
   refine own_st (fun t => XS.iload (own_here Y195) hx rfl (hb hby at_55) rfl) ?_
   show own_Ends _ _ _ _ (T194.setTop (mkF m 57 #[.val (.int x0), .val (.int x1), .val (.int x2), .val (.int x3), .val (.int x4), .val (.int x5), .val (.int (5 : Int32)), .val (.ref b176), .unset, .unset, .unset, .unset, .unset, .unset, .unset, .unset] [(.int (5 : Int32))]))
   refine own_st (fun t => XS.iconst (own_here Y195) hx rfl (hb hby at_57) ) ?_
   show own_Ends _ _ _ _ (T194.setTop (mkF m 58 #[.val (.int x0), .val (.int x1), .val (.int x2), .val (.int x3), .val (.int x4), .val (.int x5), .val (.int (5 : Int32)), .val (.ref b176), .unset, .unset, .unset, .unset, .unset, .unset, .unset, .unset] [(.int (4 : Int32)), (.int (5 : Int32))]))
   refine own_st (fun t => XS.icmpNo (own_here Y195) hx rfl (hb hby at_58) rfl (XT.ii_le_f (by decide))) ?_
   show own_Ends _ _ _ _ (T194.setTop (mkF m 61 #[.val (.int x0), .val (.int x1), .val (.int x2), .val (.int x3), .val (.int x4), .val (.int x5), .val (.int (5 : Int32)), .val (.ref b176), .unset, .unset, .unset, .unset, .unset, .unset, .unset, .unset] []))
   refine own_st (fun t => XS.aload (own_here Y195) hx rfl (hb hby at_61) rfl rfl) ?_
   show own_Ends _ _ _ _ (T194.setTop (mkF m 63 #[.val (.int x0), .val (.int x1), .val (.int x2), .val (.int x3), .val (.int x4), .val (.int x5), .val (.int (5 : Int32)), .val (.ref b176), .unset, .unset, .unset, .unset, .unset, .unset, .unset, .unset] [(.ref b176)]))
   refine own_st (fun t => XS.iconst (own_here Y195) hx rfl (hb hby at_63) ) ?_
   show own_Ends _ _ _ _ (T194.setTop (mkF m 64 #[.val (.int x0), .val (.int x1), .val (.int x2), .val (.int x3), .val (.int x4), .val (.int x5), .val (.int (5 : Int32)), .val (.ref b176), .unset, .unset, .unset, .unset, .unset, .unset, .unset, .unset] [(.int (4 : Int32)), (.ref b176)]))
   refine own_st (fun t => XS.iload (own_here Y195) hx rfl (hb hby at_64) rfl) ?_
   show own_Ends _ _ _ _ (T194.setTop (mkF m 66 #[.val (.int x0), .val (.int x1), .val (.int x2), .val (.int x3), .val (.int x4), .val (.int x5), .val (.int (5 : Int32)), .val (.ref b176), .unset, .unset, .unset, .unset, .unset, .unset, .unset, .unset] [(.int x5), (.int (4 : Int32)), (.ref b176)]))
   refine own_stI Y195 hx hZ A198 g178 (i := 4) (by decide) (by decide) (Nat.le_of_ble_eq_true rfl) rfl rfl (hb hby at_66) (fun T199 h201 Y200 W202 A203 => ?_)
   replace A203 : own_A Z h201 b176 .int [(.int x1), (.int x2), (.int x3), (.int x4), (.int x5)] := A203
   show own_Ends _ _ _ _ (T199.setTop (mkF m 67 #[.val (.int x0), .val (.int x1), .val (.int x2), .val (.int x3), .val (.int x4), .val (.int x5), .val (.int (5 : Int32)), .val (.ref b176), .unset, .unset, .unset, .unset, .unset, .unset, .unset, .unset] []))
   refine own_st (fun t => XS.iloadN (own_here Y200) hx rfl (hb hby at_67) rfl) ?_
   show own_Ends _ _ _ _ (T199.setTop (mkF m 68 #[.val (.int x0), .val (.int x1), .val (.int x2), .val (.int x3), .val (.int x4), .val (.int x5), .val (.int (5 : Int32)), .val (.ref b176), .unset, .unset, .unset, .unset, .unset, .unset, .unset, .unset] [(.int x1)]))
   refine own_st (fun t => XS.istore (own_here Y200) hx rfl (hb hby at_68) rfl (l' := #[.val (.int x0), .val (.int x1), .val (.int x2), .val (.int x3), .val (.int x4), .val (.int x5), .val (.int (5 : Int32)), .val (.ref b176), .val (.int x1), .unset, .unset, .unset, .unset, .unset, .unset, .unset]) rfl) ?_
   show own_Ends _ _ _ _ (T199.setTop (mkF m 70 #[.val (.int x0), .val (.int x1), .val (.int x2), .val (.int x3), .val (.int x4), .val (.int x5), .val (.int (5 : Int32)), .val (.ref b176), .val (.int x1), .unset, .unset, .unset, .unset, .unset, .unset, .unset] []))
   refine own_st (fun t => XS.iload (own_here Y200) hx rfl (hb hby at_70) rfl) ?_
   show own_Ends _ _ _ _ (T199.setTop (mkF m 72 #[.val (.int x0), .val (.int x1), .val (.int x2), .val (.int x3), .val (.int x4), .val (.int x5), .val (.int (5 : Int32)), .val (.ref b176), .val (.int x1), .unset, .unset, .unset, .unset, .unset, .unset, .unset] [(.int x1)]))
   refine own_st (fun t => XS.iloadN (own_here Y200) hx rfl (hb hby at_72) rfl) ?_
   show own_Ends _ _ _ _ (T199.setTop (mkF m 73 #[.val (.int x0), .val (.int x1), .val (.int x2), .val (.int x3), .val (.int x4), .val (.int x5), .val (.int (5 : Int32)), .val (.ref b176), .val (.int x1), .unset, .unset, .unset, .unset, .unset, .unset, .unset] [(.int x2), (.int x1)]))
   refine own_st (fun t => XS.iadd (own_here Y200) hx rfl (hb hby at_73) rfl) ?_
   show own_Ends _ _ _ _ (T199.setTop (mkF m 74 #[.val (.int x0), .val (.int x1), .val (.int x2), .val (.int x3), .val (.int x4), .val (.int x5), .val (.int (5 : Int32)), .val (.ref b176), .val (.int x1), .unset, .unset, .unset, .unset, .unset, .unset, .unset] [(.int (x1 + x2))]))
   refine own_st (fun t => XS.istore (own_here Y200) hx rfl (hb hby at_74) rfl (l' := #[.val (.int x0), .val (.int x1), .val (.int x2), .val (.int x3), .val (.int x4), .val (.int x5), .val (.int (5 : Int32)), .val (.ref b176), .val (.int x1), .val (.int (x1 + x2)), .unset, .unset, .unset, .unset, .unset, .unset]) rfl) ?_
   show own_Ends _ _ _ _ (T199.setTop (mkF m 76 #[.val (.int x0), .val (.int x1), .val (.int x2), .val (.int x3), .val (.int x4), .val (.int x5), .val (.int (5 : Int32)), .val (.ref b176), .val (.int x1), .val (.int (x1 + x2)), .unset, .unset, .unset, .unset, .unset, .unset] []))
   refine own_st (fun t => XS.iload (own_here Y200) hx rfl (hb hby at_76) rfl) ?_
   show own_Ends _ _ _ _ (T199.setTop (mkF m 78 #[.val (.int x0), .val (.int x1), .val (.int x2), .val (.int x3), .val (.int x4), .val (.int x5), .val (.int (5 : Int32)), .val (.ref b176), .val (.int x1), .val (.int (x1 + x2)), .unset, .unset, .unset, .unset, .unset, .unset] [(.int (x1 + x2))]))
   refine own_st (fun t => XS.iloadN (own_here Y200) hx rfl (hb hby at_78) rfl) ?_
   show own_Ends _ _ _ _ (T199.setTop (mkF m 79 #[.val (.int x0), .val (.int x1), .val (.int x2), .val (.int x3), .val (.int x4), .val (.int x5), .val (.int (5 : Int32)), .val (.ref b176), .val (.int x1), .val (.int (x1 + x2)), .unset, .unset, .unset, .unset, .unset, .unset] [(.int x3), (.int (x1 + x2))]))
   refine own_st (fun t => XS.iadd (own_here Y200) hx rfl (hb hby at_79) rfl) ?_
   show own_Ends _ _ _ _ (T199.setTop (mkF m 80 #[.val (.int x0), .val (.int x1), .val (.int x2), .val (.int x3), .val (.int x4), .val (.int x5), .val (.int (5 : Int32)), .val (.ref b176), .val (.int x1), .val (.int (x1 + x2)), .unset, .unset, .unset, .unset, .unset, .unset] [(.int ((x1 + x2) + x3))]))
   refine own_st (fun t => XS.istore (own_here Y200) hx rfl (hb hby at_80) rfl (l' := #[.val (.int x0), .val (.int x1), .val (.int x2), .val (.int x3), .val (.int x4), .val (.int x5), .val (.int (5 : Int32)), .val (.ref b176), .val (.int x1), .val (.int (x1 + x2)), .val (.int ((x1 + x2) + x3)), .unset, .unset, .unset, .unset, .unset]) rfl) ?_
   show own_Ends _ _ _ _ (T199.setTop (mkF m 82 #[.val (.int x0), .val (.int x1), .val (.int x2), .val (.int x3), .val (.int x4), .val (.int x5), .val (.int (5 : Int32)), .val (.ref b176), .val (.int x1), .val (.int (x1 + x2)), .val (.int ((x1 + x2) + x3)), .unset, .unset, .unset, .unset, .unset] []))
   refine own_st (fun t => XS.iload (own_here Y200) hx rfl (hb hby at_82) rfl) ?_
   show own_Ends _ _ _ _ (T199.setTop (mkF m 84 #[.val (.int x0), .val (.int x1), .val (.int x2), .val (.int x3), .val (.int x4), .val (.int x5), .val (.int (5 : Int32)), .val (.ref b176), .val (.int x1), .val (.int (x1 + x2)), .val (.int ((x1 + x2) + x3)), .unset, .unset, .unset, .unset, .unset] [(.int ((x1 + x2) + x3))]))
   refine own_st (fun t => XS.iload (own_here Y200) hx rfl (hb hby at_84) rfl) ?_
   show own_Ends _ _ _ _ (T199.setTop (mkF m 86 #[.val (.int x0), .val (.int x1), .val (.int x2), .val (.int x3), .val (.int x4), .val (.int x5), .val (.int (5 : Int32)), .val (.ref b176), .val (.int x1), .val (.int (x1 + x2)), .val (.int ((x1 + x2) + x3)), .unset, .unset, .unset, .unset, .unset] [(.int x4), (.int ((x1 + x2) + x3))]))
   refine own_st (fun t => XS.iadd (own_here Y200) hx rfl (hb hby at_86) rfl) ?_
   show own_Ends _ _ _ _ (T199.setTop (mkF m 87 #[.val (.int x0), .val (.int x1), .val (.int x2), .val (.int x3), .val (.int x4), .val (.int x5), .val (.int (5 : Int32)), .val (.ref b176), .val (.int x1), .val (.int (x1 + x2)), .val (.int ((x1 + x2) + x3)), .unset, .unset, .unset, .unset, .unset] [(.int (((x1 + x2) + x3) + x4))]))
   refine own_st (fun t => XS.istore (own_here Y200) hx rfl (hb hby at_87) rfl (l' := #[.val (.int x0), .val (.int x1), .val (.int x2), .val (.int x3), .val (.int x4), .val (.int x5), .val (.int (5 : Int32)), .val (.ref b176), .val (.int x1), .val (.int (x1 + x2)), .val (.int ((x1 + x2) + x3)), .val (.int (((x1 + x2) + x3) + x4)), .unset, .unset, .unset, .unset]) rfl) ?_
   show own_Ends _ _ _ _ (T199.setTop (mkF m 89 #[.val (.int x0), .val (.int x1), .val (.int x2), .val (.int x3), .val (.int x4), .val (.int x5), .val (.int (5 : Int32)), .val (.ref b176), .val (.int x1), .val (.int (x1 + x2)), .val (.int ((x1 + x2) + x3)), .val (.int (((x1 + x2) + x3) + x4)), .unset, .unset, .unset, .unset] []))
   refine own_st (fun t => XS.iload (own_here Y200) hx rfl (hb hby at_89) rfl) ?_
   show own_Ends _ _ _ _ (T199.setTop (mkF m 91 #[.val (.int x0), .val (.int x1), .val (.int x2), .val (.int x3), .val (.int x4), .val (.int x5), .val (.int (5 : Int32)), .val (.ref b176), .val (.int x1), .val (.int (x1 + x2)), .val (.int ((x1 + x2) + x3)), .val (.int (((x1 + x2) + x3) + x4)), .unset, .unset, .unset, .unset] [(.int (((x1 + x2) + x3) + x4))]))
   refine own_st (fun t => XS.iload (own_here Y200) hx rfl (hb hby at_91) rfl) ?_
   show own_Ends _ _ _ _ (T199.setTop (mkF m 93 #[.val (.int x0), .val (.int x1), .val (.int x2), .val (.int x3), .val (.int x4), .val (.int x5), .val (.int (5 : Int32)), .val (.ref b176), .val (.int x1), .val (.int (x1 + x2)), .val (.int ((x1 + x2) + x3)), .val (.int (((x1 + x2) + x3) + x4)), .unset, .unset, .unset, .unset] [(.int x5), (.int (((x1 + x2) + x3) + x4))]))
   refine own_st (fun t => XS.iadd (own_here Y200) hx rfl (hb hby at_93) rfl) ?_
   show own_Ends _ _ _ _ (T199.setTop (mkF m 94 #[.val (.int x0), .val (.int x1), .val (.int x2), .val (.int x3), .val (.int x4), .val (.int x5), .val (.int (5 : Int32)), .val (.ref b176), .val (.int x1), .val (.int (x1 + x2)), .val (.int ((x1 + x2) + x3)), .val (.int (((x1 + x2) + x3) + x4)), .unset, .unset, .unset, .unset] [(.int ((((x1 + x2) + x3) + x4) + x5))]))
   refine own_st (fun t => XS.istore (own_here Y200) hx rfl (hb hby at_94) rfl (l' := #[.val (.int x0), .val (.int x1), .val (.int x2), .val (.int x3), .val (.int x4), .val (.int x5), .val (.int (5 : Int32)), .val (.ref b176), .val (.int x1), .val (.int (x1 + x2)), .val (.int ((x1 + x2) + x3)), .val (.int (((x1 + x2) + x3) + x4)), .val (.int ((((x1 + x2) + x3) + x4) + x5)), .unset, .unset, .unset]) rfl) ?_
   show own_Ends _ _ _ _ (T199.setTop (mkF m 96 #[.val (.int x0), .val (.int x1), .val (.int x2), .val (.int x3), .val (.int x4), .val (.int x5), .val (.int (5 : Int32)), .val (.ref b176), .val (.int x1), .val (.int (x1 + x2)), .val (.int ((x1 + x2) + x3)), .val (.int (((x1 + x2) + x3) + x4)), .val (.int ((((x1 + x2) + x3) + x4) + x5)), .unset, .unset, .unset] []))
   refine own_st (fun t => XS.aload (own_here Y200) hx rfl (hb hby at_96) rfl rfl) ?_
   show own_Ends _ _ _ _ (T199.setTop (mkF m 98 #[.val (.int x0), .val (.int x1), .val (.int x2), .val (.int x3), .val (.int x4), .val (.int x5), .val (.int (5 : Int32)), .val (.ref b176), .val (.int x1), .val (.int (x1 + x2)), .val (.int ((x1 + x2) + x3)), .val (.int (((x1 + x2) + x3) + x4)), .val (.int ((((x1 + x2) + x3) + x4) + x5)), .unset, .unset, .unset] [(.ref b176)]))
   refine own_callS Y200 hx hZ (y := (⟨"com/example/tierpath/tierpath/Hierarchy", "prefixSums", "([I)I"⟩ : MethodName)) hown (hw _ (List.mem_of_getElem? (i := 2) rfl)) (hw _ (List.mem_of_getElem? (i := 3) rfl)) (hw _ (List.mem_of_getElem? (i := 4) rfl)) (hw _ (List.mem_of_getElem? (i := 5) rfl)) (by decide) (argsL := [(.ref b176)]) (rest := []) (own_rm1_5 l Z a0 hw [] b176 x1 x2 x3 x4 x5 h201 n0  A203 g178) (W := 0) (by decide) (by decide) (by decide) (by decide) rfl (by rw [hml]; rfl) (lenOf own_pd0 rfl) rfl (by show 2 * 0 + _ ≤ _; exact Nat.le_of_eq rfl) (hb hby at_98) (fun T204 h206 v207 Y205 q208 => ?_)
   obtain ⟨rfl, K209, F210⟩ := q208
   show own_Ends _ _ _ _ (T204.setTop (mkF m 101 #[.val (.int x0), .val (.int x1), .val (.int x2), .val (.int x3), .val (.int x4), .val (.int x5), .val (.int (5 : Int32)), .val (.ref b176), .val (.int x1), .val (.int (x1 + x2)), .val (.int ((x1 + x2) + x3)), .val (.int (((x1 + x2) + x3) + x4)), .val (.int ((((x1 + x2) + x3) + x4) + x5)), .unset, .unset, .unset] [(.int (x5 + (x4 + (x3 + (x2 + x1)))))]))
   refine own_st (fun t => XS.istore (own_here Y205) hx rfl (hb hby at_101) rfl (l' := #[.val (.int x0), .val (.int x1), .val (.int x2), .val (.int x3), .val (.int x4), .val (.int x5), .val (.int (5 : Int32)), .val (.ref b176), .val (.int x1), .val (.int (x1 + x2)), .val (.int ((x1 + x2) + x3)), .val (.int (((x1 + x2) + x3) + x4)), .val (.int ((((x1 + x2) + x3) + x4) + x5)), .val (.int (x5 + (x4 + (x3 + (x2 + x1))))), .unset, .unset]) rfl) ?_
   show own_Ends _ _ _ _ (T204.setTop (mkF m 103 #[.val (.int x0), .val (.int x1), .val (.int x2), .val (.int x3), .val (.int x4), .val (.int x5), .val (.int (5 : Int32)), .val (.ref b176), .val (.int x1), .val (.int (x1 + x2)), .val (.int ((x1 + x2) + x3)), .val (.int (((x1 + x2) + x3) + x4)), .val (.int ((((x1 + x2) + x3) + x4) + x5)), .val (.int (x5 + (x4 + (x3 + (x2 + x1))))), .unset, .unset] []))
   refine own_st (fun t => XS.aload (own_here Y205) hx rfl (hb hby at_103) rfl rfl) ?_
   show own_Ends _ _ _ _ (T204.setTop (mkF m 105 #[.val (.int x0), .val (.int x1), .val (.int x2), .val (.int x3), .val (.int x4), .val (.int x5), .val (.int (5 : Int32)), .val (.ref b176), .val (.int x1), .val (.int (x1 + x2)), .val (.int ((x1 + x2) + x3)), .val (.int (((x1 + x2) + x3) + x4)), .val (.int ((((x1 + x2) + x3) + x4) + x5)), .val (.int (x5 + (x4 + (x3 + (x2 + x1))))), .unset, .unset] [(.ref b176)]))
   refine own_len Y205 hx hZ F210 (z := (5 : Int32)) rfl rfl rfl (hb hby at_105) ?_
   show own_Ends _ _ _ _ (T204.setTop (mkF m 106 #[.val (.int x0), .val (.int x1), .val (.int x2), .val (.int x3), .val (.int x4), .val (.int x5), .val (.int (5 : Int32)), .val (.ref b176), .val (.int x1), .val (.int (x1 + x2)), .val (.int ((x1 + x2) + x3)), .val (.int (((x1 + x2) + x3) + x4)), .val (.int ((((x1 + x2) + x3) + x4) + x5)), .val (.int (x5 + (x4 + (x3 + (x2 + x1))))), .unset, .unset] [(.int (5 : Int32))]))
   refine own_st (fun t => XS.iload (own_here Y205) hx rfl (hb hby at_106) rfl) ?_
   show own_Ends _ _ _ _ (T204.setTop (mkF m 108 #[.val (.int x0), .val (.int x1), .val (.int x2), .val (.int x3), .val (.int x4), .val (.int x5), .val (.int (5 : Int32)), .val (.ref b176), .val (.int x1), .val (.int (x1 + x2)), .val (.int ((x1 + x2) + x3)), .val (.int (((x1 + x2) + x3) + x4)), .val (.int ((((x1 + x2) + x3) + x4) + x5)), .val (.int (x5 + (x4 + (x3 + (x2 + x1))))), .unset, .unset] [(.int (5 : Int32)), (.int (5 : Int32))]))
   refine own_st (fun t => XS.icmpNo (own_here Y205) hx rfl (hb hby at_108) rfl (XT.ii_ne_f (by decide))) ?_
   show own_Ends _ _ _ _ (T204.setTop (mkF m 111 #[.val (.int x0), .val (.int x1), .val (.int x2), .val (.int x3), .val (.int x4), .val (.int x5), .val (.int (5 : Int32)), .val (.ref b176), .val (.int x1), .val (.int (x1 + x2)), .val (.int ((x1 + x2) + x3)), .val (.int (((x1 + x2) + x3) + x4)), .val (.int ((((x1 + x2) + x3) + x4) + x5)), .val (.int (x5 + (x4 + (x3 + (x2 + x1))))), .unset, .unset] []))
   refine own_st (fun t => XS.aload (own_here Y205) hx rfl (hb hby at_111) rfl rfl) ?_
   show own_Ends _ _ _ _ (T204.setTop (mkF m 113 #[.val (.int x0), .val (.int x1), .val (.int x2), .val (.int x3), .val (.int x4), .val (.int x5), .val (.int (5 : Int32)), .val (.ref b176), .val (.int x1), .val (.int (x1 + x2)), .val (.int ((x1 + x2) + x3)), .val (.int (((x1 + x2) + x3) + x4)), .val (.int ((((x1 + x2) + x3) + x4) + x5)), .val (.int (x5 + (x4 + (x3 + (x2 + x1))))), .unset, .unset] [(.ref b176)]))
   refine own_st (fun t => XS.iconst (own_here Y205) hx rfl (hb hby at_113) ) ?_
   show own_Ends _ _ _ _ (T204.setTop (mkF m 114 #[.val (.int x0), .val (.int x1), .val (.int x2), .val (.int x3), .val (.int x4), .val (.int x5), .val (.int (5 : Int32)), .val (.ref b176), .val (.int x1), .val (.int (x1 + x2)), .val (.int ((x1 + x2) + x3)), .val (.int (((x1 + x2) + x3) + x4)), .val (.int ((((x1 + x2) + x3) + x4) + x5)), .val (.int (x5 + (x4 + (x3 + (x2 + x1))))), .unset, .unset] [(.int (0 : Int32)), (.ref b176)]))
   refine own_ldI Y205 hx hZ F210 (i := 0) (by decide) (by decide) (Nat.le_of_ble_eq_true rfl) (v := (.int x1)) rfl rfl rfl (hb hby at_114) ?_
   show own_Ends _ _ _ _ (T204.setTop (mkF m 115 #[.val (.int x0), .val (.int x1), .val (.int x2), .val (.int x3), .val (.int x4), .val (.int x5), .val (.int (5 : Int32)), .val (.ref b176), .val (.int x1), .val (.int (x1 + x2)), .val (.int ((x1 + x2) + x3)), .val (.int (((x1 + x2) + x3) + x4)), .val (.int ((((x1 + x2) + x3) + x4) + x5)), .val (.int (x5 + (x4 + (x3 + (x2 + x1))))), .unset, .unset] [(.int x1)]))
   refine own_st (fun t => XS.iload (own_here Y205) hx rfl (hb hby at_115) rfl) ?_
   show own_Ends _ _ _ _ (T204.setTop (mkF m 117 #[.val (.int x0), .val (.int x1), .val (.int x2), .val (.int x3), .val (.int x4), .val (.int x5), .val (.int (5 : Int32)), .val (.ref b176), .val (.int x1), .val (.int (x1 + x2)), .val (.int ((x1 + x2) + x3)), .val (.int (((x1 + x2) + x3) + x4)), .val (.int ((((x1 + x2) + x3) + x4) + x5)), .val (.int (x5 + (x4 + (x3 + (x2 + x1))))), .unset, .unset] [(.int x1), (.int x1)]))
   refine own_st (fun t => XS.icmpNo (own_here Y205) hx rfl (hb hby at_117) rfl (XT.ii_ne_f (by first | rfl | ac_rfl | simp only [Int32.add_comm, Int32.add_left_comm, Int32.add_assoc]))) ?_
   show own_Ends _ _ _ _ (T204.setTop (mkF m 120 #[.val (.int x0), .val (.int x1), .val (.int x2), .val (.int x3), .val (.int x4), .val (.int x5), .val (.int (5 : Int32)), .val (.ref b176), .val (.int x1), .val (.int (x1 + x2)), .val (.int ((x1 + x2) + x3)), .val (.int (((x1 + x2) + x3) + x4)), .val (.int ((((x1 + x2) + x3) + x4) + x5)), .val (.int (x5 + (x4 + (x3 + (x2 + x1))))), .unset, .unset] []))
   refine own_st (fun t => XS.iconst (own_here Y205) hx rfl (hb hby at_120) ) ?_
   show own_Ends _ _ _ _ (T204.setTop (mkF m 121 #[.val (.int x0), .val (.int x1), .val (.int x2), .val (.int x3), .val (.int x4), .val (.int x5), .val (.int (5 : Int32)), .val (.ref b176), .val (.int x1), .val (.int (x1 + x2)), .val (.int ((x1 + x2) + x3)), .val (.int (((x1 + x2) + x3) + x4)), .val (.int ((((x1 + x2) + x3) + x4) + x5)), .val (.int (x5 + (x4 + (x3 + (x2 + x1))))), .unset, .unset] [(.int (1 : Int32))]))
   refine own_st (fun t => XS.goto (own_here Y205) hx rfl (pc0 := 121) (pc' := 125) rfl (hb hby at_121) (by decide) (by decide)) ?_
   show own_Ends _ _ _ _ (T204.setTop (mkF m 125 #[.val (.int x0), .val (.int x1), .val (.int x2), .val (.int x3), .val (.int x4), .val (.int x5), .val (.int (5 : Int32)), .val (.ref b176), .val (.int x1), .val (.int (x1 + x2)), .val (.int ((x1 + x2) + x3)), .val (.int (((x1 + x2) + x3) + x4)), .val (.int ((((x1 + x2) + x3) + x4) + x5)), .val (.int (x5 + (x4 + (x3 + (x2 + x1))))), .unset, .unset] [(.int (1 : Int32))]))
   refine own_st (fun t => XS.istore (own_here Y205) hx rfl (hb hby at_125) rfl (l' := #[.val (.int x0), .val (.int x1), .val (.int x2), .val (.int x3), .val (.int x4), .val (.int x5), .val (.int (5 : Int32)), .val (.ref b176), .val (.int x1), .val (.int (x1 + x2)), .val (.int ((x1 + x2) + x3)), .val (.int (((x1 + x2) + x3) + x4)), .val (.int ((((x1 + x2) + x3) + x4) + x5)), .val (.int (x5 + (x4 + (x3 + (x2 + x1))))), .val (.int (1 : Int32)), .unset]) rfl) ?_
   show own_Ends _ _ _ _ (T204.setTop (mkF m 127 #[.val (.int x0), .val (.int x1), .val (.int x2), .val (.int x3), .val (.int x4), .val (.int x5), .val (.int (5 : Int32)), .val (.ref b176), .val (.int x1), .val (.int (x1 + x2)), .val (.int ((x1 + x2) + x3)), .val (.int (((x1 + x2) + x3) + x4)), .val (.int ((((x1 + x2) + x3) + x4) + x5)), .val (.int (x5 + (x4 + (x3 + (x2 + x1))))), .val (.int (1 : Int32)), .unset] []))
   refine own_st (fun t => XS.iload (own_here Y205) hx rfl (hb hby at_127) rfl) ?_
   show own_Ends _ _ _ _ (T204.setTop (mkF m 129 #[.val (.int x0), .val (.int x1), .val (.int x2), .val (.int x3), .val (.int x4), .val (.int x5), .val (.int (5 : Int32)), .val (.ref b176), .val (.int x1), .val (.int (x1 + x2)), .val (.int ((x1 + x2) + x3)), .val (.int (((x1 + x2) + x3) + x4)), .val (.int ((((x1 + x2) + x3) + x4) + x5)), .val (.int (x5 + (x4 + (x3 + (x2 + x1))))), .val (.int (1 : Int32)), .unset] [(.int (5 : Int32))]))
   refine own_st (fun t => XS.iconst (own_here Y205) hx rfl (hb hby at_129) ) ?_
   show own_Ends _ _ _ _ (T204.setTop (mkF m 130 #[.val (.int x0), .val (.int x1), .val (.int x2), .val (.int x3), .val (.int x4), .val (.int x5), .val (.int (5 : Int32)), .val (.ref b176), .val (.int x1), .val (.int (x1 + x2)), .val (.int ((x1 + x2) + x3)), .val (.int (((x1 + x2) + x3) + x4)), .val (.int ((((x1 + x2) + x3) + x4) + x5)), .val (.int (x5 + (x4 + (x3 + (x2 + x1))))), .val (.int (1 : Int32)), .unset] [(.int (1 : Int32)), (.int (5 : Int32))]))
   refine own_st (fun t => XS.icmpNo (own_here Y205) hx rfl (hb hby at_130) rfl (XT.ii_le_f (by decide))) ?_
   show own_Ends _ _ _ _ (T204.setTop (mkF m 133 #[.val (.int x0), .val (.int x1), .val (.int x2), .val (.int x3), .val (.int x4), .val (.int x5), .val (.int (5 : Int32)), .val (.ref b176), .val (.int x1), .val (.int (x1 + x2)), .val (.int ((x1 + x2) + x3)), .val (.int (((x1 + x2) + x3) + x4)), .val (.int ((((x1 + x2) + x3) + x4) + x5)), .val (.int (x5 + (x4 + (x3 + (x2 + x1))))), .val (.int (1 : Int32)), .unset] []))
   refine own_st (fun t => XS.iload (own_here Y205) hx rfl (hb hby at_133) rfl) ?_
   show own_Ends _ _ _ _ (T204.setTop (mkF m 135 #[.val (.int x0), .val (.int x1), .val (.int x2), .val (.int x3), .val (.int x4), .val (.int x5), .val (.int (5 : Int32)), .val (.ref b176), .val (.int x1), .val (.int (x1 + x2)), .val (.int ((x1 + x2) + x3)), .val (.int (((x1 + x2) + x3) + x4)), .val (.int ((((x1 + x2) + x3) + x4) + x5)), .val (.int (x5 + (x4 + (x3 + (x2 + x1))))), .val (.int (1 : Int32)), .unset] [(.int (1 : Int32))]))
   refine own_st (fun t => XS.ifNo (own_here Y205) hx rfl (hb hby at_135) rfl (XT.i0_eq_f (by decide))) ?_
   show own_Ends _ _ _ _ (T204.setTop (mkF m 138 #[.val (.int x0), .val (.int x1), .val (.int x2), .val (.int x3), .val (.int x4), .val (.int x5), .val (.int (5 : Int32)), .val (.ref b176), .val (.int x1), .val (.int (x1 + x2)), .val (.int ((x1 + x2) + x3)), .val (.int (((x1 + x2) + x3) + x4)), .val (.int ((((x1 + x2) + x3) + x4) + x5)), .val (.int (x5 + (x4 + (x3 + (x2 + x1))))), .val (.int (1 : Int32)), .unset] []))
   refine own_st (fun t => XS.aload (own_here Y205) hx rfl (hb hby at_138) rfl rfl) ?_
   show own_Ends _ _ _ _ (T204.setTop (mkF m 140 #[.val (.int x0), .val (.int x1), .val (.int x2), .val (.int x3), .val (.int x4), .val (.int x5), .val (.int (5 : Int32)), .val (.ref b176), .val (.int x1), .val (.int (x1 + x2)), .val (.int ((x1 + x2) + x3)), .val (.int (((x1 + x2) + x3) + x4)), .val (.int ((((x1 + x2) + x3) + x4) + x5)), .val (.int (x5 + (x4 + (x3 + (x2 + x1))))), .val (.int (1 : Int32)), .unset] [(.ref b176)]))
   refine own_st (fun t => XS.iconst (own_here Y205) hx rfl (hb hby at_140) ) ?_
   show own_Ends _ _ _ _ (T204.setTop (mkF m 141 #[.val (.int x0), .val (.int x1), .val (.int x2), .val (.int x3), .val (.int x4), .val (.int x5), .val (.int (5 : Int32)), .val (.ref b176), .val (.int x1), .val (.int (x1 + x2)), .val (.int ((x1 + x2) + x3)), .val (.int (((x1 + x2) + x3) + x4)), .val (.int ((((x1 + x2) + x3) + x4) + x5)), .val (.int (x5 + (x4 + (x3 + (x2 + x1))))), .val (.int (1 : Int32)), .unset] [(.int (1 : Int32)), (.ref b176)]))
   refine own_ldI Y205 hx hZ F210 (i := 1) (by decide) (by decide) (Nat.le_of_ble_eq_true rfl) (v := (.int (x2 + x1))) rfl rfl rfl (hb hby at_141) ?_
   show own_Ends _ _ _ _ (T204.setTop (mkF m 142 #[.val (.int x0), .val (.int x1), .val (.int x2), .val (.int x3), .val (.int x4), .val (.int x5), .val (.int (5 : Int32)), .val (.ref b176), .val (.int x1), .val (.int (x1 + x2)), .val (.int ((x1 + x2) + x3)), .val (.int (((x1 + x2) + x3) + x4)), .val (.int ((((x1 + x2) + x3) + x4) + x5)), .val (.int (x5 + (x4 + (x3 + (x2 + x1))))), .val (.int (1 : Int32)), .unset] [(.int (x2 + x1))]))
   refine own_st (fun t => XS.iload (own_here Y205) hx rfl (hb hby at_142) rfl) ?_
   show own_Ends _ _ _ _ (T204.setTop (mkF m 144 #[.val (.int x0), .val (.int x1), .val (.int x2), .val (.int x3), .val (.int x4), .val (.int x5), .val (.int (5 : Int32)), .val (.ref b176), .val (.int x1), .val (.int (x1 + x2)), .val (.int ((x1 + x2) + x3)), .val (.int (((x1 + x2) + x3) + x4)), .val (.int ((((x1 + x2) + x3) + x4) + x5)), .val (.int (x5 + (x4 + (x3 + (x2 + x1))))), .val (.int (1 : Int32)), .unset] [(.int (x1 + x2)), (.int (x2 + x1))]))
   refine own_st (fun t => XS.icmpNo (own_here Y205) hx rfl (hb hby at_144) rfl (XT.ii_ne_f (by first | rfl | ac_rfl | simp only [Int32.add_comm, Int32.add_left_comm, Int32.add_assoc]))) ?_
   show own_Ends _ _ _ _ (T204.setTop (mkF m 147 #[.val (.int x0), .val (.int x1), .val (.int x2), .val (.int x3), .val (.int x4), .val (.int x5), .val (.int (5 : Int32)), .val (.ref b176), .val (.int x1), .val (.int (x1 + x2)), .val (.int ((x1 + x2) + x3)), .val (.int (((x1 + x2) + x3) + x4)), .val (.int ((((x1 + x2) + x3) + x4) + x5)), .val (.int (x5 + (x4 + (x3 + (x2 + x1))))), .val (.int (1 : Int32)), .unset] []))
   refine own_st (fun t => XS.iconst (own_here Y205) hx rfl (hb hby at_147) ) ?_
   show own_Ends _ _ _ _ (T204.setTop (mkF m 148 #[.val (.int x0), .val (.int x1), .val (.int x2), .val (.int x3), .val (.int x4), .val (.int x5), .val (.int (5 : Int32)), .val (.ref b176), .val (.int x1), .val (.int (x1 + x2)), .val (.int ((x1 + x2) + x3)), .val (.int (((x1 + x2) + x3) + x4)), .val (.int ((((x1 + x2) + x3) + x4) + x5)), .val (.int (x5 + (x4 + (x3 + (x2 + x1))))), .val (.int (1 : Int32)), .unset] [(.int (1 : Int32))]))
   refine own_st (fun t => XS.goto (own_here Y205) hx rfl (pc0 := 148) (pc' := 152) rfl (hb hby at_148) (by decide) (by decide)) ?_
   show own_Ends _ _ _ _ (T204.setTop (mkF m 152 #[.val (.int x0), .val (.int x1), .val (.int x2), .val (.int x3), .val (.int x4), .val (.int x5), .val (.int (5 : Int32)), .val (.ref b176), .val (.int x1), .val (.int (x1 + x2)), .val (.int ((x1 + x2) + x3)), .val (.int (((x1 + x2) + x3) + x4)), .val (.int ((((x1 + x2) + x3) + x4) + x5)), .val (.int (x5 + (x4 + (x3 + (x2 + x1))))), .val (.int (1 : Int32)), .unset] [(.int (1 : Int32))]))
   refine own_st (fun t => XS.istore (own_here Y205) hx rfl (hb hby at_152) rfl (l' := #[.val (.int x0), .val (.int x1), .val (.int x2), .val (.int x3), .val (.int x4), .val (.int x5), .val (.int (5 : Int32)), .val (.ref b176), .val (.int x1), .val (.int (x1 + x2)), .val (.int ((x1 + x2) + x3)), .val (.int (((x1 + x2) + x3) + x4)), .val (.int ((((x1 + x2) + x3) + x4) + x5)), .val (.int (x5 + (x4 + (x3 + (x2 + x1))))), .val (.int (1 : Int32)), .unset]) rfl) ?_
   show own_Ends _ _ _ _ (T204.setTop (mkF m 154 #[.val (.int x0), .val (.int x1), .val (.int x2), .val (.int x3), .val (.int x4), .val (.int x5), .val (.int (5 : Int32)), .val (.ref b176), .val (.int x1), .val (.int (x1 + x2)), .val (.int ((x1 + x2) + x3)), .val (.int (((x1 + x2) + x3) + x4)), .val (.int ((((x1 + x2) + x3) + x4) + x5)), .val (.int (x5 + (x4 + (x3 + (x2 + x1))))), .val (.int (1 : Int32)), .unset] []))
   refine own_st (fun t => XS.iload (own_here Y205) hx rfl (hb hby at_154) rfl) ?_
   show own_Ends _ _ _ _ (T204.setTop (mkF m 156 #[.val (.int x0), .val (.int x1), .val (.int x2), .val (.int x3), .val (.int x4), .val (.int x5), .val (.int (5 : Int32)), .val (.ref b176), .val (.int x1), .val (.int (x1 + x2)), .val (.int ((x1 + x2) + x3)), .val (.int (((x1 + x2) + x3) + x4)), .val (.int ((((x1 + x2) + x3) + x4) + x5)), .val (.int (x5 + (x4 + (x3 + (x2 + x1))))), .val (.int (1 : Int32)), .unset] [(.int (5 : Int32))]))
   refine own_st (fun t => XS.iconst (own_here Y205) hx rfl (hb hby at_156) ) ?_
   show own_Ends _ _ _ _ (T204.setTop (mkF m 157 #[.val (.int x0), .val (.int x1), .val (.int x2), .val (.int x3), .val (.int x4), .val (.int x5), .val (.int (5 : Int32)), .val (.ref b176), .val (.int x1), .val (.int (x1 + x2)), .val (.int ((x1 + x2) + x3)), .val (.int (((x1 + x2) + x3) + x4)), .val (.int ((((x1 + x2) + x3) + x4) + x5)), .val (.int (x5 + (x4 + (x3 + (x2 + x1))))), .val (.int (1 : Int32)), .unset] [(.int (2 : Int32)), (.int (5 : Int32))]))
   refine own_st (fun t => XS.icmpNo (own_here Y205) hx rfl (hb hby at_157) rfl (XT.ii_le_f (by decide))) ?_
   show own_Ends _ _ _ _ (T204.setTop (mkF m 160 #[.val (.int x0), .val (.int x1), .val (.int x2), .val (.int x3), .val (.int x4), .val (.int x5), .val (.int (5 : Int32)), .val (.ref b176), .val (.int x1), .val (.int (x1 + x2)), .val (.int ((x1 + x2) + x3)), .val (.int (((x1 + x2) + x3) + x4)), .val (.int ((((x1 + x2) + x3) + x4) + x5)), .val (.int (x5 + (x4 + (x3 + (x2 + x1))))), .val (.int (1 : Int32)), .unset] []))
   refine own_st (fun t => XS.iload (own_here Y205) hx rfl (hb hby at_160) rfl) ?_
   show own_Ends _ _ _ _ (T204.setTop (mkF m 162 #[.val (.int x0), .val (.int x1), .val (.int x2), .val (.int x3), .val (.int x4), .val (.int x5), .val (.int (5 : Int32)), .val (.ref b176), .val (.int x1), .val (.int (x1 + x2)), .val (.int ((x1 + x2) + x3)), .val (.int (((x1 + x2) + x3) + x4)), .val (.int ((((x1 + x2) + x3) + x4) + x5)), .val (.int (x5 + (x4 + (x3 + (x2 + x1))))), .val (.int (1 : Int32)), .unset] [(.int (1 : Int32))]))
   refine own_st (fun t => XS.ifNo (own_here Y205) hx rfl (hb hby at_162) rfl (XT.i0_eq_f (by decide))) ?_
   show own_Ends _ _ _ _ (T204.setTop (mkF m 165 #[.val (.int x0), .val (.int x1), .val (.int x2), .val (.int x3), .val (.int x4), .val (.int x5), .val (.int (5 : Int32)), .val (.ref b176), .val (.int x1), .val (.int (x1 + x2)), .val (.int ((x1 + x2) + x3)), .val (.int (((x1 + x2) + x3) + x4)), .val (.int ((((x1 + x2) + x3) + x4) + x5)), .val (.int (x5 + (x4 + (x3 + (x2 + x1))))), .val (.int (1 : Int32)), .unset] []))
   refine own_st (fun t => XS.aload (own_here Y205) hx rfl (hb hby at_165) rfl rfl) ?_
   show own_Ends _ _ _ _ (T204.setTop (mkF m 167 #[.val (.int x0), .val (.int x1), .val (.int x2), .val (.int x3), .val (.int x4), .val (.int x5), .val (.int (5 : Int32)), .val (.ref b176), .val (.int x1), .val (.int (x1 + x2)), .val (.int ((x1 + x2) + x3)), .val (.int (((x1 + x2) + x3) + x4)), .val (.int ((((x1 + x2) + x3) + x4) + x5)), .val (.int (x5 + (x4 + (x3 + (x2 + x1))))), .val (.int (1 : Int32)), .unset] [(.ref b176)]))
   refine own_st (fun t => XS.iconst (own_here Y205) hx rfl (hb hby at_167) ) ?_
   show own_Ends _ _ _ _ (T204.setTop (mkF m 168 #[.val (.int x0), .val (.int x1), .val (.int x2), .val (.int x3), .val (.int x4), .val (.int x5), .val (.int (5 : Int32)), .val (.ref b176), .val (.int x1), .val (.int (x1 + x2)), .val (.int ((x1 + x2) + x3)), .val (.int (((x1 + x2) + x3) + x4)), .val (.int ((((x1 + x2) + x3) + x4) + x5)), .val (.int (x5 + (x4 + (x3 + (x2 + x1))))), .val (.int (1 : Int32)), .unset] [(.int (2 : Int32)), (.ref b176)]))
   refine own_ldI Y205 hx hZ F210 (i := 2) (by decide) (by decide) (Nat.le_of_ble_eq_true rfl) (v := (.int (x3 + (x2 + x1)))) rfl rfl rfl (hb hby at_168) ?_
   show own_Ends _ _ _ _ (T204.setTop (mkF m 169 #[.val (.int x0), .val (.int x1), .val (.int x2), .val (.int x3), .val (.int x4), .val (.int x5), .val (.int (5 : Int32)), .val (.ref b176), .val (.int x1), .val (.int (x1 + x2)), .val (.int ((x1 + x2) + x3)), .val (.int (((x1 + x2) + x3) + x4)), .val (.int ((((x1 + x2) + x3) + x4) + x5)), .val (.int (x5 + (x4 + (x3 + (x2 + x1))))), .val (.int (1 : Int32)), .unset] [(.int (x3 + (x2 + x1)))]))
   refine own_st (fun t => XS.iload (own_here Y205) hx rfl (hb hby at_169) rfl) ?_
   show own_Ends _ _ _ _ (T204.setTop (mkF m 171 #[.val (.int x0), .val (.int x1), .val (.int x2), .val (.int x3), .val (.int x4), .val (.int x5), .val (.int (5 : Int32)), .val (.ref b176), .val (.int x1), .val (.int (x1 + x2)), .val (.int ((x1 + x2) + x3)), .val (.int (((x1 + x2) + x3) + x4)), .val (.int ((((x1 + x2) + x3) + x4) + x5)), .val (.int (x5 + (x4 + (x3 + (x2 + x1))))), .val (.int (1 : Int32)), .unset] [(.int ((x1 + x2) + x3)), (.int (x3 + (x2 + x1)))]))
   refine own_st (fun t => XS.icmpNo (own_here Y205) hx rfl (hb hby at_171) rfl (XT.ii_ne_f (by first | rfl | ac_rfl | simp only [Int32.add_comm, Int32.add_left_comm, Int32.add_assoc]))) ?_
   show own_Ends _ _ _ _ (T204.setTop (mkF m 174 #[.val (.int x0), .val (.int x1), .val (.int x2), .val (.int x3), .val (.int x4), .val (.int x5), .val (.int (5 : Int32)), .val (.ref b176), .val (.int x1), .val (.int (x1 + x2)), .val (.int ((x1 + x2) + x3)), .val (.int (((x1 + x2) + x3) + x4)), .val (.int ((((x1 + x2) + x3) + x4) + x5)), .val (.int (x5 + (x4 + (x3 + (x2 + x1))))), .val (.int (1 : Int32)), .unset] []))
   refine own_st (fun t => XS.iconst (own_here Y205) hx rfl (hb hby at_174) ) ?_
   show own_Ends _ _ _ _ (T204.setTop (mkF m 175 #[.val (.int x0), .val (.int x1), .val (.int x2), .val (.int x3), .val (.int x4), .val (.int x5), .val (.int (5 : Int32)), .val (.ref b176), .val (.int x1), .val (.int (x1 + x2)), .val (.int ((x1 + x2) + x3)), .val (.int (((x1 + x2) + x3) + x4)), .val (.int ((((x1 + x2) + x3) + x4) + x5)), .val (.int (x5 + (x4 + (x3 + (x2 + x1))))), .val (.int (1 : Int32)), .unset] [(.int (1 : Int32))]))
   refine own_st (fun t => XS.goto (own_here Y205) hx rfl (pc0 := 175) (pc' := 179) rfl (hb hby at_175) (by decide) (by decide)) ?_
   show own_Ends _ _ _ _ (T204.setTop (mkF m 179 #[.val (.int x0), .val (.int x1), .val (.int x2), .val (.int x3), .val (.int x4), .val (.int x5), .val (.int (5 : Int32)), .val (.ref b176), .val (.int x1), .val (.int (x1 + x2)), .val (.int ((x1 + x2) + x3)), .val (.int (((x1 + x2) + x3) + x4)), .val (.int ((((x1 + x2) + x3) + x4) + x5)), .val (.int (x5 + (x4 + (x3 + (x2 + x1))))), .val (.int (1 : Int32)), .unset] [(.int (1 : Int32))]))
   refine own_st (fun t => XS.istore (own_here Y205) hx rfl (hb hby at_179) rfl (l' := #[.val (.int x0), .val (.int x1), .val (.int x2), .val (.int x3), .val (.int x4), .val (.int x5), .val (.int (5 : Int32)), .val (.ref b176), .val (.int x1), .val (.int (x1 + x2)), .val (.int ((x1 + x2) + x3)), .val (.int (((x1 + x2) + x3) + x4)), .val (.int ((((x1 + x2) + x3) + x4) + x5)), .val (.int (x5 + (x4 + (x3 + (x2 + x1))))), .val (.int (1 : Int32)), .unset]) rfl) ?_
   show own_Ends _ _ _ _ (T204.setTop (mkF m 181 #[.val (.int x0), .val (.int x1), .val (.int x2), .val (.int x3), .val (.int x4), .val (.int x5), .val (.int (5 : Int32)), .val (.ref b176), .val (.int x1), .val (.int (x1 + x2)), .val (.int ((x1 + x2) + x3)), .val (.int (((x1 + x2) + x3) + x4)), .val (.int ((((x1 + x2) + x3) + x4) + x5)), .val (.int (x5 + (x4 + (x3 + (x2 + x1))))), .val (.int (1 : Int32)), .unset] []))
   refine own_st (fun t => XS.iload (own_here Y205) hx rfl (hb hby at_181) rfl) ?_
   show own_Ends _ _ _ _ (T204.setTop (mkF m 183 #[.val (.int x0), .val (.int x1), .val (.int x2), .val (.int x3), .val (.int x4), .val (.int x5), .val (.int (5 : Int32)), .val (.ref b176), .val (.int x1), .val (.int (x1 + x2)), .val (.int ((x1 + x2) + x3)), .val (.int (((x1 + x2) + x3) + x4)), .val (.int ((((x1 + x2) + x3) + x4) + x5)), .val (.int (x5 + (x4 + (x3 + (x2 + x1))))), .val (.int (1 : Int32)), .unset] [(.int (5 : Int32))]))
   refine own_st (fun t => XS.iconst (own_here Y205) hx rfl (hb hby at_183) ) ?_
   show own_Ends _ _ _ _ (T204.setTop (mkF m 184 #[.val (.int x0), .val (.int x1), .val (.int x2), .val (.int x3), .val (.int x4), .val (.int x5), .val (.int (5 : Int32)), .val (.ref b176), .val (.int x1), .val (.int (x1 + x2)), .val (.int ((x1 + x2) + x3)), .val (.int (((x1 + x2) + x3) + x4)), .val (.int ((((x1 + x2) + x3) + x4) + x5)), .val (.int (x5 + (x4 + (x3 + (x2 + x1))))), .val (.int (1 : Int32)), .unset] [(.int (3 : Int32)), (.int (5 : Int32))]))
   refine own_st (fun t => XS.icmpNo (own_here Y205) hx rfl (hb hby at_184) rfl (XT.ii_le_f (by decide))) ?_
   show own_Ends _ _ _ _ (T204.setTop (mkF m 187 #[.val (.int x0), .val (.int x1), .val (.int x2), .val (.int x3), .val (.int x4), .val (.int x5), .val (.int (5 : Int32)), .val (.ref b176), .val (.int x1), .val (.int (x1 + x2)), .val (.int ((x1 + x2) + x3)), .val (.int (((x1 + x2) + x3) + x4)), .val (.int ((((x1 + x2) + x3) + x4) + x5)), .val (.int (x5 + (x4 + (x3 + (x2 + x1))))), .val (.int (1 : Int32)), .unset] []))
   refine own_st (fun t => XS.iload (own_here Y205) hx rfl (hb hby at_187) rfl) ?_
   show own_Ends _ _ _ _ (T204.setTop (mkF m 189 #[.val (.int x0), .val (.int x1), .val (.int x2), .val (.int x3), .val (.int x4), .val (.int x5), .val (.int (5 : Int32)), .val (.ref b176), .val (.int x1), .val (.int (x1 + x2)), .val (.int ((x1 + x2) + x3)), .val (.int (((x1 + x2) + x3) + x4)), .val (.int ((((x1 + x2) + x3) + x4) + x5)), .val (.int (x5 + (x4 + (x3 + (x2 + x1))))), .val (.int (1 : Int32)), .unset] [(.int (1 : Int32))]))
   refine own_st (fun t => XS.ifNo (own_here Y205) hx rfl (hb hby at_189) rfl (XT.i0_eq_f (by decide))) ?_
   show own_Ends _ _ _ _ (T204.setTop (mkF m 192 #[.val (.int x0), .val (.int x1), .val (.int x2), .val (.int x3), .val (.int x4), .val (.int x5), .val (.int (5 : Int32)), .val (.ref b176), .val (.int x1), .val (.int (x1 + x2)), .val (.int ((x1 + x2) + x3)), .val (.int (((x1 + x2) + x3) + x4)), .val (.int ((((x1 + x2) + x3) + x4) + x5)), .val (.int (x5 + (x4 + (x3 + (x2 + x1))))), .val (.int (1 : Int32)), .unset] []))
   refine own_st (fun t => XS.aload (own_here Y205) hx rfl (hb hby at_192) rfl rfl) ?_
   show own_Ends _ _ _ _ (T204.setTop (mkF m 194 #[.val (.int x0), .val (.int x1), .val (.int x2), .val (.int x3), .val (.int x4), .val (.int x5), .val (.int (5 : Int32)), .val (.ref b176), .val (.int x1), .val (.int (x1 + x2)), .val (.int ((x1 + x2) + x3)), .val (.int (((x1 + x2) + x3) + x4)), .val (.int ((((x1 + x2) + x3) + x4) + x5)), .val (.int (x5 + (x4 + (x3 + (x2 + x1))))), .val (.int (1 : Int32)), .unset] [(.ref b176)]))
   refine own_st (fun t => XS.iconst (own_here Y205) hx rfl (hb hby at_194) ) ?_
   show own_Ends _ _ _ _ (T204.setTop (mkF m 195 #[.val (.int x0), .val (.int x1), .val (.int x2), .val (.int x3), .val (.int x4), .val (.int x5), .val (.int (5 : Int32)), .val (.ref b176), .val (.int x1), .val (.int (x1 + x2)), .val (.int ((x1 + x2) + x3)), .val (.int (((x1 + x2) + x3) + x4)), .val (.int ((((x1 + x2) + x3) + x4) + x5)), .val (.int (x5 + (x4 + (x3 + (x2 + x1))))), .val (.int (1 : Int32)), .unset] [(.int (3 : Int32)), (.ref b176)]))
   refine own_ldI Y205 hx hZ F210 (i := 3) (by decide) (by decide) (Nat.le_of_ble_eq_true rfl) (v := (.int (x4 + (x3 + (x2 + x1))))) rfl rfl rfl (hb hby at_195) ?_
   show own_Ends _ _ _ _ (T204.setTop (mkF m 196 #[.val (.int x0), .val (.int x1), .val (.int x2), .val (.int x3), .val (.int x4), .val (.int x5), .val (.int (5 : Int32)), .val (.ref b176), .val (.int x1), .val (.int (x1 + x2)), .val (.int ((x1 + x2) + x3)), .val (.int (((x1 + x2) + x3) + x4)), .val (.int ((((x1 + x2) + x3) + x4) + x5)), .val (.int (x5 + (x4 + (x3 + (x2 + x1))))), .val (.int (1 : Int32)), .unset] [(.int (x4 + (x3 + (x2 + x1))))]))
   refine own_st (fun t => XS.iload (own_here Y205) hx rfl (hb hby at_196) rfl) ?_
   show own_Ends _ _ _ _ (T204.setTop (mkF m 198 #[.val (.int x0), .val (.int x1), .val (.int x2), .val (.int x3), .val (.int x4), .val (.int x5), .val (.int (5 : Int32)), .val (.ref b176), .val (.int x1), .val (.int (x1 + x2)), .val (.int ((x1 + x2) + x3)), .val (.int (((x1 + x2) + x3) + x4)), .val (.int ((((x1 + x2) + x3) + x4) + x5)), .val (.int (x5 + (x4 + (x3 + (x2 + x1))))), .val (.int (1 : Int32)), .unset] [(.int (((x1 + x2) + x3) + x4)), (.int (x4 + (x3 + (x2 + x1))))]))
   refine own_st (fun t => XS.icmpNo (own_here Y205) hx rfl (hb hby at_198) rfl (XT.ii_ne_f (by first | rfl | ac_rfl | simp only [Int32.add_comm, Int32.add_left_comm, Int32.add_assoc]))) ?_
   show own_Ends _ _ _ _ (T204.setTop (mkF m 201 #[.val (.int x0), .val (.int x1), .val (.int x2), .val (.int x3), .val (.int x4), .val (.int x5), .val (.int (5 : Int32)), .val (.ref b176), .val (.int x1), .val (.int (x1 + x2)), .val (.int ((x1 + x2) + x3)), .val (.int (((x1 + x2) + x3) + x4)), .val (.int ((((x1 + x2) + x3) + x4) + x5)), .val (.int (x5 + (x4 + (x3 + (x2 + x1))))), .val (.int (1 : Int32)), .unset] []))
   refine own_st (fun t => XS.iconst (own_here Y205) hx rfl (hb hby at_201) ) ?_
   show own_Ends _ _ _ _ (T204.setTop (mkF m 202 #[.val (.int x0), .val (.int x1), .val (.int x2), .val (.int x3), .val (.int x4), .val (.int x5), .val (.int (5 : Int32)), .val (.ref b176), .val (.int x1), .val (.int (x1 + x2)), .val (.int ((x1 + x2) + x3)), .val (.int (((x1 + x2) + x3) + x4)), .val (.int ((((x1 + x2) + x3) + x4) + x5)), .val (.int (x5 + (x4 + (x3 + (x2 + x1))))), .val (.int (1 : Int32)), .unset] [(.int (1 : Int32))]))
   refine own_st (fun t => XS.goto (own_here Y205) hx rfl (pc0 := 202) (pc' := 206) rfl (hb hby at_202) (by decide) (by decide)) ?_
   show own_Ends _ _ _ _ (T204.setTop (mkF m 206 #[.val (.int x0), .val (.int x1), .val (.int x2), .val (.int x3), .val (.int x4), .val (.int x5), .val (.int (5 : Int32)), .val (.ref b176), .val (.int x1), .val (.int (x1 + x2)), .val (.int ((x1 + x2) + x3)), .val (.int (((x1 + x2) + x3) + x4)), .val (.int ((((x1 + x2) + x3) + x4) + x5)), .val (.int (x5 + (x4 + (x3 + (x2 + x1))))), .val (.int (1 : Int32)), .unset] [(.int (1 : Int32))]))
   refine own_st (fun t => XS.istore (own_here Y205) hx rfl (hb hby at_206) rfl (l' := #[.val (.int x0), .val (.int x1), .val (.int x2), .val (.int x3), .val (.int x4), .val (.int x5), .val (.int (5 : Int32)), .val (.ref b176), .val (.int x1), .val (.int (x1 + x2)), .val (.int ((x1 + x2) + x3)), .val (.int (((x1 + x2) + x3) + x4)), .val (.int ((((x1 + x2) + x3) + x4) + x5)), .val (.int (x5 + (x4 + (x3 + (x2 + x1))))), .val (.int (1 : Int32)), .unset]) rfl) ?_
   show own_Ends _ _ _ _ (T204.setTop (mkF m 208 #[.val (.int x0), .val (.int x1), .val (.int x2), .val (.int x3), .val (.int x4), .val (.int x5), .val (.int (5 : Int32)), .val (.ref b176), .val (.int x1), .val (.int (x1 + x2)), .val (.int ((x1 + x2) + x3)), .val (.int (((x1 + x2) + x3) + x4)), .val (.int ((((x1 + x2) + x3) + x4) + x5)), .val (.int (x5 + (x4 + (x3 + (x2 + x1))))), .val (.int (1 : Int32)), .unset] []))
   refine own_st (fun t => XS.iload (own_here Y205) hx rfl (hb hby at_208) rfl) ?_
   show own_Ends _ _ _ _ (T204.setTop (mkF m 210 #[.val (.int x0), .val (.int x1), .val (.int x2), .val (.int x3), .val (.int x4), .val (.int x5), .val (.int (5 : Int32)), .val (.ref b176), .val (.int x1), .val (.int (x1 + x2)), .val (.int ((x1 + x2) + x3)), .val (.int (((x1 + x2) + x3) + x4)), .val (.int ((((x1 + x2) + x3) + x4) + x5)), .val (.int (x5 + (x4 + (x3 + (x2 + x1))))), .val (.int (1 : Int32)), .unset] [(.int (5 : Int32))]))
   refine own_st (fun t => XS.iconst (own_here Y205) hx rfl (hb hby at_210) ) ?_
   show own_Ends _ _ _ _ (T204.setTop (mkF m 211 #[.val (.int x0), .val (.int x1), .val (.int x2), .val (.int x3), .val (.int x4), .val (.int x5), .val (.int (5 : Int32)), .val (.ref b176), .val (.int x1), .val (.int (x1 + x2)), .val (.int ((x1 + x2) + x3)), .val (.int (((x1 + x2) + x3) + x4)), .val (.int ((((x1 + x2) + x3) + x4) + x5)), .val (.int (x5 + (x4 + (x3 + (x2 + x1))))), .val (.int (1 : Int32)), .unset] [(.int (4 : Int32)), (.int (5 : Int32))]))
   refine own_st (fun t => XS.icmpNo (own_here Y205) hx rfl (hb hby at_211) rfl (XT.ii_le_f (by decide))) ?_
   show own_Ends _ _ _ _ (T204.setTop (mkF m 214 #[.val (.int x0), .val (.int x1), .val (.int x2), .val (.int x3), .val (.int x4), .val (.int x5), .val (.int (5 : Int32)), .val (.ref b176), .val (.int x1), .val (.int (x1 + x2)), .val (.int ((x1 + x2) + x3)), .val (.int (((x1 + x2) + x3) + x4)), .val (.int ((((x1 + x2) + x3) + x4) + x5)), .val (.int (x5 + (x4 + (x3 + (x2 + x1))))), .val (.int (1 : Int32)), .unset] []))
   refine own_st (fun t => XS.iload (own_here Y205) hx rfl (hb hby at_214) rfl) ?_
   show own_Ends _ _ _ _ (T204.setTop (mkF m 216 #[.val (.int x0), .val (.int x1), .val (.int x2), .val (.int x3), .val (.int x4), .val (.int x5), .val (.int (5 : Int32)), .val (.ref b176), .val (.int x1), .val (.int (x1 + x2)), .val (.int ((x1 + x2) + x3)), .val (.int (((x1 + x2) + x3) + x4)), .val (.int ((((x1 + x2) + x3) + x4) + x5)), .val (.int (x5 + (x4 + (x3 + (x2 + x1))))), .val (.int (1 : Int32)), .unset] [(.int (1 : Int32))]))
   refine own_st (fun t => XS.ifNo (own_here Y205) hx rfl (hb hby at_216) rfl (XT.i0_eq_f (by decide))) ?_
   show own_Ends _ _ _ _ (T204.setTop (mkF m 219 #[.val (.int x0), .val (.int x1), .val (.int x2), .val (.int x3), .val (.int x4), .val (.int x5), .val (.int (5 : Int32)), .val (.ref b176), .val (.int x1), .val (.int (x1 + x2)), .val (.int ((x1 + x2) + x3)), .val (.int (((x1 + x2) + x3) + x4)), .val (.int ((((x1 + x2) + x3) + x4) + x5)), .val (.int (x5 + (x4 + (x3 + (x2 + x1))))), .val (.int (1 : Int32)), .unset] []))
   refine own_st (fun t => XS.aload (own_here Y205) hx rfl (hb hby at_219) rfl rfl) ?_
   show own_Ends _ _ _ _ (T204.setTop (mkF m 221 #[.val (.int x0), .val (.int x1), .val (.int x2), .val (.int x3), .val (.int x4), .val (.int x5), .val (.int (5 : Int32)), .val (.ref b176), .val (.int x1), .val (.int (x1 + x2)), .val (.int ((x1 + x2) + x3)), .val (.int (((x1 + x2) + x3) + x4)), .val (.int ((((x1 + x2) + x3) + x4) + x5)), .val (.int (x5 + (x4 + (x3 + (x2 + x1))))), .val (.int (1 : Int32)), .unset] [(.ref b176)]))
   refine own_st (fun t => XS.iconst (own_here Y205) hx rfl (hb hby at_221) ) ?_
   show own_Ends _ _ _ _ (T204.setTop (mkF m 222 #[.val (.int x0), .val (.int x1), .val (.int x2), .val (.int x3), .val (.int x4), .val (.int x5), .val (.int (5 : Int32)), .val (.ref b176), .val (.int x1), .val (.int (x1 + x2)), .val (.int ((x1 + x2) + x3)), .val (.int (((x1 + x2) + x3) + x4)), .val (.int ((((x1 + x2) + x3) + x4) + x5)), .val (.int (x5 + (x4 + (x3 + (x2 + x1))))), .val (.int (1 : Int32)), .unset] [(.int (4 : Int32)), (.ref b176)]))
   refine own_ldI Y205 hx hZ F210 (i := 4) (by decide) (by decide) (Nat.le_of_ble_eq_true rfl) (v := (.int (x5 + (x4 + (x3 + (x2 + x1)))))) rfl rfl rfl (hb hby at_222) ?_
   show own_Ends _ _ _ _ (T204.setTop (mkF m 223 #[.val (.int x0), .val (.int x1), .val (.int x2), .val (.int x3), .val (.int x4), .val (.int x5), .val (.int (5 : Int32)), .val (.ref b176), .val (.int x1), .val (.int (x1 + x2)), .val (.int ((x1 + x2) + x3)), .val (.int (((x1 + x2) + x3) + x4)), .val (.int ((((x1 + x2) + x3) + x4) + x5)), .val (.int (x5 + (x4 + (x3 + (x2 + x1))))), .val (.int (1 : Int32)), .unset] [(.int (x5 + (x4 + (x3 + (x2 + x1)))))]))
   refine own_st (fun t => XS.iload (own_here Y205) hx rfl (hb hby at_223) rfl) ?_
   show own_Ends _ _ _ _ (T204.setTop (mkF m 225 #[.val (.int x0), .val (.int x1), .val (.int x2), .val (.int x3), .val (.int x4), .val (.int x5), .val (.int (5 : Int32)), .val (.ref b176), .val (.int x1), .val (.int (x1 + x2)), .val (.int ((x1 + x2) + x3)), .val (.int (((x1 + x2) + x3) + x4)), .val (.int ((((x1 + x2) + x3) + x4) + x5)), .val (.int (x5 + (x4 + (x3 + (x2 + x1))))), .val (.int (1 : Int32)), .unset] [(.int ((((x1 + x2) + x3) + x4) + x5)), (.int (x5 + (x4 + (x3 + (x2 + x1)))))]))
   refine own_st (fun t => XS.icmpNo (own_here Y205) hx rfl (hb hby at_225) rfl (XT.ii_ne_f (by first | rfl | ac_rfl | simp only [Int32.add_comm, Int32.add_left_comm, Int32.add_assoc]))) ?_
   show own_Ends _ _ _ _ (T204.setTop (mkF m 228 #[.val (.int x0), .val (.int x1), .val (.int x2), .val (.int x3), .val (.int x4), .val (.int x5), .val (.int (5 : Int32)), .val (.ref b176), .val (.int x1), .val (.int (x1 + x2)), .val (.int ((x1 + x2) + x3)), .val (.int (((x1 + x2) + x3) + x4)), .val (.int ((((x1 + x2) + x3) + x4) + x5)), .val (.int (x5 + (x4 + (x3 + (x2 + x1))))), .val (.int (1 : Int32)), .unset] []))
   refine own_st (fun t => XS.iconst (own_here Y205) hx rfl (hb hby at_228) ) ?_
   show own_Ends _ _ _ _ (T204.setTop (mkF m 229 #[.val (.int x0), .val (.int x1), .val (.int x2), .val (.int x3), .val (.int x4), .val (.int x5), .val (.int (5 : Int32)), .val (.ref b176), .val (.int x1), .val (.int (x1 + x2)), .val (.int ((x1 + x2) + x3)), .val (.int (((x1 + x2) + x3) + x4)), .val (.int ((((x1 + x2) + x3) + x4) + x5)), .val (.int (x5 + (x4 + (x3 + (x2 + x1))))), .val (.int (1 : Int32)), .unset] [(.int (1 : Int32))]))
   refine own_st (fun t => XS.goto (own_here Y205) hx rfl (pc0 := 229) (pc' := 233) rfl (hb hby at_229) (by decide) (by decide)) ?_
   show own_Ends _ _ _ _ (T204.setTop (mkF m 233 #[.val (.int x0), .val (.int x1), .val (.int x2), .val (.int x3), .val (.int x4), .val (.int x5), .val (.int (5 : Int32)), .val (.ref b176), .val (.int x1), .val (.int (x1 + x2)), .val (.int ((x1 + x2) + x3)), .val (.int (((x1 + x2) + x3) + x4)), .val (.int ((((x1 + x2) + x3) + x4) + x5)), .val (.int (x5 + (x4 + (x3 + (x2 + x1))))), .val (.int (1 : Int32)), .unset] [(.int (1 : Int32))]))
   refine own_st (fun t => XS.istore (own_here Y205) hx rfl (hb hby at_233) rfl (l' := #[.val (.int x0), .val (.int x1), .val (.int x2), .val (.int x3), .val (.int x4), .val (.int x5), .val (.int (5 : Int32)), .val (.ref b176), .val (.int x1), .val (.int (x1 + x2)), .val (.int ((x1 + x2) + x3)), .val (.int (((x1 + x2) + x3) + x4)), .val (.int ((((x1 + x2) + x3) + x4) + x5)), .val (.int (x5 + (x4 + (x3 + (x2 + x1))))), .val (.int (1 : Int32)), .unset]) rfl) ?_
   show own_Ends _ _ _ _ (T204.setTop (mkF m 235 #[.val (.int x0), .val (.int x1), .val (.int x2), .val (.int x3), .val (.int x4), .val (.int x5), .val (.int (5 : Int32)), .val (.ref b176), .val (.int x1), .val (.int (x1 + x2)), .val (.int ((x1 + x2) + x3)), .val (.int (((x1 + x2) + x3) + x4)), .val (.int ((((x1 + x2) + x3) + x4) + x5)), .val (.int (x5 + (x4 + (x3 + (x2 + x1))))), .val (.int (1 : Int32)), .unset] []))
   refine own_st (fun t => XS.iload (own_here Y205) hx rfl (hb hby at_235) rfl) ?_
   show own_Ends _ _ _ _ (T204.setTop (mkF m 237 #[.val (.int x0), .val (.int x1), .val (.int x2), .val (.int x3), .val (.int x4), .val (.int x5), .val (.int (5 : Int32)), .val (.ref b176), .val (.int x1), .val (.int (x1 + x2)), .val (.int ((x1 + x2) + x3)), .val (.int (((x1 + x2) + x3) + x4)), .val (.int ((((x1 + x2) + x3) + x4) + x5)), .val (.int (x5 + (x4 + (x3 + (x2 + x1))))), .val (.int (1 : Int32)), .unset] [(.int x1)]))
   refine own_st (fun t => XS.istore (own_here Y205) hx rfl (hb hby at_237) rfl (l' := #[.val (.int x0), .val (.int x1), .val (.int x2), .val (.int x3), .val (.int x4), .val (.int x5), .val (.int (5 : Int32)), .val (.ref b176), .val (.int x1), .val (.int (x1 + x2)), .val (.int ((x1 + x2) + x3)), .val (.int (((x1 + x2) + x3) + x4)), .val (.int ((((x1 + x2) + x3) + x4) + x5)), .val (.int (x5 + (x4 + (x3 + (x2 + x1))))), .val (.int (1 : Int32)), .val (.int x1)]) rfl) ?_
   show own_Ends _ _ _ _ (T204.setTop (mkF m 239 #[.val (.int x0), .val (.int x1), .val (.int x2), .val (.int x3), .val (.int x4), .val (.int x5), .val (.int (5 : Int32)), .val (.ref b176), .val (.int x1), .val (.int (x1 + x2)), .val (.int ((x1 + x2) + x3)), .val (.int (((x1 + x2) + x3) + x4)), .val (.int ((((x1 + x2) + x3) + x4) + x5)), .val (.int (x5 + (x4 + (x3 + (x2 + x1))))), .val (.int (1 : Int32)), .val (.int x1)] []))
   refine own_st (fun t => XS.iload (own_here Y205) hx rfl (hb hby at_239) rfl) ?_
   show own_Ends _ _ _ _ (T204.setTop (mkF m 241 #[.val (.int x0), .val (.int x1), .val (.int x2), .val (.int x3), .val (.int x4), .val (.int x5), .val (.int (5 : Int32)), .val (.ref b176), .val (.int x1), .val (.int (x1 + x2)), .val (.int ((x1 + x2) + x3)), .val (.int (((x1 + x2) + x3) + x4)), .val (.int ((((x1 + x2) + x3) + x4) + x5)), .val (.int (x5 + (x4 + (x3 + (x2 + x1))))), .val (.int (1 : Int32)), .val (.int x1)] [(.int (5 : Int32))]))
   refine own_st (fun t => XS.iconst (own_here Y205) hx rfl (hb hby at_241) ) ?_
   show own_Ends _ _ _ _ (T204.setTop (mkF m 242 #[.val (.int x0), .val (.int x1), .val (.int x2), .val (.int x3), .val (.int x4), .val (.int x5), .val (.int (5 : Int32)), .val (.ref b176), .val (.int x1), .val (.int (x1 + x2)), .val (.int ((x1 + x2) + x3)), .val (.int (((x1 + x2) + x3) + x4)), .val (.int ((((x1 + x2) + x3) + x4) + x5)), .val (.int (x5 + (x4 + (x3 + (x2 + x1))))), .val (.int (1 : Int32)), .val (.int x1)] [(.int (2 : Int32)), (.int (5 : Int32))]))
   refine own_st (fun t => XS.icmpYes (own_here Y205) hx rfl (pc0 := 242) (pc' := 252) rfl (hb hby at_242) rfl (XT.ii_ne_t (by decide)) (by decide) (by decide)) ?_
   show own_Ends _ _ _ _ (T204.setTop (mkF m 252 #[.val (.int x0), .val (.int x1), .val (.int x2), .val (.int x3), .val (.int x4), .val (.int x5), .val (.int (5 : Int32)), .val (.ref b176), .val (.int x1), .val (.int (x1 + x2)), .val (.int ((x1 + x2) + x3)), .val (.int (((x1 + x2) + x3) + x4)), .val (.int ((((x1 + x2) + x3) + x4) + x5)), .val (.int (x5 + (x4 + (x3 + (x2 + x1))))), .val (.int (1 : Int32)), .val (.int x1)] []))
   refine own_st (fun t => XS.iload (own_here Y205) hx rfl (hb hby at_252) rfl) ?_
   show own_Ends _ _ _ _ (T204.setTop (mkF m 254 #[.val (.int x0), .val (.int x1), .val (.int x2), .val (.int x3), .val (.int x4), .val (.int x5), .val (.int (5 : Int32)), .val (.ref b176), .val (.int x1), .val (.int (x1 + x2)), .val (.int ((x1 + x2) + x3)), .val (.int (((x1 + x2) + x3) + x4)), .val (.int ((((x1 + x2) + x3) + x4) + x5)), .val (.int (x5 + (x4 + (x3 + (x2 + x1))))), .val (.int (1 : Int32)), .val (.int x1)] [(.int (5 : Int32))]))
   refine own_st (fun t => XS.iconst (own_here Y205) hx rfl (hb hby at_254) ) ?_
   show own_Ends _ _ _ _ (T204.setTop (mkF m 255 #[.val (.int x0), .val (.int x1), .val (.int x2), .val (.int x3), .val (.int x4), .val (.int x5), .val (.int (5 : Int32)), .val (.ref b176), .val (.int x1), .val (.int (x1 + x2)), .val (.int ((x1 + x2) + x3)), .val (.int (((x1 + x2) + x3) + x4)), .val (.int ((((x1 + x2) + x3) + x4) + x5)), .val (.int (x5 + (x4 + (x3 + (x2 + x1))))), .val (.int (1 : Int32)), .val (.int x1)] [(.int (3 : Int32)), (.int (5 : Int32))]))
   refine own_st (fun t => XS.icmpYes (own_here Y205) hx rfl (pc0 := 255) (pc' := 265) rfl (hb hby at_255) rfl (XT.ii_ne_t (by decide)) (by decide) (by decide)) ?_
   show own_Ends _ _ _ _ (T204.setTop (mkF m 265 #[.val (.int x0), .val (.int x1), .val (.int x2), .val (.int x3), .val (.int x4), .val (.int x5), .val (.int (5 : Int32)), .val (.ref b176), .val (.int x1), .val (.int (x1 + x2)), .val (.int ((x1 + x2) + x3)), .val (.int (((x1 + x2) + x3) + x4)), .val (.int ((((x1 + x2) + x3) + x4) + x5)), .val (.int (x5 + (x4 + (x3 + (x2 + x1))))), .val (.int (1 : Int32)), .val (.int x1)] []))
   refine own_st (fun t => XS.iload (own_here Y205) hx rfl (hb hby at_265) rfl) ?_
   show own_Ends _ _ _ _ (T204.setTop (mkF m 267 #[.val (.int x0), .val (.int x1), .val (.int x2), .val (.int x3), .val (.int x4), .val (.int x5), .val (.int (5 : Int32)), .val (.ref b176), .val (.int x1), .val (.int (x1 + x2)), .val (.int ((x1 + x2) + x3)), .val (.int (((x1 + x2) + x3) + x4)), .val (.int ((((x1 + x2) + x3) + x4) + x5)), .val (.int (x5 + (x4 + (x3 + (x2 + x1))))), .val (.int (1 : Int32)), .val (.int x1)] [(.int (5 : Int32))]))
   refine own_st (fun t => XS.iconst (own_here Y205) hx rfl (hb hby at_267) ) ?_
   show own_Ends _ _ _ _ (T204.setTop (mkF m 268 #[.val (.int x0), .val (.int x1), .val (.int x2), .val (.int x3), .val (.int x4), .val (.int x5), .val (.int (5 : Int32)), .val (.ref b176), .val (.int x1), .val (.int (x1 + x2)), .val (.int ((x1 + x2) + x3)), .val (.int (((x1 + x2) + x3) + x4)), .val (.int ((((x1 + x2) + x3) + x4) + x5)), .val (.int (x5 + (x4 + (x3 + (x2 + x1))))), .val (.int (1 : Int32)), .val (.int x1)] [(.int (4 : Int32)), (.int (5 : Int32))]))
   refine own_st (fun t => XS.icmpYes (own_here Y205) hx rfl (pc0 := 268) (pc' := 278) rfl (hb hby at_268) rfl (XT.ii_ne_t (by decide)) (by decide) (by decide)) ?_
   show own_Ends _ _ _ _ (T204.setTop (mkF m 278 #[.val (.int x0), .val (.int x1), .val (.int x2), .val (.int x3), .val (.int x4), .val (.int x5), .val (.int (5 : Int32)), .val (.ref b176), .val (.int x1), .val (.int (x1 + x2)), .val (.int ((x1 + x2) + x3)), .val (.int (((x1 + x2) + x3) + x4)), .val (.int ((((x1 + x2) + x3) + x4) + x5)), .val (.int (x5 + (x4 + (x3 + (x2 + x1))))), .val (.int (1 : Int32)), .val (.int x1)] []))
   refine own_st (fun t => XS.iload (own_here Y205) hx rfl (hb hby at_278) rfl) ?_
   show own_Ends _ _ _ _ (T204.setTop (mkF m 280 #[.val (.int x0), .val (.int x1), .val (.int x2), .val (.int x3), .val (.int x4), .val (.int x5), .val (.int (5 : Int32)), .val (.ref b176), .val (.int x1), .val (.int (x1 + x2)), .val (.int ((x1 + x2) + x3)), .val (.int (((x1 + x2) + x3) + x4)), .val (.int ((((x1 + x2) + x3) + x4) + x5)), .val (.int (x5 + (x4 + (x3 + (x2 + x1))))), .val (.int (1 : Int32)), .val (.int x1)] [(.int (5 : Int32))]))
   refine own_st (fun t => XS.iconst (own_here Y205) hx rfl (hb hby at_280) ) ?_
   show own_Ends _ _ _ _ (T204.setTop (mkF m 281 #[.val (.int x0), .val (.int x1), .val (.int x2), .val (.int x3), .val (.int x4), .val (.int x5), .val (.int (5 : Int32)), .val (.ref b176), .val (.int x1), .val (.int (x1 + x2)), .val (.int ((x1 + x2) + x3)), .val (.int (((x1 + x2) + x3) + x4)), .val (.int ((((x1 + x2) + x3) + x4) + x5)), .val (.int (x5 + (x4 + (x3 + (x2 + x1))))), .val (.int (1 : Int32)), .val (.int x1)] [(.int (5 : Int32)), (.int (5 : Int32))]))
   refine own_st (fun t => XS.icmpNo (own_here Y205) hx rfl (hb hby at_281) rfl (XT.ii_ne_f (by decide))) ?_
   show own_Ends _ _ _ _ (T204.setTop (mkF m 284 #[.val (.int x0), .val (.int x1), .val (.int x2), .val (.int x3), .val (.int x4), .val (.int x5), .val (.int (5 : Int32)), .val (.ref b176), .val (.int x1), .val (.int (x1 + x2)), .val (.int ((x1 + x2) + x3)), .val (.int (((x1 + x2) + x3) + x4)), .val (.int ((((x1 + x2) + x3) + x4) + x5)), .val (.int (x5 + (x4 + (x3 + (x2 + x1))))), .val (.int (1 : Int32)), .val (.int x1)] []))
   refine own_st (fun t => XS.iload (own_here Y205) hx rfl (hb hby at_284) rfl) ?_
   show own_Ends _ _ _ _ (T204.setTop (mkF m 286 #[.val (.int x0), .val (.int x1), .val (.int x2), .val (.int x3), .val (.int x4), .val (.int x5), .val (.int (5 : Int32)), .val (.ref b176), .val (.int x1), .val (.int (x1 + x2)), .val (.int ((x1 + x2) + x3)), .val (.int (((x1 + x2) + x3) + x4)), .val (.int ((((x1 + x2) + x3) + x4) + x5)), .val (.int (x5 + (x4 + (x3 + (x2 + x1))))), .val (.int (1 : Int32)), .val (.int x1)] [(.int ((((x1 + x2) + x3) + x4) + x5))]))
   refine own_st (fun t => XS.istore (own_here Y205) hx rfl (hb hby at_286) rfl (l' := #[.val (.int x0), .val (.int x1), .val (.int x2), .val (.int x3), .val (.int x4), .val (.int x5), .val (.int (5 : Int32)), .val (.ref b176), .val (.int x1), .val (.int (x1 + x2)), .val (.int ((x1 + x2) + x3)), .val (.int (((x1 + x2) + x3) + x4)), .val (.int ((((x1 + x2) + x3) + x4) + x5)), .val (.int (x5 + (x4 + (x3 + (x2 + x1))))), .val (.int (1 : Int32)), .val (.int ((((x1 + x2) + x3) + x4) + x5))]) rfl) ?_
   show own_Ends _ _ _ _ (T204.setTop (mkF m 288 #[.val (.int x0), .val (.int x1), .val (.int x2), .val (.int x3), .val (.int x4), .val (.int x5), .val (.int (5 : Int32)), .val (.ref b176), .val (.int x1), .val (.int (x1 + x2)), .val (.int ((x1 + x2) + x3)), .val (.int (((x1 + x2) + x3) + x4)), .val (.int ((((x1 + x2) + x3) + x4) + x5)), .val (.int (x5 + (x4 + (x3 + (x2 + x1))))), .val (.int (1 : Int32)), .val (.int ((((x1 + x2) + x3) + x4) + x5))] []))
   refine own_st (fun t => XS.iload (own_here Y205) hx rfl (hb hby at_288) rfl) ?_
   show own_Ends _ _ _ _ (T204.setTop (mkF m 290 #[.val (.int x0), .val (.int x1), .val (.int x2), .val (.int x3), .val (.int x4), .val (.int x5), .val (.int (5 : Int32)), .val (.ref b176), .val (.int x1), .val (.int (x1 + x2)), .val (.int ((x1 + x2) + x3)), .val (.int (((x1 + x2) + x3) + x4)), .val (.int ((((x1 + x2) + x3) + x4) + x5)), .val (.int (x5 + (x4 + (x3 + (x2 + x1))))), .val (.int (1 : Int32)), .val (.int ((((x1 + x2) + x3) + x4) + x5))] [(.int (1 : Int32))]))
   refine own_st (fun t => XS.ifNo (own_here Y205) hx rfl (hb hby at_290) rfl (XT.i0_eq_f (by decide))) ?_
   show own_Ends _ _ _ _ (T204.setTop (mkF m 293 #[.val (.int x0), .val (.int x1), .val (.int x2), .val (.int x3), .val (.int x4), .val (.int x5), .val (.int (5 : Int32)), .val (.ref b176), .val (.int x1), .val (.int (x1 + x2)), .val (.int ((x1 + x2) + x3)), .val (.int (((x1 + x2) + x3) + x4)), .val (.int ((((x1 + x2) + x3) + x4) + x5)), .val (.int (x5 + (x4 + (x3 + (x2 + x1))))), .val (.int (1 : Int32)), .val (.int ((((x1 + x2) + x3) + x4) + x5))] []))
   refine own_st (fun t => XS.iload (own_here Y205) hx rfl (hb hby at_293) rfl) ?_
   show own_Ends _ _ _ _ (T204.setTop (mkF m 295 #[.val (.int x0), .val (.int x1), .val (.int x2), .val (.int x3), .val (.int x4), .val (.int x5), .val (.int (5 : Int32)), .val (.ref b176), .val (.int x1), .val (.int (x1 + x2)), .val (.int ((x1 + x2) + x3)), .val (.int (((x1 + x2) + x3) + x4)), .val (.int ((((x1 + x2) + x3) + x4) + x5)), .val (.int (x5 + (x4 + (x3 + (x2 + x1))))), .val (.int (1 : Int32)), .val (.int ((((x1 + x2) + x3) + x4) + x5))] [(.int (x5 + (x4 + (x3 + (x2 + x1)))))]))
   refine own_st (fun t => XS.iload (own_here Y205) hx rfl (hb hby at_295) rfl) ?_
   show own_Ends _ _ _ _ (T204.setTop (mkF m 297 #[.val (.int x0), .val (.int x1), .val (.int x2), .val (.int x3), .val (.int x4), .val (.int x5), .val (.int (5 : Int32)), .val (.ref b176), .val (.int x1), .val (.int (x1 + x2)), .val (.int ((x1 + x2) + x3)), .val (.int (((x1 + x2) + x3) + x4)), .val (.int ((((x1 + x2) + x3) + x4) + x5)), .val (.int (x5 + (x4 + (x3 + (x2 + x1))))), .val (.int (1 : Int32)), .val (.int ((((x1 + x2) + x3) + x4) + x5))] [(.int ((((x1 + x2) + x3) + x4) + x5)), (.int (x5 + (x4 + (x3 + (x2 + x1)))))]))
   refine own_st (fun t => XS.icmpNo (own_here Y205) hx rfl (hb hby at_297) rfl (XT.ii_ne_f (by first | rfl | ac_rfl | simp only [Int32.add_comm, Int32.add_left_comm, Int32.add_assoc]))) ?_
   show own_Ends _ _ _ _ (T204.setTop (mkF m 300 #[.val (.int x0), .val (.int x1), .val (.int x2), .val (.int x3), .val (.int x4), .val (.int x5), .val (.int (5 : Int32)), .val (.ref b176), .val (.int x1), .val (.int (x1 + x2)), .val (.int ((x1 + x2) + x3)), .val (.int (((x1 + x2) + x3) + x4)), .val (.int ((((x1 + x2) + x3) + x4) + x5)), .val (.int (x5 + (x4 + (x3 + (x2 + x1))))), .val (.int (1 : Int32)), .val (.int ((((x1 + x2) + x3) + x4) + x5))] []))
   refine own_st (fun t => XS.iconst (own_here Y205) hx rfl (hb hby at_300) ) ?_
   show own_Ends _ _ _ _ (T204.setTop (mkF m 301 #[.val (.int x0), .val (.int x1), .val (.int x2), .val (.int x3), .val (.int x4), .val (.int x5), .val (.int (5 : Int32)), .val (.ref b176), .val (.int x1), .val (.int (x1 + x2)), .val (.int ((x1 + x2) + x3)), .val (.int (((x1 + x2) + x3) + x4)), .val (.int ((((x1 + x2) + x3) + x4) + x5)), .val (.int (x5 + (x4 + (x3 + (x2 + x1))))), .val (.int (1 : Int32)), .val (.int ((((x1 + x2) + x3) + x4) + x5))] [(.int (1 : Int32))]))
   refine own_st (fun t => XS.goto (own_here Y205) hx rfl (pc0 := 301) (pc' := 305) rfl (hb hby at_301) (by decide) (by decide)) ?_
   show own_Ends _ _ _ _ (T204.setTop (mkF m 305 #[.val (.int x0), .val (.int x1), .val (.int x2), .val (.int x3), .val (.int x4), .val (.int x5), .val (.int (5 : Int32)), .val (.ref b176), .val (.int x1), .val (.int (x1 + x2)), .val (.int ((x1 + x2) + x3)), .val (.int (((x1 + x2) + x3) + x4)), .val (.int ((((x1 + x2) + x3) + x4) + x5)), .val (.int (x5 + (x4 + (x3 + (x2 + x1))))), .val (.int (1 : Int32)), .val (.int ((((x1 + x2) + x3) + x4) + x5))] [(.int (1 : Int32))]))
   refine own_retN Y205 hx hlk (t := .boolean) hret (by simp) (hb hby at_305) (by decide) (by decide) ?_
   exact rfl
set_option maxRecDepth 65536 in
set_option maxHeartbeats 40000000 in
theorem own_comes_1 {Post : Tables → Env → Array Value → State → Outcome → State → Prop} (hpost : ∀ tb e args s v u, (limb_1_1.after args s (.returned v) u = true ∧ limb_1_2.after args s (.returned v) u = true ∧ True) → FrameEnd s (.returned v) u (Jvm.fieldLocs frame_1_writes args s ++ Jvm.arrayLocs frame_1_arrays args s ++ Jvm.staticLocs frame_1_statics s) 16 128 → Post tb e args s (.returned v) u) :
    ArmFor flags0 classFile x code maxLocals ret World_1 tables_1 room_1 Calls_1 rest_1 Pre_1 Post := by
  intro l hfl _ _ p e ha hc hk s m args below hf hA hF happ hP
  obtain ⟨hcalls, hrest, hpre⟩ := hP
  obtain ⟨-, -, -, hnamed, -, -, -, hat⟩ := (Spec.applies_iff hf).mp happ
  obtain ⟨hg, hn⟩ := and_e (Cond.before_iff.mp (show (Jvm.Cond.and given_1 narrow_1).before args s = true from hpre))
  obtain ⟨g1, g2⟩ := and_e hg
  obtain ⟨g3, g4⟩ := and_e g2
  obtain ⟨g5, g6⟩ := and_e g4
  obtain ⟨g7, g8⟩ := and_e g6
  obtain ⟨g9, g10⟩ := and_e g8
  obtain ⟨g11, g12⟩ := and_e g10
  obtain ⟨w0, w1, w2, w3, w4, w5, rfl⟩ : ∃ w0 w1 w2 w3 w4 w5 : Value, args = #[w0, w1, w2, w3, w4, w5] := by
    have hs : args.size = 6 := by simpa [Cond.value, given_1] using g1
    obtain ⟨L⟩ := args
    match L, hs with
    | [w0, w1, w2, w3, w4, w5], _ => exact ⟨w0, w1, w2, w3, w4, w5, rfl⟩
  have hw := fun d (hd : d ∈ tables_1) => atoms_spec (ws := Jvm.Cond.code x code maxLocals ret :: tables_1) hat d (List.mem_cons_of_mem _ hd)
  have hfit : Fit s := fun {y c} hc i hi => by
    obtain ⟨ha, rfl⟩ := Array.getElem?_eq_some_iff.mp hc
    have q := List.all_eq_true.mp ((Array.all_eq_true_iff_forall_mem.mp hF) _ (Array.getElem_mem ha)) i (List.mem_range.mpr hi)
    simpa [Array.getElem?_eq_getElem hi] using q
  obtain ⟨i0, ei0⟩ := is_v g3
  obtain rfl : w0 = (.int i0) := Option.some.inj ei0
  obtain ⟨i1, ei1⟩ := is_v g5
  obtain rfl : w1 = (.int i1) := Option.some.inj ei1
  obtain ⟨i2, ei2⟩ := is_v g7
  obtain rfl : w2 = (.int i2) := Option.some.inj ei2
  obtain ⟨i3, ei3⟩ := is_v g9
  obtain rfl : w3 = (.int i3) := Option.some.inj ei3
  obtain ⟨i4, ei4⟩ := is_v g11
  obtain rfl : w4 = (.int i4) := Option.some.inj ei4
  obtain ⟨i5, ei5⟩ := is_v g12
  obtain rfl : w5 = (.int i5) := Option.some.inj ei5
  obtain ⟨n, o, h1, h2, h3, _, L, rfl, ⟨N, rfl⟩, hq⟩ := own_rm0 l s _ hw tables_1 i0 i1 i2 i3 i4 i5  s.heap s.heap.size (Nat.le_refl _)  p e ha hc hk s m _ below hf ((Spec.applies_iff_loose hf).mp happ).1 ⟨rfl, State.Warmed39.refl s, rfl⟩ trivial
  refine ⟨n, _, h1, h2, h3, hpost _ _ _ _ _ _ ⟨Cond.after_iff.mpr rfl, Cond.after_iff.mpr (eq_i res_at (Term.int_eval (1)) rfl), trivial⟩ ⟨hq.1, hq.2.1, (hq.2.2.sift fun y hy => Or.inr (N y hy)).mono (by decide) (by decide)⟩⟩
theorem main_1_1 : Claimed_1_1 := own_comes_1 fun _ _ _ _ _ _ h hF => ⟨h.1, hF⟩
theorem main_1_2 : Claimed_1_2 := own_comes_1 fun _ _ _ _ _ _ h hF => ⟨h.2.1, hF⟩
end Jvm.Pilot.@@N@@
namespace Jvm.Pilot.@@N@@
open Jvm Jvm.ClassFile Sem Op Lib Jvm.Free Jvm.Stand Jvm.Pilot.@@N@@.Jvm.D
/-! MADE BY PROGRAM (witnessworld.py) out of the Statement's table words and the real class files: 9 classes; the members and pool entries that the words name. The judged class is class 1, her method 1. -/
namespace start1
open Jvm.ClassFile
def u (s : String) : CpInfo := .utf8 (stringToUtf16 s)
/-- a pool by its gaps: so many unusable entries, then the entry; so many at the end -/
def gap : Nat → List CpInfo → List CpInfo
  | 0, r => r
  | n + 1, r => .unusable :: gap n r
def poolList (es : List (Nat × CpInfo)) (last : Nat) : List CpInfo := es.foldr (fun e r => gap e.1 (e.2 :: r)) (gap last [])
def pool (es : List (Nat × CpInfo)) (last : Nat) : Array CpInfo := ⟨poolList es last⟩
def fileOf (pool : Array CpInfo) (this : Nat) (attrs : Array Attribute := #[]) (ms : Array MethodInfo := #[]) (fl : Nat := 33) (sup : Nat := 0) (ifs : Array Nat := #[]) (fds : Array FieldInfo := #[]) : ClassFile where
  minorVersion := 0
  majorVersion := 65
  constantPool := pool
  accessFlags := fl
  thisClass := this
  superClass := sup
  interfaces := ifs
  fields := fds
  methods := ms
  attributes := attrs
def plain (name : String) (sup : Option ClassId) : Class where
  name := name
  kind := .ordinary
  loader := none
  accessFlags := 33
  super := sup
  interfaces := #[]
  cf := none
  fields := #[]
  methods := #[]
  instanceTypes := #[]
  staticTypes := #[]
  resolved := #[]
  callSites := []
  init := .initialized
  statics := none
  mirror := none

def pool0 : Array CpInfo := pool [(5, u "<init>"), (0, u "()V"), (1, .class_ 10), (1, u "java/lang/Object")] 113

def k0m0 : Method := { name := "<init>", desc := "()V", sig := { parameters := [], returnType := none }, accessFlags := 1, code := none }
/-- java/lang/Object -/
def k0 : Class := { plain "java/lang/Object" none with
  accessFlags := 33
  interfaces := #[]
  cf := some (fileOf pool0 8 #[] #[{ accessFlags := 1, nameIndex := 5, descriptorIndex := 6, attributes := #[] }] 33 0 #[] #[])
  fields := #[]
  methods := #[k0m0]
  instanceTypes := #[]
  staticTypes := #[]
  resolved := Array.replicate 124 none
  statics := none }

def pool1 : Array CpInfo := pool [(2, .class_ 4), (1, u "java/lang/Object"), (0, u "<init>"), (0, u "()V"), (0, .integer 2147483647), (0, .methodref 9 10), (0, .class_ 11), (0, .nameAndType 12 13), (0, u "com/example/tierpath/tierpath/Hierarchy"), (0, u "prefixSums"), (0, u "([I)I"), (0, .class_ 15), (0, u "com/example/tierpath/tierpath/HierarchyPrefixSumsPinLaw"), (2, u "law"), (0, u "(IIIIII)Z")] 5

def k1m0 : Method := { name := "<init>", desc := "()V", sig := { parameters := [], returnType := none }, accessFlags := 2, code := none }
def k1c1 : Code := { maxStack := 3, maxLocals := 16, code := code, exceptionTable := #[], attributes := #[] }
def k1m1 : Method := { name := "law", desc := "(IIIIII)Z", sig := { parameters := [.int, .int, .int, .int, .int, .int], returnType := some .boolean }, accessFlags := 9, code := some k1c1 }
/-- com/example/tierpath/tierpath/HierarchyPrefixSumsPinLaw -/
def k1 : Class := { plain "com/example/tierpath/tierpath/HierarchyPrefixSumsPinLaw" (some 0) with
  accessFlags := 49
  interfaces := #[]
  cf := some (fileOf pool1 14 #[] #[{ accessFlags := 2, nameIndex := 5, descriptorIndex := 6, attributes := #[] }, { accessFlags := 9, nameIndex := 18, descriptorIndex := 19, attributes := #[] }] 49 2 #[] #[])
  fields := #[]
  methods := #[k1m0, k1m1]
  instanceTypes := #[]
  staticTypes := #[]
  resolved := Array.replicate 25 none
  statics := none }

def pool2 : Array CpInfo := pool [(10, .class_ 12), (1, u "com/example/tierpath/tierpath/Hierarchy"), (3, .class_ 18), (1, u "java/lang/Object"), (3, u "bisection"), (0, u "Lcom/example/tierpath/tierpath/Bisection;"), (2, u "levels"), (0, u "I"), (2, u "source"), (0, u "Lcom/example/tierpath/tierpath/CellSource;"), (2, u "bounds"), (0, u "Ljava/util/Optional;"), (39, .class_ 76), (0, u "com/example/tierpath/tierpath/Hierarchy$Built"), (0, .class_ 78), (0, u "com/example/tierpath/tierpath/Hierarchy$LeafGraphs"), (99, .class_ 179), (0, u "com/example/tierpath/tierpath/Hierarchy$Changed"), (41, u "prefixSums"), (0, u "([I)I"), (170, u "MAX_LEVELS"), (2, u "BYTES_PER_NODE"), (1, u "MAX_ARRAY"), (0, u "J")] 82

def k2c0 : Code := { maxStack := 6, maxLocals := 2, code := prog_39_method_26_code, exceptionTable := #[], attributes := #[] }
def k2m0 : Method := { name := "prefixSums", desc := "([I)I", sig := { parameters := [(.array .int)], returnType := some .int }, accessFlags := 8, code := some k2c0 }
/-- com/example/tierpath/tierpath/Hierarchy -/
def k2 : Class := { plain "com/example/tierpath/tierpath/Hierarchy" (some 0) with
  accessFlags := 49
  interfaces := #[]
  cf := some (fileOf pool2 10 #[.nestMembers #[178, 75, 77]] #[{ accessFlags := 8, nameIndex := 221, descriptorIndex := 222, attributes := #[] }] 49 16 #[] #[{ accessFlags := 25, nameIndex := 393, descriptorIndex := 27, attributes := #[] }, { accessFlags := 25, nameIndex := 396, descriptorIndex := 27, attributes := #[] }, { accessFlags := 26, nameIndex := 398, descriptorIndex := 399, attributes := #[] }, { accessFlags := 18, nameIndex := 22, descriptorIndex := 23, attributes := #[] }, { accessFlags := 18, nameIndex := 26, descriptorIndex := 27, attributes := #[] }, { accessFlags := 18, nameIndex := 30, descriptorIndex := 31, attributes := #[] }, { accessFlags := 18, nameIndex := 34, descriptorIndex := 35, attributes := #[] }])
  fields := #[{ name := "MAX_LEVELS", type := .int, accessFlags := 25, slot := 0, constantValue := 0 }, { name := "BYTES_PER_NODE", type := .int, accessFlags := 25, slot := 1, constantValue := 0 }, { name := "MAX_ARRAY", type := .long, accessFlags := 26, slot := 2, constantValue := 0 }, { name := "bisection", type := (.object "com/example/tierpath/tierpath/Bisection"), accessFlags := 18, slot := 0, constantValue := 0 }, { name := "levels", type := .int, accessFlags := 18, slot := 1, constantValue := 0 }, { name := "source", type := (.object "com/example/tierpath/tierpath/CellSource"), accessFlags := 18, slot := 2, constantValue := 0 }, { name := "bounds", type := (.object "java/util/Optional"), accessFlags := 18, slot := 3, constantValue := 0 }]
  methods := #[k2m0]
  instanceTypes := #[(.object "com/example/tierpath/tierpath/Bisection"), .int, (.object "com/example/tierpath/tierpath/CellSource"), (.object "java/util/Optional")]
  staticTypes := #[.int, .int, .long]
  resolved := Array.replicate 482 none
  statics := none }

def pool3 : Array CpInfo := pool [(1, u "java/lang/Cloneable"), (0, .class_ 1), (0, u "java/lang/Object"), (0, .class_ 3)] 3

/-- java/lang/Cloneable -/
def k3 : Class := { plain "java/lang/Cloneable" (some 0) with
  accessFlags := 1537
  interfaces := #[]
  cf := some (fileOf pool3 2 #[] #[] 1537 4 #[] #[])
  fields := #[]
  methods := #[]
  instanceTypes := #[]
  staticTypes := #[]
  resolved := Array.replicate 8 none
  statics := none }

def pool4 : Array CpInfo := pool [(1, u "java/io/Serializable"), (0, .class_ 1), (0, u "java/lang/Object"), (0, .class_ 3)] 3

/-- java/io/Serializable -/
def k4 : Class := { plain "java/io/Serializable" (some 0) with
  accessFlags := 1537
  interfaces := #[]
  cf := some (fileOf pool4 2 #[] #[] 1537 4 #[] #[])
  fields := #[]
  methods := #[]
  instanceTypes := #[]
  staticTypes := #[]
  resolved := Array.replicate 8 none
  statics := none }

/-- the primitive byte -/
def k5 : Class := { plain "byte" none with kind := .primitive 'B', accessFlags := 0x411 }
/-- [B -/
def k6 : Class := { plain "[B" (some 0) with kind := .array 5 .byte, interfaces := #[3, 4], accessFlags := 1041 }

/-- the primitive int -/
def k7 : Class := { plain "int" none with kind := .primitive 'I', accessFlags := 0x411 }
/-- [I -/
def k8 : Class := { plain "[I" (some 0) with kind := .array 7 .int, interfaces := #[3, 4], accessFlags := 1041 }

def heap : Heap := #[]
def classes : Array Class := #[k0, k1, k2, k3, k4, k5, k6, k7, k8]
def interned : List (Array UInt16 × Addr) := []
def slotsUsed : Nat := 0
def theMethod : MethodId := ⟨1, 1⟩
def args0 : Array Value := #[.int 10, .int 17, .int 24, .int 31, .int 38, .int 45]
def aboutOver (below : List Frame) : State where
  vm := { classes := classes, interned := interned.toArray }
  heap := heap
  slotsUsed := slotsUsed
  threads := #[{ frames := .invoking theMethod args0 :: below }]
def below0 : List Frame := [.native { method := ⟨0, 0⟩, args := #[] }]
def about1 : State := aboutOver below0
def p0 : Program := .bare "" "" ""
def e0 : Env := launch0.env 0 0 0
theorem w_frames : about1.frames = Frame.invoking theMethod args0 :: below0 := rfl
set_option maxRecDepth 65536 in
theorem w_args : argsFit about1.vm theMethod args0 = true := by decide +kernel
set_option maxRecDepth 65536 in
theorem w_heap : heapFits about1 = true := by decide +kernel
set_option maxRecDepth 65536 in
theorem w_runnable : about1.curStatus? = some .runnable := by decide +kernel
set_option maxRecDepth 65536 in
theorem w_alone : about1.alone = true := by decide +kernel
set_option maxRecDepth 65536 in
theorem w_named : about1.methodNamed? x = some theMethod := by decide +kernel
set_option maxRecDepth 65536 in
theorem w_hears : about1.hears theMethod below0 = true := by decide +kernel
set_option maxRecDepth 65536 in
theorem w_ripe : about1.ripe theMethod args0 below0 = true := by decide +kernel
theorem w_running : about1.status = .running := rfl
set_option maxRecDepth 65536 in
theorem w_room : about1.hasRoom e0.platform room_1 = true :=
  launch0.hasRoom_least _ room_1 (by decide +kernel) (by decide +kernel) (by decide +kernel) (by decide +kernel) (by decide +kernel) (by decide +kernel)
theorem allAtoms_all (ts : List Jvm.Cond) (a : Array Jvm.Value) (st : Jvm.State) : (allAtoms ts).before a st = ts.all (fun c => c.before a st) := by
  induction ts with
  | nil => rfl
  | cons c t ih =>
    show (Jvm.Cond.and c (allAtoms t)).before a st = _
    rw [Jvm.Cond.before_and, ih, List.all_cons]
def words1 : List Jvm.Cond := Jvm.Cond.code x code maxLocals ret :: tables_1
/-- a 'code' word, met by the world's own term for the bytes: nothing is compared byte by byte -/
theorem code_word {y : MethodName} {bytes : ByteArray} {mx : Nat} {rt : Option FieldType} {a : Array Value} {s : State} {m : MethodId} {meth : Method} {c : Code} (h1 : s.methodNamed? y = some m) (h2 : s.vm.method? m = some meth) (h3 : meth.code = some c) (h4 : c.code = bytes)
    (h5 : (c.maxLocals == mx && c.exceptionTable.isEmpty && decide (c.maxStack ≤ mostOperands) && decide (meth.sig.returnType = rt) && !meth.locks && decide (parseMethodDescriptor y.desc = some meth.sig)) = true) : (Jvm.Cond.code y bytes mx rt).before a s = true := by
  simp only [Bool.and_eq_true, beq_iff_eq, Bool.not_eq_true', decide_eq_true_eq] at h5
  obtain ⟨⟨⟨⟨⟨g1, g2⟩, g3⟩, g4⟩, g5⟩, g6⟩ := h5
  simp [Cond.before, Cond.holds, Cond.value, h1, h2, h3, h4, g1, g2, g3, g4, g5, g6]
def isCode : Jvm.Cond → Bool
  | .code _ _ _ _ => true
  | _ => false
theorem all_split {L : List Jvm.Cond} {P : Jvm.Cond → Bool} (h1 : L.all (fun c => isCode c || P c) = true) (h2 : ∀ c ∈ L.filter isCode, P c = true) : L.all P = true := by
  refine List.all_eq_true.mpr fun c hc => ?_
  have h := List.all_eq_true.mp h1 c hc
  rcases Bool.eq_false_or_eq_true (isCode c) with hi | hi
  · exact h2 c (List.mem_filter.mpr ⟨hc, hi⟩)
  · simpa [hi] using h
set_option maxRecDepth 65536 in
theorem w_c0 : (Jvm.Cond.code x code maxLocals ret).before args0 about1 = true := code_word (m := ⟨1, 1⟩) (meth := k1m1) (c := k1c1) (by decide +kernel) rfl rfl rfl (by decide +kernel)
set_option maxRecDepth 65536 in
theorem w_c1 : (Jvm.Cond.code ({ cls := "com/example/tierpath/tierpath/Hierarchy", name := "prefixSums", desc := "([I)I" } : Jvm.MethodName) prog_39_method_26_code (2 : Nat) (Option.some Jvm.ClassFile.FieldType.int)).before args0 about1 = true := code_word (m := ⟨2, 0⟩) (meth := k2m0) (c := k2c0) (by decide +kernel) rfl rfl rfl (by decide +kernel)
def codes1 : List Jvm.Cond := [Jvm.Cond.code x code maxLocals ret, Jvm.Cond.code ({ cls := "com/example/tierpath/tierpath/Hierarchy", name := "prefixSums", desc := "([I)I" } : Jvm.MethodName) prog_39_method_26_code (2 : Nat) (Option.some Jvm.ClassFile.FieldType.int)]
set_option maxRecDepth 65536 in
theorem codes_eq : words1.filter isCode = codes1 := rfl
theorem w_codes : ∀ c ∈ words1.filter isCode, c.before args0 about1 = true := by
  rw [codes_eq]
  intro c hc
  simp only [codes1, List.mem_cons, List.not_mem_nil, or_false] at hc
  rcases hc with rfl | rfl
  · exact w_c0
  · exact w_c1
set_option maxRecDepth 65536 in
theorem w_t1 : words1.all (fun c => isCode c || c.before args0 about1) = true := by decide +kernel
theorem w_tables : (allAtoms (Jvm.Cond.code x code maxLocals ret :: tables_1)).before args0 about1 = true := by
  rw [allAtoms_all]
  show words1.all (fun c => c.before args0 about1) = true
  refine all_split ?_ w_codes
  rw [w_t1]
set_option maxRecDepth 65536 in
theorem w_case : (Jvm.Cond.and given_1 narrow_1).before args0 about1 = true := by decide +kernel
theorem w_applies : (headSpec (Jvm.Cond.code x code maxLocals ret :: tables_1) room_1).applies x e0.platform about1 = true :=
  (Spec.applies_iff w_frames).mpr ⟨w_running, w_runnable, w_alone, w_named, w_hears, w_ripe, w_room, w_tables⟩
theorem atStart : AtStart classFile x code maxLocals ret World_1 tables_1 room_1 Calls_1 rest_1 Pre_1 launch0 p0 e0 about1 theMethod args0 below0 :=
  ⟨lists_1, trivial, launch0.admits_env _ _ _, launch0.least_env, fairChoices_fair.cas, fairChoices_fair.clock, w_frames, w_args, w_heap, w_applies, trivial, trivial, w_case⟩
end start1
theorem witness_1 : WitnessClaimed_1 := ⟨start1.p0, start1.e0, start1.about1, start1.theMethod, start1.args0, start1.below0, start1.atStart⟩
end Jvm.Pilot.@@N@@
