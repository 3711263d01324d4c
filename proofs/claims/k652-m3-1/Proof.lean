import JvmDerived
import JvmDerived.Pilot.@@N@@Statement
import JvmDerived.Pilot.@@N@@Code
set_option linter.unusedVariables false
set_option linter.unusedSimpArgs false
namespace Jvm.Pilot.@@N@@
open Jvm Jvm.ClassFile Sem Op Lib Jvm.Free Jvm.Stand Jvm.LawKit Jvm.RoadKit Bundle Jvm.Pilot.@@N@@.Jvm.D
section OwnLayer
/-- the run from A ends, and P holds of how it ends -/
def own_Ends (tb : Tables) (e : Env) (below : List Frame) (P : Outcome → State → Prop) (A : State) : Prop :=
  ∃ s₂ o, Steps tb e below A s₂ ∧ s₂.status = .running ∧ Ended s₂ below o ∧ P o s₂
theorem own_st {tb : Tables} {e : Env} {below : List Frame} {P : Outcome → State → Prop} {A B : State} (h : ∀ t, Steps tb e below B t → Steps tb e below A t) (k : own_Ends tb e below P B) : own_Ends tb e below P A := by
  obtain ⟨s2, o, h1, h2⟩ := k
  exact ⟨s2, o, h _ h1, h2⟩
/-- where the walk stands: the state T, its heap h, k cells and n slots made, nothing below n0 written -/
def own_S (p : Program) (l : Launch) (e : Env) (R : Room) (s : State) (m : MethodId) (args : Array Value) (below : List Frame) (meth : Method) (c : Code) (n0 : Nat) (T : State) (h : Heap) (k n : Nat) : Prop :=
  ∃ locs, Stand p l e R s m args below meth c T locs k n ∧ T.heap = h ∧ Fr n0 locs
def own_P (s : State) (n0 : Nat) (Qf : Option Value → Heap → Prop) (C S : Nat) (o : Outcome) (U' : State) : Prop := ∃ v L, o = .returned v ∧ (Fr n0 L ∧ Qf v U'.heap) ∧ FrameEnd s o U' L C S
/-- a body's contract: called with 'as' at the heap h0 it returns, and Qf holds of what it returns and of the heap -/
def own_Con (l : Launch) (Z : State) (y : MethodName) (bytes : ByteArray) (maxL : Nat) (ret : Option FieldType) (ws : List Jvm.Cond) (rm : Room) (as' : Array Value) (h0 : Heap) (n0 : Nat) (Qf : Option Value → Heap → Prop) : Prop :=
  MetFree l y (head1 (Jvm.Cond.code y bytes maxL ret :: ws) rm) (fun a U => a = as' ∧ Z.Warmed39 U.vm ∧ U.heap = h0) (fun _ _ _ _ _ => True) (fun _ U o U' => ∃ v L, o = .returned v ∧ (Fr n0 L ∧ Qf v U'.heap) ∧ FrameEnd U o U' L rm.cells rm.slots)
variable {p : Program} {l : Launch} {e : Env} {R : Room} {s : State} {m : MethodId} {args : Array Value} {below : List Frame} {meth : Method} {c : Code} {n0 : Nat} {T : State} {h : Heap} {k n : Nat} {Z : State} {a0 : Array Value} {P : Outcome → State → Prop}
theorem own_here (Y : own_S p l e R s m args below meth c n0 T h k n) : At T m c below := by
  obtain ⟨_, X, -⟩ := Y
  exact X.here
theorem own_body {y : MethodName} {bytes : ByteArray} {maxL : Nat} {ret : Option FieldType} {ws : List Jvm.Cond} {rm : Room} {as' : Array Value} {h0 : Heap} {Qf : Option Value → Heap → Prop} (hpn : plainFor y = true)
    (hbody : ∀ (p : Program) (e : Env) (s : State) (m : MethodId) (below : List Frame) (meth : Method) (c : Code) (T : State), p.tables.exec = Jvm.exec → Z.Warmed39 s.vm → c.code = bytes → c.maxLocals = maxL → s.vm.findClass y.cls = some m.cls → meth.name = y.name → meth.sig.returnType = ret → meth.locks = false →
      own_S p l e rm s m as' below meth c n0 T h0 0 0 → own_Ends p.tables e below (own_P s n0 Qf rm.cells rm.slots) (T.setTop (entryFrame m as' maxL))) : own_Con l Z y bytes maxL ret ws rm as' h0 n0 Qf := by
  refine MetFree.of_bodySF hpn hisR ?_
  intro p e s m args below meth c s₁ Bd hml0 hP hK
  obtain ⟨rfl, hZ, hh⟩ := hP
  have hown : s.vm.findClass y.cls = some m.cls := findClass_of_methodNamed Bd.named
  have hnm := (name_of_methodNamed Bd.named Bd.method).1
  exact hbody p e s m below meth c s₁ Bd.exec hZ Bd.bytes hml0 hown hnm Bd.returns Bd.notSynchronized ⟨[], Stand.of_body Bd, by rw [← hh, Bd.state]; rfl, Fr.nil n0⟩
theorem own_leave (Y : own_S p l e R s m args below meth c n0 T h k n) (hlk : meth.locks = false) {v : Option Value} (hv : meth.sig.returnType = none → v = none) {Qf : Option Value → Heap → Prop} {C S : Nat} (hk : k ≤ C) (hn : n ≤ S) (hQ : Qf v h) {A : State}
    (st : ∀ (locs : List Loc) (fs : List Frame), Stand p l e R s m args below meth c T locs k n → (∀ (f : JFrame) (acts : List Action), f.method = m → f.locked = none → f.entered = [] → (doReturn e (T.setTop f) acts v).1 = T.setFrames fs) → Steps p.tables e below A (T.setFrames fs)) : own_Ends p.tables e below (own_P s n0 Qf C S) A := by
  obtain ⟨locs, X, e1, N⟩ := Y
  obtain ⟨fs, hr, hrun, hended, hW, hsame⟩ := X.leave hv hlk
  refine ⟨_, _, st locs fs X hr, hrun, hended, v, locs, rfl, ⟨N, ?_⟩, ⟨_, rfl⟩, hW, hsame.mono hk hn⟩
  show Qf v T.heap
  rw [e1]; exact hQ
theorem own_ret (Y : own_S p l e R s m args below meth c n0 T h k n) (hx : p.tables.exec = Jvm.exec) (hlk : meth.locks = false) {pc : Nat} {Ls : Array Slot} {w : Value} {t : FieldType} {i : Instr} {rest : List Value} (hret : meth.sig.returnType = some t) (hd : decode c.code pc = .ok (i, 1)) (hn : narrow t w = w)
    (hi : (i = .ireturn ∧ (t = .int ∨ t = .boolean ∨ t = .byte ∨ t = .char ∨ t = .short) ∧ ∃ z, w = .int z) ∨ (i = .lreturn ∧ t = .long ∧ ∃ z, w = .long z) ∨ (i = .dreturn ∧ t = .double ∧ ∃ z, w = .double z) ∨ (i = .freturn ∧ t = .float ∧ ∃ z, w = .float z) ∨ (i = .areturn ∧ t.isReference = true ∧ w.isRef = true))
    {Qf : Option Value → Heap → Prop} {C S : Nat} (hk : k ≤ C) (hs : n ≤ S) (hQ : Qf (some w) h) : own_Ends p.tables e below (own_P s n0 Qf C S) (T.setTop (mkF m pc Ls (w :: rest))) :=
  own_leave Y hlk (fun q => by rw [hret] at q; cases q) hk hs hQ fun _ _ X hr => retOut X hx hret hn hi hd hr
theorem own_retI (Y : own_S p l e R s m args below meth c n0 T h k n) (hx : p.tables.exec = Jvm.exec) (hlk : meth.locks = false) {pc : Nat} {Ls : Array Slot} {z : Int32} {rest : List Value} (hret : meth.sig.returnType = some .int) (hd : decode c.code pc = .ok (.ireturn, 1))
    {Qf : Option Value → Heap → Prop} {C S : Nat} (hk : k ≤ C) (hs : n ≤ S) (hQ : Qf (some (.int z)) h) : own_Ends p.tables e below (own_P s n0 Qf C S) (T.setTop (mkF m pc Ls (.int z :: rest))) :=
  own_ret Y hx hlk hret hd rfl (Or.inl ⟨rfl, Or.inl rfl, _, rfl⟩) hk hs hQ
theorem own_retN (Y : own_S p l e R s m args below meth c n0 T h k n) (hx : p.tables.exec = Jvm.exec) (hlk : meth.locks = false) {pc : Nat} {Ls : Array Slot} {z : Int32} {t : FieldType} {rest : List Value} (hret : meth.sig.returnType = some t) (ht : t = .boolean ∨ t = .byte ∨ t = .char ∨ t = .short) (hd : decode c.code pc = .ok (.ireturn, 1))
    {Qf : Option Value → Heap → Prop} {C S : Nat} (hk : k ≤ C) (hs : n ≤ S) (hQ : Qf (some (.int (nar t z))) h) : own_Ends p.tables e below (own_P s n0 Qf C S) (T.setTop (mkF m pc Ls (.int z :: rest))) :=
  own_leave Y hlk (fun q => by rw [hret] at q; cases q) hk hs hQ fun _ _ X hr => retN X hx hret ht hd hr
theorem own_retJ (Y : own_S p l e R s m args below meth c n0 T h k n) (hx : p.tables.exec = Jvm.exec) (hlk : meth.locks = false) {pc : Nat} {Ls : Array Slot} {z : Int64} {rest : List Value} (hret : meth.sig.returnType = some .long) (hd : decode c.code pc = .ok (.lreturn, 1))
    {Qf : Option Value → Heap → Prop} {C S : Nat} (hk : k ≤ C) (hs : n ≤ S) (hQ : Qf (some (.long z)) h) : own_Ends p.tables e below (own_P s n0 Qf C S) (T.setTop (mkF m pc Ls (.long z :: rest))) :=
  own_ret Y hx hlk hret hd rfl (Or.inr (Or.inl ⟨rfl, rfl, _, rfl⟩)) hk hs hQ
theorem own_retA (Y : own_S p l e R s m args below meth c n0 T h k n) (hx : p.tables.exec = Jvm.exec) (hlk : meth.locks = false) {pc : Nat} {Ls : Array Slot} {w : Value} {t : FieldType} {rest : List Value} (hret : meth.sig.returnType = some t) (ht : t.isReference = true) (hw : w.isRef = true) (hn : narrow t w = w) (hd : decode c.code pc = .ok (.areturn, 1))
    {Qf : Option Value → Heap → Prop} {C S : Nat} (hk : k ≤ C) (hs : n ≤ S) (hQ : Qf (some w) h) : own_Ends p.tables e below (own_P s n0 Qf C S) (T.setTop (mkF m pc Ls (w :: rest))) :=
  own_ret Y hx hlk hret hd hn (Or.inr (Or.inr (Or.inr (Or.inr ⟨rfl, ht, hw⟩)))) hk hs hQ
theorem own_retV (Y : own_S p l e R s m args below meth c n0 T h k n) (hx : p.tables.exec = Jvm.exec) (hlk : meth.locks = false) {pc : Nat} {Ls : Array Slot} (hret : meth.sig.returnType = none) (hd : decode c.code pc = .ok (.return_, 1))
    {Qf : Option Value → Heap → Prop} {C S : Nat} (hk : k ≤ C) (hs : n ≤ S) (hQ : Qf none h) : own_Ends p.tables e below (own_P s n0 Qf C S) (T.setTop (mkF m pc Ls [])) :=
  own_leave Y hlk (fun _ => rfl) hk hs hQ fun _ _ X hr => X.returnOut hx hret hd hr
/-! fields -/
theorem own_getF (Y : own_S p l e R s m args below meth c n0 T h k n) (hx : p.tables.exec = Jvm.exec) (hZ : Z.Warmed39 s.vm) {own R0 O f d host : String} {index : Nat} (hown : s.vm.findClass own = some m.cls) (w : (Jvm.Cond.fieldLink own index R0 f d).before a0 Z = true ∨ (Jvm.Cond.fieldLinkNest own index R0 f d host).before a0 Z = true) (via : Via Z R0 O f d) {a : Addr} {v : Value} (F : Fld Z h a O f d v)
    {g : JFrame} (hg : g.method = m) {rest : List Value} (hs : g.stack = .ref a :: rest) (hd : decode c.code g.pc = .ok (.getfield index, 3)) (K : ∀ T', own_S p l e R s m args below meth c n0 T' h k n → own_Ends p.tables e below P (T'.setTop { g with pc := g.pc + 3, stack := v :: rest })) : own_Ends p.tables e below P (T.setTop g) := by
  obtain ⟨locs, X, e1, N⟩ := Y
  obtain ⟨T', X', e', st⟩ := getF X hx hZ hown w via e1 F hg hs hd
  exact own_st st (K T' ⟨locs, X', e', N⟩)
theorem own_putF (Y : own_S p l e R s m args below meth c n0 T h k n) (hx : p.tables.exec = Jvm.exec) (hZ : Z.Warmed39 s.vm) {own R0 O f d host C : String} {index kk : Nat} {ty : FieldType} (hown : s.vm.findClass own = some m.cls) (w : (Jvm.Cond.fieldLink own index R0 f d).before a0 Z = true ∨ (Jvm.Cond.fieldLinkNest own index R0 f d host).before a0 Z = true) (via : Via Z R0 O f d) {a : Addr} {v old : Value} (F : Fld Z h a O f d old) (E : Exa Z h a C)
    (L : (Jvm.Cond.lays C O f d).before a0 Z = true ∨ ((Jvm.Cond.laysFinal C O f d).before a0 Z = true ∧ own = O ∧ meth.name = "<init>")) (wi : (Jvm.Cond.instantiable C kk).before a0 Z = true) (ha : n0 ≤ a) (hty : parseFieldDescriptor d = some ty) (hn : narrow ty v = v) (hf : fits ty v = true) {g : JFrame} (hg : g.method = m) {rest : List Value} (hs : g.stack = v :: .ref a :: rest) (hd : decode c.code g.pc = .ok (.putfield index, 3))
    (K : ∀ T' h', own_S p l e R s m args below meth c n0 T' h' k n → Wr h h' a (Jvm.RoadKit.slotOf Z O f d) v → Fld Z h' a O f d v → own_Ends p.tables e below P (T'.setTop { g with pc := g.pc + 3, stack := rest })) : own_Ends p.tables e below P (T.setTop g) := by
  obtain ⟨locs, X, e1, N⟩ := Y
  obtain ⟨T', h', X', e', W, st⟩ := putF X hx hZ hown w via e1 F E L wi hty hn hf hg hs hd
  exact own_st st (K T' h' ⟨_, X', e', Fr.snoc X' N ha⟩ W (F.same W))
theorem own_putFN (Y : own_S p l e R s m args below meth c n0 T h k n) (hx : p.tables.exec = Jvm.exec) (hZ : Z.Warmed39 s.vm) {own R0 O f d C : String} {index kk : Nat} {ty : FieldType} (hown : s.vm.findClass own = some m.cls) (w : (Jvm.Cond.fieldLink own index R0 f d).before a0 Z = true) (via : Via Z R0 O f d) {a : Addr} {v v' old : Value} (F : Fld Z h a O f d old) (E : Exa Z h a C)
    (L : (Jvm.Cond.lays C O f d).before a0 Z = true ∨ ((Jvm.Cond.laysFinal C O f d).before a0 Z = true ∧ own = O ∧ meth.name = "<init>")) (wi : (Jvm.Cond.instantiable C kk).before a0 Z = true) (ha : n0 ≤ a) (hty : parseFieldDescriptor d = some ty) (hn : narrow ty v = v') (hf : fits ty v' = true) {g : JFrame} (hg : g.method = m) {rest : List Value} (hs : g.stack = v :: .ref a :: rest) (hd : decode c.code g.pc = .ok (.putfield index, 3))
    (K : ∀ T' h', own_S p l e R s m args below meth c n0 T' h' k n → Wr h h' a (Jvm.RoadKit.slotOf Z O f d) v' → Fld Z h' a O f d v' → own_Ends p.tables e below P (T'.setTop { g with pc := g.pc + 3, stack := rest })) : own_Ends p.tables e below P (T.setTop g) := by
  obtain ⟨locs, X, e1, N⟩ := Y
  obtain ⟨T', h', X', e', W, st⟩ := putFN X hx hZ hown w via e1 F E L wi hty hn hf hg hs hd
  exact own_st st (K T' h' ⟨_, X', e', Fr.snoc X' N ha⟩ W (F.same W))
theorem own_getS (Y : own_S p l e R s m args below meth c n0 T h k n) (hx : p.tables.exec = Jvm.exec) (hZ : Z.Warmed39 s.vm) {own R0 O f d host : String} {index : Nat} (hown : s.vm.findClass own = some m.cls) (w : (Jvm.Cond.fieldLink own index R0 f d).before a0 Z = true ∨ (Jvm.Cond.fieldLinkNest own index R0 f d host).before a0 Z = true) (via : Via Z R0 O f d) {v : Value} (F : Sta Z h O f d v)
    {g : JFrame} (hg : g.method = m) (hd : decode c.code g.pc = .ok (.getstatic index, 3)) (K : ∀ T', own_S p l e R s m args below meth c n0 T' h k n → own_Ends p.tables e below P (T'.setTop { g with pc := g.pc + 3, stack := v :: g.stack })) : own_Ends p.tables e below P (T.setTop g) := by
  obtain ⟨locs, X, e1, N⟩ := Y
  obtain ⟨T', X', e', st⟩ := getS2 X hx hZ hown w via e1 F hg hd
  exact own_st st (K T' ⟨locs, X', e', N⟩)
/-! new objects -/
theorem own_new (Y : own_S p l e R s m args below meth c n0 T h k n) (hx : p.tables.exec = Jvm.exec) (hZ : Z.Warmed39 s.vm) {own C : String} {index nn : Nat} (hown : s.vm.findClass own = some m.cls) (w : (Jvm.Cond.classLink own index C).before a0 Z = true) (wi : (Jvm.Cond.instantiable C nn).before a0 Z = true) (wz : (Jvm.Cond.initialized C).before a0 Z = true)
    {g : JFrame} (hg : g.method = m) (hd : decode c.code g.pc = .ok (.new index, 3)) (hc : k + 1 ≤ R.cells) (hl : n + nn ≤ R.slots)
    (K : ∀ T' h' b, b = h.size → own_S p l e R s m args below meth c n0 T' h' (k + 1) (n + nn) → Ext h h' → Exa Z h' b C → (∀ (O nm d : String) (ty : FieldType), Laid Z a0 C O nm d → parseFieldDescriptor d = some ty → Fld Z h' b O nm d (defaultValue ty)) →
      own_Ends p.tables e below P (T'.setTop { g with pc := g.pc + 3, stack := .ref b :: g.stack })) : own_Ends p.tables e below P (T.setTop g) := by
  obtain ⟨locs, X, e1, N⟩ := Y
  obtain ⟨T', h', X', e', E, A, D, -, st⟩ := newO X hx hZ hown w wi wz e1 hg hd hc hl
  exact own_st st (K T' h' _ rfl ⟨locs, X', e', N⟩ E A (fun _ _ _ _ q r => D q r))
theorem own_initO (Y : own_S p l e R s m args below meth c n0 T h k n) (hx : p.tables.exec = Jvm.exec) (hZ : Z.Warmed39 s.vm) {own : String} {idx : Nat} (hown : s.vm.findClass own = some m.cls) (w1 : (Jvm.Cond.methodLink own idx Lib.objectInit).before a0 Z = true) (w2 : (Jvm.Cond.instanceMethod Lib.objectInit).before a0 Z = true) (w3 : (Jvm.Cond.code Lib.objectInit ⟨#[0xb1]⟩ 1 none).before a0 Z = true)
    {g : JFrame} (hg : g.method = m) (hsize : g.locals.size = c.maxLocals) {a : Addr} {rest : List Value} (hs : g.stack = .ref a :: rest) (hd : decode c.code g.pc = .ok (.invokespecial idx, 3)) (hf : 1 ≤ R.frames) {W : Nat} (hW : 2 * g.monitorRoom + (rest.map fun v => v.category).sum ≤ W) (hl : W + 12 ≤ R.locals)
    (K : ∀ T', own_S p l e R s m args below meth c n0 T' h k n → own_Ends p.tables e below P (T'.setTop { g with pc := g.pc + 3, stack := rest })) : own_Ends p.tables e below P (T.setTop g) := by
  obtain ⟨locs, X, e1, N⟩ := Y
  obtain ⟨T', X', e', st⟩ := initO X hx hZ hown w1 w2 w3 e1 hg hsize hs hd hf hW hl
  exact own_st st (K T' ⟨locs, X', e', N⟩)
/-! arrays: the cell's slots are the list vs -/
def own_A (Z : State) (h : Heap) (a : Addr) (ty : FieldType) (vs : List Value) : Prop := ∃ c : Cell, Arr Z h a c ty ∧ c.slots.toList = vs ∧ vs.length < 2 ^ 31
theorem own_A.lt {a : Addr} {ty : FieldType} {vs : List Value} (A : own_A Z h a ty vs) : a < h.size := by obtain ⟨c, A, -⟩ := A; exact A.lt
theorem own_A.ext {h' : Heap} {a : Addr} {ty : FieldType} {vs : List Value} (A : own_A Z h a ty vs) (E : Ext h h') : own_A Z h' a ty vs := by obtain ⟨c, A, r⟩ := A; exact ⟨c, A.ext E, r⟩
theorem own_A.other {h' : Heap} {a b : Addr} {sl : Nat} {v : Value} {ty : FieldType} {vs : List Value} (A : own_A Z h a ty vs) (W : Wr h h' b sl v) (q : a ≠ b) : own_A Z h' a ty vs := by obtain ⟨c, A, r⟩ := A; exact ⟨c, A.other W q, r⟩
theorem own_A.keep {h' : Heap} {a : Addr} {ws : List Addr} {ty : FieldType} {vs : List Value} (A : own_A Z h a ty vs) (K : Keep h h' ws) (q : a ∉ ws) : own_A Z h' a ty vs := by obtain ⟨c, A, r⟩ := A; exact ⟨c, ⟨K.2.1 a c A.1 q, A.2⟩, r⟩
theorem own_sz {c : Cell} {vs : List Value} (q : c.slots.toList = vs) : c.slots.size = vs.length := by rw [← q]; simp
theorem own_in {c : Cell} {vs : List Value} {j : Int32} {i : Nat} (q : c.slots.toList = vs) (hj : ¬ j < 0) (hi : j.toNatClampNeg = i) (hl : i < vs.length) : ¬ (j < 0 ∨ c.slots.size ≤ j.toNatClampNeg) := by
  rw [own_sz q, hi]; intro z; rcases z with z | z
  · exact hj z
  · omega
theorem own_get {c : Cell} {vs : List Value} {j : Int32} {i : Nat} {v : Value} (q : c.slots.toList = vs) (hi : j.toNatClampNeg = i) (hv : vs[i]? = some v) : c.slots[j.toNatClampNeg]? = some v := by
  rw [hi, ← Array.getElem?_toList, q, hv]
theorem own_A.set {h' : Heap} {a : Addr} {ty : FieldType} {vs : List Value} {cl : Cell} {i : Nat} {v : Value} (A : Arr Z h a cl ty) (q : cl.slots.toList = vs) (hl : vs.length < 2 ^ 31) (W : Wr h h' a i v) : own_A Z h' a ty (vs.set i v) :=
  ⟨_, A.same W, by simp [Cell.setSlot, q], by simpa using hl⟩
theorem own_newP (Y : own_S p l e R s m args below meth c n0 T h k n) (hx : p.tables.exec = Jvm.exec) (hZ : Z.Warmed39 s.vm) {aty : ArrayType} (w : (Jvm.Cond.arrayClass (newarray.typeOf aty)).before a0 Z = true) {g : JFrame} (hg : g.method = m) (hd : decode c.code g.pc = .ok (.newarray aty, 2)) {z : Int32} {rest : List Value} (hs : g.stack = .int z :: rest)
    (hz : ¬ z < 0) {nz cap : Nat} (hn : z.toNatClampNeg = nz) (hcap : nz ≤ cap) (hb : cap * 8 ≤ 536870912) (hc : k + 1 ≤ R.cells) (hl : n + cap ≤ R.slots) {ty : FieldType} (hty : newarray.typeOf aty = ty)
    (K : ∀ T' h' b, b = h.size → own_S p l e R s m args below meth c n0 T' h' (k + 1) (n + cap) → Ext h h' → own_A Z h' b ty (List.replicate nz (defaultValue ty)) → own_Ends p.tables e below P (T'.setTop { g with pc := g.pc + 2, stack := .ref b :: rest })) : own_Ends p.tables e below P (T.setTop g) := by
  obtain ⟨locs, X, e1, N⟩ := Y
  subst hty
  obtain ⟨T', h', cA, X', e', E, A, st⟩ := newP X hx hZ w e1 hg hd hs hz (cap := cap) (by rw [hn]; exact hcap) hb hc hl
  refine own_st st (K T' h' _ rfl ⟨locs, X', e', N⟩ E ⟨_, A, ?_, ?_⟩)
  · simp [newA, hn]
  · simp; omega
theorem own_newR (Y : own_S p l e R s m args below meth c n0 T h k n) (hx : p.tables.exec = Jvm.exec) (hZ : Z.Warmed39 s.vm) {own C : String} {index : Nat} (hown : s.vm.findClass own = some m.cls) (w1 : (Jvm.Cond.classLink own index C).before a0 Z = true) (w2 : (Jvm.Cond.arrayOver (.object C)).before a0 Z = true) {g : JFrame} (hg : g.method = m) (hd : decode c.code g.pc = .ok (.anewarray index, 3)) {z : Int32} {rest : List Value} (hs : g.stack = .int z :: rest)
    (hz : ¬ z < 0) {nz cap : Nat} (hn : z.toNatClampNeg = nz) (hcap : nz ≤ cap) (hb : cap * 8 ≤ 536870912) (hc : k + 1 ≤ R.cells) (hl : n + cap ≤ R.slots)
    (K : ∀ T' h' b, b = h.size → own_S p l e R s m args below meth c n0 T' h' (k + 1) (n + cap) → Ext h h' → own_A Z h' b (.object C) (List.replicate nz .null) → own_Ends p.tables e below P (T'.setTop { g with pc := g.pc + 3, stack := .ref b :: rest })) : own_Ends p.tables e below P (T.setTop g) := by
  obtain ⟨locs, X, e1, N⟩ := Y
  obtain ⟨T', h', cA, X', e', E, A, O, st⟩ := newR X hx hZ hown w1 w2 e1 hg hd hs hz (cap := cap) (by rw [hn]; exact hcap) hb hc hl
  refine own_st st (K T' h' _ rfl ⟨locs, X', e', N⟩ E ⟨_, A, ?_, ?_⟩)
  · simp [newA, hn, defaultValue]
  · simp; omega
theorem own_mono (Y : own_S p l e R s m args below meth c n0 T h k n) {k' n' : Nat} (hk : k ≤ k') (hn : n ≤ n') : own_S p l e R s m args below meth c n0 T h k' n' := by
  obtain ⟨locs, X, r⟩ := Y
  exact ⟨locs, { X with same := X.same.mono hk hn }, r⟩
theorem own_stI (Y : own_S p l e R s m args below meth c n0 T h k n) (hx : p.tables.exec = Jvm.exec) (hZ : Z.Warmed39 s.vm) {a : Addr} {vs : List Value} (A : own_A Z h a .int vs) (ha : n0 ≤ a) {j x : Int32} {i : Nat} (hj : ¬ j < 0) (hi : j.toNatClampNeg = i) (hl : i < vs.length) {g : JFrame} (hg : g.method = m) {rest : List Value} (hs : g.stack = .int x :: .int j :: .ref a :: rest) (hd : decode c.code g.pc = .ok (.iastore, 1))
    (K : ∀ T' h', own_S p l e R s m args below meth c n0 T' h' k n → Wr h h' a i (.int x) → own_A Z h' a .int (vs.set i (.int x)) → own_Ends p.tables e below P (T'.setTop { g with pc := g.pc + 1, stack := rest })) : own_Ends p.tables e below P (T.setTop g) := by
  obtain ⟨locs, X, e1, N⟩ := Y
  obtain ⟨cl, A, q, r⟩ := A
  obtain ⟨T', h', X', e', W, st⟩ := stI X hx hZ e1 A (own_in q hj hi hl) hg hs hd
  have W' := W; rw [hi] at W'
  exact own_st st (K T' h' ⟨_, X', e', Fr.snoc X' N ha⟩ W' (own_A.set A q r W'))
theorem own_stJ (Y : own_S p l e R s m args below meth c n0 T h k n) (hx : p.tables.exec = Jvm.exec) (hZ : Z.Warmed39 s.vm) {a : Addr} {vs : List Value} (A : own_A Z h a .long vs) (ha : n0 ≤ a) {j : Int32} {x : Int64} {i : Nat} (hj : ¬ j < 0) (hi : j.toNatClampNeg = i) (hl : i < vs.length) {g : JFrame} (hg : g.method = m) {rest : List Value} (hs : g.stack = .long x :: .int j :: .ref a :: rest) (hd : decode c.code g.pc = .ok (.lastore, 1))
    (K : ∀ T' h', own_S p l e R s m args below meth c n0 T' h' k n → Wr h h' a i (.long x) → own_A Z h' a .long (vs.set i (.long x)) → own_Ends p.tables e below P (T'.setTop { g with pc := g.pc + 1, stack := rest })) : own_Ends p.tables e below P (T.setTop g) := by
  obtain ⟨locs, X, e1, N⟩ := Y
  obtain ⟨cl, A, q, r⟩ := A
  obtain ⟨T', h', X', e', W, st⟩ := stJ X hx hZ e1 A (own_in q hj hi hl) hg hs hd
  have W' := W; rw [hi] at W'
  exact own_st st (K T' h' ⟨_, X', e', Fr.snoc X' N ha⟩ W' (own_A.set A q r W'))
theorem own_stB (Y : own_S p l e R s m args below meth c n0 T h k n) (hx : p.tables.exec = Jvm.exec) (hZ : Z.Warmed39 s.vm) {a : Addr} {vs : List Value} (A : own_A Z h a .byte vs) (ha : n0 ≤ a) {j x : Int32} {i : Nat} (hj : ¬ j < 0) (hi : j.toNatClampNeg = i) (hl : i < vs.length) {g : JFrame} (hg : g.method = m) {rest : List Value} (hs : g.stack = .int x :: .int j :: .ref a :: rest) (hd : decode c.code g.pc = .ok (.bastore, 1))
    (K : ∀ T' h', own_S p l e R s m args below meth c n0 T' h' k n → Wr h h' a i (.int x.toInt8.toInt32) → own_A Z h' a .byte (vs.set i (.int x.toInt8.toInt32)) → own_Ends p.tables e below P (T'.setTop { g with pc := g.pc + 1, stack := rest })) : own_Ends p.tables e below P (T.setTop g) := by
  obtain ⟨locs, X, e1, N⟩ := Y
  obtain ⟨cl, A, q, r⟩ := A
  obtain ⟨T', h', X', e', W, st⟩ := stB X hx hZ e1 A (own_in q hj hi hl) hg hs hd
  have W' := W; rw [hi] at W'
  exact own_st st (K T' h' ⟨_, X', e', Fr.snoc X' N ha⟩ W' (own_A.set A q r W'))
theorem own_stC (Y : own_S p l e R s m args below meth c n0 T h k n) (hx : p.tables.exec = Jvm.exec) (hZ : Z.Warmed39 s.vm) {a : Addr} {vs : List Value} (A : own_A Z h a .char vs) (ha : n0 ≤ a) {j x : Int32} {i : Nat} (hj : ¬ j < 0) (hi : j.toNatClampNeg = i) (hl : i < vs.length) {g : JFrame} (hg : g.method = m) {rest : List Value} (hs : g.stack = .int x :: .int j :: .ref a :: rest) (hd : decode c.code g.pc = .ok (.castore, 1))
    (K : ∀ T' h', own_S p l e R s m args below meth c n0 T' h' k n → Wr h h' a i (.int x.toUInt32.toUInt16.toUInt32.toInt32) → own_A Z h' a .char (vs.set i (.int x.toUInt32.toUInt16.toUInt32.toInt32)) → own_Ends p.tables e below P (T'.setTop { g with pc := g.pc + 1, stack := rest })) : own_Ends p.tables e below P (T.setTop g) := by
  obtain ⟨locs, X, e1, N⟩ := Y
  obtain ⟨cl, A, q, r⟩ := A
  obtain ⟨T', h', X', e', W, st⟩ := stC X hx hZ e1 A (own_in q hj hi hl) hg hs hd
  have W' := W; rw [hi] at W'
  exact own_st st (K T' h' ⟨_, X', e', Fr.snoc X' N ha⟩ W' (own_A.set A q r W'))
theorem own_len (Y : own_S p l e R s m args below meth c n0 T h k n) (hx : p.tables.exec = Jvm.exec) (hZ : Z.Warmed39 s.vm) {a : Addr} {ty : FieldType} {vs : List Value} (A : own_A Z h a ty vs) {z : Int32} (hz : vs.length.toInt32 = z) {g : JFrame} (hg : g.method = m) {rest : List Value} (hs : g.stack = .ref a :: rest) (hd : decode c.code g.pc = .ok (.arraylength, 1))
    (K : own_Ends p.tables e below P (T.setTop { g with pc := g.pc + 1, stack := .int z :: rest })) : own_Ends p.tables e below P (T.setTop g) := by
  obtain ⟨locs, X, e1, N⟩ := Y
  obtain ⟨cl, A, q, r⟩ := A
  refine own_st (fun t => X.arraylength hx (by rw [e1]; exact A.1) (State.isArrayOf_alike hZ.alike A.2.1) hg hs hd t) ?_
  rw [own_sz q, hz]; exact K
theorem own_ldI (Y : own_S p l e R s m args below meth c n0 T h k n) (hx : p.tables.exec = Jvm.exec) (hZ : Z.Warmed39 s.vm) {a : Addr} {vs : List Value} (A : own_A Z h a .int vs) {j : Int32} {i : Nat} (hj : ¬ j < 0) (hi : j.toNatClampNeg = i) (hl : i < vs.length) {v : Value} (hv : vs[i]? = some v) {g : JFrame} (hg : g.method = m) {rest : List Value} (hs : g.stack = .int j :: .ref a :: rest) (hd : decode c.code g.pc = .ok (.iaload, 1))
    (K : own_Ends p.tables e below P (T.setTop { g with pc := g.pc + 1, stack := v :: rest })) : own_Ends p.tables e below P (T.setTop g) := by
  obtain ⟨locs, X, e1, N⟩ := Y
  obtain ⟨cl, A, q, r⟩ := A
  exact own_st (fun t => X.iaload hx (by rw [e1]; exact A.1) (State.isArrayOf_alike hZ.alike A.2.1) A.2.2 (own_in q hj hi hl) (own_get q hi hv) hg hs hd t) K
theorem own_ldB (Y : own_S p l e R s m args below meth c n0 T h k n) (hx : p.tables.exec = Jvm.exec) (hZ : Z.Warmed39 s.vm) {a : Addr} {vs : List Value} (A : own_A Z h a .byte vs) {j : Int32} {i : Nat} (hj : ¬ j < 0) (hi : j.toNatClampNeg = i) (hl : i < vs.length) {v : Value} (hv : vs[i]? = some v) {g : JFrame} (hg : g.method = m) {rest : List Value} (hs : g.stack = .int j :: .ref a :: rest) (hd : decode c.code g.pc = .ok (.baload, 1))
    (K : own_Ends p.tables e below P (T.setTop { g with pc := g.pc + 1, stack := v :: rest })) : own_Ends p.tables e below P (T.setTop g) := by
  obtain ⟨locs, X, e1, N⟩ := Y
  obtain ⟨cl, A, q, r⟩ := A
  exact own_st (fun t => X.baloadBytes hx (by rw [e1]; exact A.1) (State.isArrayOf_alike hZ.alike A.2.1) A.2.2 (own_in q hj hi hl) (own_get q hi hv) hg hs hd t) K
theorem own_ldC (Y : own_S p l e R s m args below meth c n0 T h k n) (hx : p.tables.exec = Jvm.exec) (hZ : Z.Warmed39 s.vm) {a : Addr} {vs : List Value} (A : own_A Z h a .char vs) {j : Int32} {i : Nat} (hj : ¬ j < 0) (hi : j.toNatClampNeg = i) (hl : i < vs.length) {v : Value} (hv : vs[i]? = some v) {g : JFrame} (hg : g.method = m) {rest : List Value} (hs : g.stack = .int j :: .ref a :: rest) (hd : decode c.code g.pc = .ok (.caload, 1))
    (K : own_Ends p.tables e below P (T.setTop { g with pc := g.pc + 1, stack := v :: rest })) : own_Ends p.tables e below P (T.setTop g) := by
  obtain ⟨locs, X, e1, N⟩ := Y
  obtain ⟨cl, A, q, r⟩ := A
  exact own_st (fun t => X.caload hx (by rw [e1]; exact A.1) (State.isArrayOf_alike hZ.alike A.2.1) A.2.2 (own_in q hj hi hl) (own_get q hi hv) hg hs hd t) K
theorem own_ldJ (Y : own_S p l e R s m args below meth c n0 T h k n) (hx : p.tables.exec = Jvm.exec) (hZ : Z.Warmed39 s.vm) {a : Addr} {vs : List Value} (A : own_A Z h a .long vs) {j : Int32} {i : Nat} (hj : ¬ j < 0) (hi : j.toNatClampNeg = i) (hl : i < vs.length) {v : Value} (hv : vs[i]? = some v) {g : JFrame} (hg : g.method = m) {rest : List Value} (hs : g.stack = .int j :: .ref a :: rest) (hd : decode c.code g.pc = .ok (.laload, 1))
    (K : own_Ends p.tables e below P (T.setTop { g with pc := g.pc + 1, stack := v :: rest })) : own_Ends p.tables e below P (T.setTop g) := by
  obtain ⟨locs, X, e1, N⟩ := Y
  obtain ⟨cl, A, q, r⟩ := A
  exact own_st (fun t => X.laload hx (by rw [e1]; exact A.1) (State.isArrayOf_alike hZ.alike A.2.1) A.2.2 (own_in q hj hi hl) (own_get q hi hv) hg hs hd t) K
/-! constants -/
theorem own_ldcI (Y : own_S p l e R s m args below meth c n0 T h k n) (hx : p.tables.exec = Jvm.exec) (hZ : Z.Warmed39 s.vm) {own : String} {index : Nat} {v : Int32} (hown : s.vm.findClass own = some m.cls) (w : (Jvm.Cond.constant own index v).before a0 Z = true) {g : JFrame} (hg : g.method = m) (hd : decode c.code g.pc = .ok (.ldc index, 2))
    (K : own_Ends p.tables e below P (T.setTop { g with pc := g.pc + 2, stack := .int v :: g.stack })) : own_Ends p.tables e below P (T.setTop g) := by
  obtain ⟨locs, X, e1, N⟩ := Y
  exact own_st (X.ldcInt hx hown (mvT hZ w) hg hd) K
theorem own_ldcJ (Y : own_S p l e R s m args below meth c n0 T h k n) (hx : p.tables.exec = Jvm.exec) (hZ : Z.Warmed39 s.vm) {own : String} {index : Nat} {v : Int64} (hown : s.vm.findClass own = some m.cls) (w : (Jvm.Cond.constantLong own index v).before a0 Z = true) {g : JFrame} (hg : g.method = m) (hd : decode c.code g.pc = .ok (.ldc2_w index, 3))
    (K : own_Ends p.tables e below P (T.setTop { g with pc := g.pc + 3, stack := .long v :: g.stack })) : own_Ends p.tables e below P (T.setTop g) := by
  obtain ⟨locs, X, e1, N⟩ := Y
  exact own_st (X.ldc2Long hx hown (mvT hZ w) hg hd) K
theorem own_irem (Y : own_S p l e R s m args below meth c n0 T h k n) (hx : p.tables.exec = Jvm.exec) {g : JFrame} (hg : g.method = m) {x y : Int32} {rest : List Value} (hd : decode c.code g.pc = .ok (.irem, 1)) (hs : g.stack = .int y :: .int x :: rest) (hy : y ≠ 0)
    (K : own_Ends p.tables e below P (T.setTop { g with pc := g.pc + 1, stack := .int (x % y) :: rest })) : own_Ends p.tables e below P (T.setTop g) := by
  obtain ⟨locs, X, e1, N⟩ := Y
  exact own_st (fun t => iremM X hx hg hd hs hy) K
/-! calls by contract -/
theorem own_callS (Y : own_S p l e R s m args below meth c n0 T h k n) (hx : p.tables.exec = Jvm.exec) (hZ : Z.Warmed39 s.vm) {own : String} {index : Nat} {y : MethodName} {bytes : ByteArray} {maxL : Nat} {ret : Option FieldType} (hown : s.vm.findClass own = some m.cls) (wl : (Jvm.Cond.methodLink own index y).before a0 Z = true) (wst : (Jvm.Cond.static y).before a0 Z = true) (wi : (Jvm.Cond.initialized y.cls).before a0 Z = true) (wc : (Jvm.Cond.code y bytes maxL ret).before a0 Z = true)
    (hy : y.cls ≠ "java/lang/invoke/MethodHandle" ∧ y.cls ≠ "java/lang/invoke/VarHandle") {rm : Room} {argsL rest : List Value} {Qf : Option Value → Heap → Prop} (hM : own_Con l Z y bytes maxL ret [] rm argsL.toArray h n0 Qf) {W : Nat} (hfr : rm.frames + 1 ≤ R.frames) (hlo : W + (maxL + 11) + rm.locals ≤ R.locals) (hc : k + rm.cells ≤ R.cells) (hsl : n + rm.slots ≤ R.slots)
    {g : JFrame} (hg : g.method = m) (hsize : g.locals.size = c.maxLocals) (hlen : ∀ sig, parseMethodDescriptor y.desc = some sig → argsL.length = sig.parameters.length) (hs : g.stack = argsL.reverse ++ rest) (hW : 2 * g.monitorRoom + (rest.map fun v => v.category).sum ≤ W) (hd : decode c.code g.pc = .ok (.invokestatic index, 3))
    (K : ∀ T' h' v, own_S p l e R s m args below meth c n0 T' h' (k + rm.cells) (n + rm.slots) → Qf v h' → own_Ends p.tables e below P (T'.setTop { g with pc := g.pc + 3, stack := v.toList ++ rest })) : own_Ends p.tables e below P (T.setTop g) := by
  obtain ⟨locs, X, e1, N⟩ := Y
  obtain ⟨v, vm1, ⟨T', L', k', n'⟩, -, X', ⟨L, hQ, l1, y1, z1⟩, st⟩ := Jvm.LawKit.callS X hx hown (mvT hZ wl) (mvT hZ wst) (mvT hZ wi) (mvT hZ wc) hy (backOf (W := W) (Q := fun v h L => Fr n0 L ∧ Qf v h) hM hZ wc wi hfr hlo) hg hsize hlen hs hW hd (fun _ _ => ⟨rfl, e1, hc, hsl⟩)
  dsimp only [Pt.U, Pt.locs, Pt.cells, Pt.slots] at X' l1 y1 z1 st hQ
  subst l1 y1 z1
  exact own_st st (K T' _ v ⟨_, X', rfl, Fr.app N hQ.1⟩ hQ.2)
theorem own_callN (Y : own_S p l e R s m args below meth c n0 T h k n) (hx : p.tables.exec = Jvm.exec) (hZ : Z.Warmed39 s.vm) {own : String} {index : Nat} {y : MethodName} {bytes : ByteArray} {maxL : Nat} (hy1 : y.name = "<init>") (hown : s.vm.findClass own = some m.cls) (wl : (Jvm.Cond.methodLink own index y).before a0 Z = true) (win : (Jvm.Cond.instanceMethod y).before a0 Z = true) (wi : (Jvm.Cond.initialized y.cls).before a0 Z = true) (wc : (Jvm.Cond.code y bytes maxL none).before a0 Z = true)
    (hy : y.cls ≠ "java/lang/invoke/MethodHandle" ∧ y.cls ≠ "java/lang/invoke/VarHandle") {rm : Room} {a : Addr} {argsL rest : List Value} {Qf : Option Value → Heap → Prop} (hM : own_Con l Z y bytes maxL none [] rm (.ref a :: argsL).toArray h n0 Qf) {W : Nat} (hfr : rm.frames + 1 ≤ R.frames) (hlo : W + (maxL + 11) + rm.locals ≤ R.locals) (hc : k + rm.cells ≤ R.cells) (hsl : n + rm.slots ≤ R.slots)
    {g : JFrame} (hg : g.method = m) (hsize : g.locals.size = c.maxLocals) (hlen : ∀ sig, parseMethodDescriptor y.desc = some sig → argsL.length = sig.parameters.length) (hs : g.stack = argsL.reverse ++ .ref a :: rest) (hW : 2 * g.monitorRoom + (rest.map fun v => v.category).sum ≤ W) (hd : decode c.code g.pc = .ok (.invokespecial index, 3))
    (K : ∀ T' h' v, own_S p l e R s m args below meth c n0 T' h' (k + rm.cells) (n + rm.slots) → Qf v h' → own_Ends p.tables e below P (T'.setTop { g with pc := g.pc + 3, stack := v.toList ++ rest })) : own_Ends p.tables e below P (T.setTop g) := by
  obtain ⟨locs, X, e1, N⟩ := Y
  obtain ⟨v, vm1, ⟨T', L', k', n'⟩, -, X', ⟨L, hQ, l1, y1, z1⟩, st⟩ := X.specialBack hx hy1 hown (mvT hZ wl) (mvT hZ win) (mvT hZ wc) hy (backOf (W := W) (Q := fun v h L => Fr n0 L ∧ Qf v h) hM hZ wc wi hfr hlo) hg hsize (Steps.refl _) hlen hs hW hd (fun _ _ => ⟨rfl, e1, hc, hsl⟩)
  dsimp only [Pt.U, Pt.locs, Pt.cells, Pt.slots] at X' l1 y1 z1 st hQ
  subst l1 y1 z1
  exact own_st (fun t q => st.trans q) (K T' _ v ⟨_, X', rfl, Fr.app N hQ.1⟩ hQ.2)
theorem own_callV (Y : own_S p l e R s m args below meth c n0 T h k n) (hx : p.tables.exec = Jvm.exec) (hZ : Z.Warmed39 s.vm) {own C : String} {index : Nat} {y z : MethodName} {bytes : ByteArray} {maxL : Nat} {ret : Option FieldType} (hown : s.vm.findClass own = some m.cls) (wl : (Jvm.Cond.methodLink own index y).before a0 Z = true) (wd : (Jvm.Cond.declares y).before a0 Z = true) (hnf : NotFace s y) (wse : (Jvm.Cond.selects C y z).before a0 Z = true) (win : (Jvm.Cond.instanceMethod z).before a0 Z = true) (wi : (Jvm.Cond.initialized z.cls).before a0 Z = true) (wc : (Jvm.Cond.code z bytes maxL ret).before a0 Z = true)
    (hy : y.cls ≠ "java/lang/invoke/MethodHandle" ∧ y.cls ≠ "java/lang/invoke/VarHandle") {rm : Room} {a : Addr} (E : Exa Z h a C) {argsL rest : List Value} {Qf : Option Value → Heap → Prop} (hM : own_Con l Z z bytes maxL ret [] rm (.ref a :: argsL).toArray h n0 Qf) {W : Nat} (hfr : rm.frames + 1 ≤ R.frames) (hlo : W + (maxL + 11) + rm.locals ≤ R.locals) (hc : k + rm.cells ≤ R.cells) (hsl : n + rm.slots ≤ R.slots)
    {g : JFrame} (hg : g.method = m) (hsize : g.locals.size = c.maxLocals) (hlen : ∀ sig, parseMethodDescriptor y.desc = some sig → argsL.length = sig.parameters.length) (hs : g.stack = argsL.reverse ++ .ref a :: rest) (hW : 2 * g.monitorRoom + (rest.map fun v => v.category).sum ≤ W) (hd : decode c.code g.pc = .ok (.invokevirtual index, 3))
    (K : ∀ T' h' v, own_S p l e R s m args below meth c n0 T' h' (k + rm.cells) (n + rm.slots) → Qf v h' → own_Ends p.tables e below P (T'.setTop { g with pc := g.pc + 3, stack := v.toList ++ rest })) : own_Ends p.tables e below P (T.setTop g) := by
  obtain ⟨locs, X, e1, N⟩ := Y
  obtain ⟨cq, kq, qa, qb, qc⟩ := isOf hZ e1 E
  obtain ⟨v, vm1, ⟨T', L', k', n'⟩, -, X', ⟨L, hQ, l1, y1, z1⟩, st⟩ := X.virtualBack hx hown (mvT hZ wl) (mvT hZ wd) hnf (mvT hZ wse) (mvT hZ win) hy (backOf (W := W) (Q := fun v h L => Fr n0 L ∧ Qf v h) hM hZ wc wi hfr hlo) qa qc hg hsize (Steps.refl _) hlen hs hW hd (fun _ _ => ⟨rfl, e1, hc, hsl⟩)
  dsimp only [Pt.U, Pt.locs, Pt.cells, Pt.slots] at X' l1 y1 z1 st hQ
  subst l1 y1 z1
  exact own_st (fun t q => st.trans q) (K T' _ v ⟨_, X', rfl, Fr.app N hQ.1⟩ hQ.2)
theorem own_callU (Y : own_S p l e R s m args below meth c n0 T h k n) (hx : p.tables.exec = Jvm.exec) (hZ : Z.Warmed39 s.vm) {own C owner : String} {index : Nat} {y z : MethodName} {bytes : ByteArray} {maxL : Nat} {ret : Option FieldType} (hown : s.vm.findClass own = some m.cls) (wl : (Jvm.Cond.methodLink own index y).before a0 Z = true) (wsm : (Jvm.Cond.sameMethod y.cls owner y.name y.desc).before a0 Z = true) (wd : (Jvm.Cond.declares ⟨owner, y.name, y.desc⟩).before a0 Z = true) (wse : (Jvm.Cond.selects C y z).before a0 Z = true) (win : (Jvm.Cond.instanceMethod z).before a0 Z = true) (wi : (Jvm.Cond.initialized z.cls).before a0 Z = true) (wc : (Jvm.Cond.code z bytes maxL ret).before a0 Z = true)
    (hy : owner ≠ "java/lang/invoke/MethodHandle" ∧ owner ≠ "java/lang/invoke/VarHandle") {rm : Room} {a : Addr} (E : Exa Z h a C) {argsL rest : List Value} {Qf : Option Value → Heap → Prop} (hM : own_Con l Z z bytes maxL ret [] rm (.ref a :: argsL).toArray h n0 Qf) {W : Nat} (hfr : rm.frames + 1 ≤ R.frames) (hlo : W + (maxL + 11) + rm.locals ≤ R.locals) (hc : k + rm.cells ≤ R.cells) (hsl : n + rm.slots ≤ R.slots)
    {g : JFrame} (hg : g.method = m) (hsize : g.locals.size = c.maxLocals) (hlen : ∀ sig, parseMethodDescriptor y.desc = some sig → argsL.length = sig.parameters.length) (hs : g.stack = argsL.reverse ++ .ref a :: rest) (hW : 2 * g.monitorRoom + (rest.map fun v => v.category).sum ≤ W) (hd : decode c.code g.pc = .ok (.invokevirtual index, 3))
    (K : ∀ T' h' v, own_S p l e R s m args below meth c n0 T' h' (k + rm.cells) (n + rm.slots) → Qf v h' → own_Ends p.tables e below P (T'.setTop { g with pc := g.pc + 3, stack := v.toList ++ rest })) : own_Ends p.tables e below P (T.setTop g) := by
  obtain ⟨locs, X, e1, N⟩ := Y
  obtain ⟨cq, kq, qa, qb, qc⟩ := isOf hZ e1 E
  obtain ⟨v, vm1, ⟨T', L', k', n'⟩, -, X', ⟨L, hQ, l1, y1, z1⟩, st⟩ := X.virtualBackUp hx hown (mvT hZ wl) (mvT hZ wsm) (mvT hZ wd) hy (mvT hZ wse) (mvT hZ win) (backOf (W := W) (Q := fun v h L => Fr n0 L ∧ Qf v h) hM hZ wc wi hfr hlo) qa qc hg hsize (Steps.refl _) hlen hs hW hd (fun _ _ => ⟨rfl, e1, hc, hsl⟩)
  dsimp only [Pt.U, Pt.locs, Pt.cells, Pt.slots] at X' l1 y1 z1 st hQ
  subst l1 y1 z1
  exact own_st (fun t q => st.trans q) (K T' _ v ⟨_, X', rfl, Fr.app N hQ.1⟩ hQ.2)
theorem own_callP (Y : own_S p l e R s m args below meth c n0 T h k n) (hx : p.tables.exec = Jvm.exec) (hZ : Z.Warmed39 s.vm) {own C : String} {index : Nat} {y : MethodName} {bytes : ByteArray} {maxL : Nat} {ret : Option FieldType} (hown : s.vm.findClass own = some m.cls) (wl : (Jvm.Cond.methodLink own index y).before a0 Z = true) {nn : Nat} (win : (Jvm.Cond.instanceMethod y).before a0 Z = true) (wn : (Jvm.Cond.instantiable y.cls nn).before a0 Z = true) (wp : (Jvm.Cond.privateMethod y).before a0 Z = true) (wi : (Jvm.Cond.initialized y.cls).before a0 Z = true) (wc : (Jvm.Cond.code y bytes maxL ret).before a0 Z = true)
    (hy : y.cls ≠ "java/lang/invoke/MethodHandle" ∧ y.cls ≠ "java/lang/invoke/VarHandle") {rm : Room} {a : Addr} (E : Exa Z h a C) {argsL rest : List Value} {Qf : Option Value → Heap → Prop} (hM : own_Con l Z y bytes maxL ret [] rm (.ref a :: argsL).toArray h n0 Qf) {W : Nat} (hfr : rm.frames + 1 ≤ R.frames) (hlo : W + (maxL + 11) + rm.locals ≤ R.locals) (hc : k + rm.cells ≤ R.cells) (hsl : n + rm.slots ≤ R.slots)
    {g : JFrame} (hg : g.method = m) (hsize : g.locals.size = c.maxLocals) (hlen : ∀ sig, parseMethodDescriptor y.desc = some sig → argsL.length = sig.parameters.length) (hs : g.stack = argsL.reverse ++ .ref a :: rest) (hW : 2 * g.monitorRoom + (rest.map fun v => v.category).sum ≤ W) (hd : decode c.code g.pc = .ok (.invokevirtual index, 3))
    (K : ∀ T' h' v, own_S p l e R s m args below meth c n0 T' h' (k + rm.cells) (n + rm.slots) → Qf v h' → own_Ends p.tables e below P (T'.setTop { g with pc := g.pc + 3, stack := v.toList ++ rest })) : own_Ends p.tables e below P (T.setTop g) := by
  obtain ⟨locs, X, e1, N⟩ := Y
  obtain ⟨cell, q, q'⟩ := E.cell
  have wn' : (Jvm.Cond.instantiable y.cls nn).before #[] s = true := mvT hZ wn
  obtain ⟨ci, ki, hi1, hi2, -, hi4, -⟩ := Cond.instantiable_spec wn'
  have wse : (Jvm.Cond.selects y.cls y y).before args s = true := selects_self_of_private hi1 hi2 (by simpa using (Bool.or_eq_false_iff.mp hi4).1) (Cond.privateMethod_at (mvP hZ wp (args := #[]))) (mvT hZ win) hy
  obtain ⟨v, vm1, ⟨T', L', k', n'⟩, -, X', ⟨L, hQ, l1, y1, z1⟩, st⟩ := X.privateBack hx hown (mvT hZ wl) (mvT hZ win) wse (Cond.privateMethod_at (mvP hZ wp (args := #[]))) (mvT hZ wc) hy (backOf (W := W) (Q := fun v h L => Fr n0 L ∧ Qf v h) hM hZ wc wi hfr hlo) hg hsize (Steps.refl _) (by rw [e1]; exact q) q' hlen hs hW hd (fun _ _ => ⟨rfl, e1, hc, hsl⟩)
  dsimp only [Pt.U, Pt.locs, Pt.cells, Pt.slots] at X' l1 y1 z1 st hQ
  subst l1 y1 z1
  exact own_st (fun t q => st.trans q) (K T' _ v ⟨_, X', rfl, Fr.app N hQ.1⟩ hQ.2)
end OwnLayer
section OwnNums
def own_b (b : Bool) : Int32 := if b then 1 else 0
theorem own_b_t {b : Bool} (h : b = true) : own_b b = 1 := by subst h; rfl
theorem own_b_f {b : Bool} (h : b = false) : own_b b = 0 := by subst h; rfl
theorem own_b_0 (b : Bool) : own_b b = 0 ↔ b = false := by cases b <;> simp [own_b]
theorem own_b_n (b : Bool) : nar .boolean (own_b b) = own_b b := by cases b <;> rfl
theorem own_b_inj {a b : Bool} : own_b a = own_b b ↔ a = b := by cases a <;> cases b <;> simp [own_b]
theorem own_idx {j : Int32} {n : Nat} (h0 : 0 ≤ j.toInt) (h1 : j.toInt < (n : Int)) : ¬ j < 0 ∧ j.toNatClampNeg < n := by
  refine ⟨?_, ?_⟩
  · rw [Int32.lt_iff_toInt_lt]; show ¬ j.toInt < 0; omega
  · show j.toInt.toNat < n; omega
theorem own_ints {xs : List Int32} {i : Nat} (h : i < xs.length) : ∃ d, (xs.map Value.int)[i]? = some (.int d) ∧ d = xs[i] := ⟨xs[i], by simp [h], rfl⟩
theorem own_longs {xs : List Int64} {i : Nat} (h : i < xs.length) : ∃ d, (xs.map Value.long)[i]? = some (.long d) ∧ d = xs[i] := ⟨xs[i], by simp [h], rfl⟩
/-- p i, p (i + 1), .., k of them, all hold -/
def own_all (p : Nat → Bool) : Nat → Nat → Bool
  | _, 0 => true
  | i, k + 1 => p i && own_all p (i + 1) k
def own_g (xs : List Int32) (i : Nat) : Int32 := xs.getD i 0
theorem own_mget {xs : List Int32} {i : Nat} (h : i < (xs.map Value.int).length) : (xs.map Value.int)[i]? = some (.int (own_g xs i)) := by
  have h' : i < xs.length := by simpa using h
  simp [h', own_g]
theorem own_mlen {xs : List Int32} {i : Nat} (h : i < xs.length) : i < (xs.map Value.int).length := by simpa using h
theorem own_nat {j : Int32} {i : Nat} (h : j.toInt = (i : Int)) : ¬ j < 0 ∧ j.toNatClampNeg = i := by
  refine ⟨?_, ?_⟩
  · rw [Int32.lt_iff_toInt_lt]; show ¬ j.toInt < 0; omega
  · show j.toInt.toNat = i; omega
theorem own_inc {j : Int32} {i : Nat} (h : j.toInt = (i : Int)) (hi : i + 1 < 2147483648) : (j + 1).toInt = ((i + 1 : Nat) : Int) := by
  have := c_iadd j 1
  have h1 : (1 : Int32).toInt = 1 := rfl
  have := rng32 (j + 1)
  omega
theorem own_lt {x y : Int32} : x < y ↔ x.toInt < y.toInt := Int32.lt_iff_toInt_lt
theorem own_eq {x y : Int32} : x = y ↔ x.toInt = y.toInt := Int32.toInt_inj.symm
theorem own_tolen {ys : List Int32} {z : Int32} (h : z.toInt = (ys.length : Int)) : (ys.map Value.int).length.toInt32 = z := by
  have q := rng32 z
  have e : (ys.map Value.int).length = ys.length := by simp
  rw [own_eq, len_toInt (by rw [e]; omega), e, h]
theorem own_add {x y : Int32} {a b : Nat} (h1 : x.toInt = (a : Int)) (h2 : y.toInt = (b : Int)) (hi : a + b < 2147483648) : (x + y).toInt = ((a + b : Nat) : Int) := by
  have := c_iadd x y
  have := rng32 (x + y)
  omega
theorem own_sub {x y : Int32} {a b : Nat} (h1 : x.toInt = (a : Int)) (h2 : y.toInt = (b : Int)) : (x - y).toInt = (a : Int) - (b : Int) := by
  have := c_isub x y
  have := rng32 (x - y)
  have := rng32 x
  have := rng32 y
  omega
theorem own_l0 : (0 : Int32).toInt = ((0 : Nat) : Int) := rfl
theorem own_l1 : (1 : Int32).toInt = ((1 : Nat) : Int) := rfl
theorem own_l2 : (2 : Int32).toInt = ((2 : Nat) : Int) := rfl
theorem own_l3 : (3 : Int32).toInt = ((3 : Nat) : Int) := rfl
theorem own_l4 : (4 : Int32).toInt = ((4 : Nat) : Int) := rfl
theorem own_l5 : (5 : Int32).toInt = ((5 : Nat) : Int) := rfl
theorem own_l6 : (6 : Int32).toInt = ((6 : Nat) : Int) := rfl
theorem own_l7 : (7 : Int32).toInt = ((7 : Nat) : Int) := rfl
theorem own_l8 : (8 : Int32).toInt = ((8 : Nat) : Int) := rfl
end OwnNums
def own_fill (ws : List Int32) (p : Nat) (z o : Int32) : List Int32 := if z = 1 then ws.set p o else (ws.set p (if o = 0 then 1 else 0)).set (p + 1) (if o = 2 then 1 else 2)
theorem own_fill_len (ws : List Int32) (p : Nat) (z o : Int32) : (own_fill ws p z o).length = ws.length := by unfold own_fill; split <;> simp
def own_W (k0 k1 k2 : Nat) (z0 z1 z2 z3 o0 o1 o2 o3 : Int32) : List Int32 := own_fill (own_fill (own_fill (own_fill (List.replicate 8 0) 0 z0 o0) k0 z1 o1) (k0 + k1) z2 o2) (k0 + k1 + k2) z3 o3
def own_good (W : List Int32) (p : Nat) (z o : Int32) : Prop := (z = 1 → own_g W p = o) ∧ (z = 2 → own_g W p = (if o = 0 then 1 else 0) ∧ own_g W (p + 1) = (if o = 2 then 1 else 2))
theorem own_fin {k0 k1 k2 : Nat} {z0 z1 z2 z3 : Int32} (o0 o1 o2 o3 : Int32) (h0 : z0 = 1 ∨ z0 = 2) (h1 : z1 = 1 ∨ z1 = 2) (h2 : z2 = 1 ∨ z2 = 2) (h3 : z3 = 1 ∨ z3 = 2) (e0 : z0.toInt = (k0 : Int)) (e1 : z1.toInt = (k1 : Int)) (e2 : z2.toInt = (k2 : Int)) :
    own_good (own_W k0 k1 k2 z0 z1 z2 z3 o0 o1 o2 o3) 0 z0 o0 ∧ own_good (own_W k0 k1 k2 z0 z1 z2 z3 o0 o1 o2 o3) k0 z1 o1 ∧ own_good (own_W k0 k1 k2 z0 z1 z2 z3 o0 o1 o2 o3) (k0 + k1) z2 o2 ∧ own_good (own_W k0 k1 k2 z0 z1 z2 z3 o0 o1 o2 o3) (k0 + k1 + k2) z3 o3 := by
  have d1 : (1 : Int32).toInt = 1 := rfl
  have d2 : (2 : Int32).toInt = 2 := rfl
  have n12 : ¬ (1 : Int32) = 2 := by decide
  have n21 : ¬ (2 : Int32) = 1 := by decide
  have q0 : k0 = z0.toInt.toNat := by omega
  have q1 : k1 = z1.toInt.toNat := by omega
  have q2 : k2 = z2.toInt.toNat := by omega
  subst q0 q1 q2
  have t1 : (1 : Int32).toInt.toNat = 1 := rfl
  have t2 : (2 : Int32).toInt.toNat = 2 := rfl
  rcases h0 with rfl | rfl <;> rcases h1 with rfl | rfl <;> rcases h2 with rfl | rfl <;> rcases h3 with rfl | rfl <;> simp [own_good, own_W, own_fill, own_g, List.replicate, t1, t2, n12, n21]
theorem own_pn0 : plainName "com/example/tierpath/tierpath/BoundsMemberPinLaw" = true := by first | (simp [plainName, overriddenIn]; done) | decide +kernel
theorem own_d1_0 : decode method_3_code 0 = .ok (.iload_n 2, 1) := by decide +kernel
theorem own_d1_1 : decode method_3_code 1 = .ok (.iconst 1, 1) := by decide +kernel
theorem own_d1_2 : decode method_3_code 2 = .ok (.if_icmp .ne 10, 3) := by decide +kernel
theorem own_d1_5 : decode method_3_code 5 = .ok (.aload_n 0, 1) := by decide +kernel
theorem own_d1_6 : decode method_3_code 6 = .ok (.iload_n 1, 1) := by decide +kernel
theorem own_d1_7 : decode method_3_code 7 = .ok (.iload_n 3, 1) := by decide +kernel
theorem own_d1_8 : decode method_3_code 8 = .ok (.iastore, 1) := by decide +kernel
theorem own_d1_9 : decode method_3_code 9 = .ok (.goto 30, 3) := by decide +kernel
theorem own_d1_39 : decode method_3_code 39 = .ok (.return_, 1) := by decide +kernel
theorem own_d1_12 : decode method_3_code 12 = .ok (.aload_n 0, 1) := by decide +kernel
theorem own_d1_13 : decode method_3_code 13 = .ok (.iload_n 1, 1) := by decide +kernel
theorem own_d1_14 : decode method_3_code 14 = .ok (.iload_n 3, 1) := by decide +kernel
theorem own_d1_15 : decode method_3_code 15 = .ok (.ifCond .ne 7, 3) := by decide +kernel
theorem own_d1_18 : decode method_3_code 18 = .ok (.iconst 1, 1) := by decide +kernel
theorem own_d1_19 : decode method_3_code 19 = .ok (.goto 4, 3) := by decide +kernel
theorem own_d1_23 : decode method_3_code 23 = .ok (.iastore, 1) := by decide +kernel
theorem own_d1_24 : decode method_3_code 24 = .ok (.aload_n 0, 1) := by decide +kernel
theorem own_d1_25 : decode method_3_code 25 = .ok (.iload_n 1, 1) := by decide +kernel
theorem own_d1_26 : decode method_3_code 26 = .ok (.iconst 1, 1) := by decide +kernel
theorem own_d1_27 : decode method_3_code 27 = .ok (.iadd, 1) := by decide +kernel
theorem own_d1_28 : decode method_3_code 28 = .ok (.iload_n 3, 1) := by decide +kernel
theorem own_d1_29 : decode method_3_code 29 = .ok (.iconst 2, 1) := by decide +kernel
theorem own_d1_30 : decode method_3_code 30 = .ok (.if_icmp .ne 7, 3) := by decide +kernel
theorem own_d1_33 : decode method_3_code 33 = .ok (.iconst 1, 1) := by decide +kernel
theorem own_d1_34 : decode method_3_code 34 = .ok (.goto 4, 3) := by decide +kernel
theorem own_d1_38 : decode method_3_code 38 = .ok (.iastore, 1) := by decide +kernel
theorem own_d1_37 : decode method_3_code 37 = .ok (.iconst 2, 1) := by decide +kernel
theorem own_d1_22 : decode method_3_code 22 = .ok (.iconst 0, 1) := by decide +kernel
theorem own_ef_own_rm1 (m : MethodId) (r0 : Addr) (x1 : Int32) (x2 : Int32) (x3 : Int32) : entryFrame m #[(.ref r0), (.int x1), (.int x2), (.int x3)] 4 = mkF m 0 #[.val (.ref r0), .val (.int x1), .val (.int x2), .val (.int x3)] [] := by first | (simp [entryFrame, mkF, argsToLocals, Value.category]; done) | rfl
def own_Q_own_rm1 (Z : State) (r0 : Addr) (x2 x3 : Int32) (us : List Int32) (pp : Nat) (h0 : Heap) (n0 : Nat) (v : Option Value) (h : Heap) : Prop := v = none ∧ Keep h0 h [r0] ∧ own_A Z h r0 .int ((own_fill us pp x2 x3).map Value.int)
set_option maxRecDepth 65536 in
set_option maxHeartbeats 40000000 in
theorem own_rm1 (l : Launch) (Z : State) (a0 : Array Value) (hw : ∀ d ∈ tables_1, d.before a0 Z = true) (ws : List Jvm.Cond) (r0 : Addr) (x1 : Int32) (x2 : Int32) (x3 : Int32) (us : List Int32) (pp : Nat) (h0 : Heap) (n0 : Nat)  (A : own_A Z h0 r0 .int (us.map Value.int)) (g : n0 ≤ r0) (hp : x1.toInt = (pp : Int)) (hpl : pp + 2 ≤ us.length) (hp8 : pp ≤ 8) :
    own_Con l Z (⟨"com/example/tierpath/tierpath/BoundsMemberPinLaw", "fill", "([IIII)V"⟩ : MethodName) method_3_code 4 none ws ({ frames := 0, cells := 0, slots := 0, locals := 0 } : Room) #[(.ref r0), (.int x1), (.int x2), (.int x3)] h0 n0 (own_Q_own_rm1 Z r0 x2 x3 us pp h0 n0) := by
  refine own_body (plainFor_of_name own_pn0) ?_
  intro p e s m below meth c T0 hx hZ hby hml hown hnm hret hlk Y0
  replace hown : s.vm.findClass "com/example/tierpath/tierpath/BoundsMemberPinLaw" = some m.cls := hown
  replace hnm : meth.name = "fill" := hnm
  rw [own_ef_own_rm1 m r0 x1 x2 x3]
  show own_Ends _ _ _ _ (T0.setTop (mkF m 0 #[.val (.ref r0), .val (.int x1), .val (.int x2), .val (.int x3)] []))
  obtain ⟨p0, p1⟩ := own_nat hp
  obtain ⟨u0, u1⟩ := own_nat (own_inc hp (by omega))
  refine own_st (fun t_ => XS.iloadN (own_here Y0) hx rfl (hb hby own_d1_0) rfl) ?_
  show own_Ends _ _ _ _ (T0.setTop (mkF m 1 #[.val (.ref r0), .val (.int x1), .val (.int x2), .val (.int x3)] [(.int x2)]))
  refine own_st (fun t_ => XS.iconst (own_here Y0) hx rfl (hb hby own_d1_1) ) ?_
  show own_Ends _ _ _ _ (T0.setTop (mkF m 2 #[.val (.ref r0), .val (.int x1), .val (.int x2), .val (.int x3)] [(.int (1 : Int32)), (.int x2)]))
  by_cases c2_1 : x2 = (1 : Int32)
  ·
   refine own_st (fun t_ => XS.icmpNo (own_here Y0) hx rfl (hb hby own_d1_2) rfl (XT.ii_ne_f c2_1)) ?_
   show own_Ends _ _ _ _ (T0.setTop (mkF m 5 #[.val (.ref r0), .val (.int x1), .val (.int x2), .val (.int x3)] []))
   refine own_st (fun t_ => XS.aloadN (own_here Y0) hx rfl (hb hby own_d1_5) rfl rfl) ?_
   show own_Ends _ _ _ _ (T0.setTop (mkF m 6 #[.val (.ref r0), .val (.int x1), .val (.int x2), .val (.int x3)] [(.ref r0)]))
   refine own_st (fun t_ => XS.iloadN (own_here Y0) hx rfl (hb hby own_d1_6) rfl) ?_
   show own_Ends _ _ _ _ (T0.setTop (mkF m 7 #[.val (.ref r0), .val (.int x1), .val (.int x2), .val (.int x3)] [(.int x1), (.ref r0)]))
   refine own_st (fun t_ => XS.iloadN (own_here Y0) hx rfl (hb hby own_d1_7) rfl) ?_
   show own_Ends _ _ _ _ (T0.setTop (mkF m 8 #[.val (.ref r0), .val (.int x1), .val (.int x2), .val (.int x3)] [(.int x3), (.int x1), (.ref r0)]))
   refine own_stI Y0 hx hZ A g (i := pp) p0 p1 (own_mlen (by omega)) rfl rfl (hb hby own_d1_8) (fun T2 h4 Y3 W5 A6 => ?_)
   show own_Ends _ _ _ _ (T2.setTop (mkF m 9 #[.val (.ref r0), .val (.int x1), .val (.int x2), .val (.int x3)] []))
   refine own_st (fun t_ => XS.goto (own_here Y3) hx rfl (pc0 := 9) (pc' := 39) rfl (hb hby own_d1_9) (by decide) (by decide)) ?_
   show own_Ends _ _ _ _ (T2.setTop (mkF m 39 #[.val (.ref r0), .val (.int x1), .val (.int x2), .val (.int x3)] []))
   have K7 : Keep h0 h4 [r0] := (Keep.refl h0 [r0]).wr W5 (Or.inl (List.mem_of_getElem? (i := 0) rfl))
   refine own_retV Y3 hx hlk hret (hb hby own_d1_39) (by decide) (by decide) ?_
   refine ⟨rfl, K7, ?_⟩
   have q := A6
   simp only [own_fill, c2_1]
   simpa [List.map_set] using q
  ·
   refine own_st (fun t_ => XS.icmpYes (own_here Y0) hx rfl (pc0 := 2) (pc' := 12) rfl (hb hby own_d1_2) rfl (XT.ii_ne_t c2_1) (by decide) (by decide)) ?_
   show own_Ends _ _ _ _ (T0.setTop (mkF m 12 #[.val (.ref r0), .val (.int x1), .val (.int x2), .val (.int x3)] []))
   refine own_st (fun t_ => XS.aloadN (own_here Y0) hx rfl (hb hby own_d1_12) rfl rfl) ?_
   show own_Ends _ _ _ _ (T0.setTop (mkF m 13 #[.val (.ref r0), .val (.int x1), .val (.int x2), .val (.int x3)] [(.ref r0)]))
   refine own_st (fun t_ => XS.iloadN (own_here Y0) hx rfl (hb hby own_d1_13) rfl) ?_
   show own_Ends _ _ _ _ (T0.setTop (mkF m 14 #[.val (.ref r0), .val (.int x1), .val (.int x2), .val (.int x3)] [(.int x1), (.ref r0)]))
   refine own_st (fun t_ => XS.iloadN (own_here Y0) hx rfl (hb hby own_d1_14) rfl) ?_
   show own_Ends _ _ _ _ (T0.setTop (mkF m 15 #[.val (.ref r0), .val (.int x1), .val (.int x2), .val (.int x3)] [(.int x3), (.int x1), (.ref r0)]))
   by_cases c15_8 : x3 = (0 : Int32)
   ·
    refine own_st (fun t_ => XS.ifNo (own_here Y0) hx rfl (hb hby own_d1_15) rfl (XT.i0_ne_f c15_8)) ?_
    show own_Ends _ _ _ _ (T0.setTop (mkF m 18 #[.val (.ref r0), .val (.int x1), .val (.int x2), .val (.int x3)] [(.int x1), (.ref r0)]))
    refine own_st (fun t_ => XS.iconst (own_here Y0) hx rfl (hb hby own_d1_18) ) ?_
    show own_Ends _ _ _ _ (T0.setTop (mkF m 19 #[.val (.ref r0), .val (.int x1), .val (.int x2), .val (.int x3)] [(.int (1 : Int32)), (.int x1), (.ref r0)]))
    refine own_st (fun t_ => XS.goto (own_here Y0) hx rfl (pc0 := 19) (pc' := 23) rfl (hb hby own_d1_19) (by decide) (by decide)) ?_
    show own_Ends _ _ _ _ (T0.setTop (mkF m 23 #[.val (.ref r0), .val (.int x1), .val (.int x2), .val (.int x3)] [(.int (1 : Int32)), (.int x1), (.ref r0)]))
    refine own_stI Y0 hx hZ A g (i := pp) p0 p1 (own_mlen (by omega)) rfl rfl (hb hby own_d1_23) (fun T9 h11 Y10 W12 A13 => ?_)
    show own_Ends _ _ _ _ (T9.setTop (mkF m 24 #[.val (.ref r0), .val (.int x1), .val (.int x2), .val (.int x3)] []))
    refine own_st (fun t_ => XS.aloadN (own_here Y10) hx rfl (hb hby own_d1_24) rfl rfl) ?_
    show own_Ends _ _ _ _ (T9.setTop (mkF m 25 #[.val (.ref r0), .val (.int x1), .val (.int x2), .val (.int x3)] [(.ref r0)]))
    refine own_st (fun t_ => XS.iloadN (own_here Y10) hx rfl (hb hby own_d1_25) rfl) ?_
    show own_Ends _ _ _ _ (T9.setTop (mkF m 26 #[.val (.ref r0), .val (.int x1), .val (.int x2), .val (.int x3)] [(.int x1), (.ref r0)]))
    refine own_st (fun t_ => XS.iconst (own_here Y10) hx rfl (hb hby own_d1_26) ) ?_
    show own_Ends _ _ _ _ (T9.setTop (mkF m 27 #[.val (.ref r0), .val (.int x1), .val (.int x2), .val (.int x3)] [(.int (1 : Int32)), (.int x1), (.ref r0)]))
    refine own_st (fun t_ => XS.iadd (own_here Y10) hx rfl (hb hby own_d1_27) rfl) ?_
    show own_Ends _ _ _ _ (T9.setTop (mkF m 28 #[.val (.ref r0), .val (.int x1), .val (.int x2), .val (.int x3)] [(.int (x1 + (1 : Int32))), (.ref r0)]))
    refine own_st (fun t_ => XS.iloadN (own_here Y10) hx rfl (hb hby own_d1_28) rfl) ?_
    show own_Ends _ _ _ _ (T9.setTop (mkF m 29 #[.val (.ref r0), .val (.int x1), .val (.int x2), .val (.int x3)] [(.int x3), (.int (x1 + (1 : Int32))), (.ref r0)]))
    refine own_st (fun t_ => XS.iconst (own_here Y10) hx rfl (hb hby own_d1_29) ) ?_
    show own_Ends _ _ _ _ (T9.setTop (mkF m 30 #[.val (.ref r0), .val (.int x1), .val (.int x2), .val (.int x3)] [(.int (2 : Int32)), (.int x3), (.int (x1 + (1 : Int32))), (.ref r0)]))
    by_cases c30_14 : x3 = (2 : Int32)
    ·
     refine own_st (fun t_ => XS.icmpNo (own_here Y10) hx rfl (hb hby own_d1_30) rfl (XT.ii_ne_f c30_14)) ?_
     show own_Ends _ _ _ _ (T9.setTop (mkF m 33 #[.val (.ref r0), .val (.int x1), .val (.int x2), .val (.int x3)] [(.int (x1 + (1 : Int32))), (.ref r0)]))
     refine own_st (fun t_ => XS.iconst (own_here Y10) hx rfl (hb hby own_d1_33) ) ?_
     show own_Ends _ _ _ _ (T9.setTop (mkF m 34 #[.val (.ref r0), .val (.int x1), .val (.int x2), .val (.int x3)] [(.int (1 : Int32)), (.int (x1 + (1 : Int32))), (.ref r0)]))
     refine own_st (fun t_ => XS.goto (own_here Y10) hx rfl (pc0 := 34) (pc' := 38) rfl (hb hby own_d1_34) (by decide) (by decide)) ?_
     show own_Ends _ _ _ _ (T9.setTop (mkF m 38 #[.val (.ref r0), .val (.int x1), .val (.int x2), .val (.int x3)] [(.int (1 : Int32)), (.int (x1 + (1 : Int32))), (.ref r0)]))
     refine own_stI Y10 hx hZ A13 g (i := (pp + 1)) u0 u1 (by simp; omega) rfl rfl (hb hby own_d1_38) (fun T15 h17 Y16 W18 A19 => ?_)
     show own_Ends _ _ _ _ (T15.setTop (mkF m 39 #[.val (.ref r0), .val (.int x1), .val (.int x2), .val (.int x3)] []))
     refine own_retV Y16 hx hlk hret (hb hby own_d1_39) (by decide) (by decide) ?_
     exact absurd (c15_8.symm.trans c30_14) (by decide)
    ·
     refine own_st (fun t_ => XS.icmpYes (own_here Y10) hx rfl (pc0 := 30) (pc' := 37) rfl (hb hby own_d1_30) rfl (XT.ii_ne_t c30_14) (by decide) (by decide)) ?_
     show own_Ends _ _ _ _ (T9.setTop (mkF m 37 #[.val (.ref r0), .val (.int x1), .val (.int x2), .val (.int x3)] [(.int (x1 + (1 : Int32))), (.ref r0)]))
     refine own_st (fun t_ => XS.iconst (own_here Y10) hx rfl (hb hby own_d1_37) ) ?_
     show own_Ends _ _ _ _ (T9.setTop (mkF m 38 #[.val (.ref r0), .val (.int x1), .val (.int x2), .val (.int x3)] [(.int (2 : Int32)), (.int (x1 + (1 : Int32))), (.ref r0)]))
     refine own_stI Y10 hx hZ A13 g (i := (pp + 1)) u0 u1 (by simp; omega) rfl rfl (hb hby own_d1_38) (fun T20 h22 Y21 W23 A24 => ?_)
     show own_Ends _ _ _ _ (T20.setTop (mkF m 39 #[.val (.ref r0), .val (.int x1), .val (.int x2), .val (.int x3)] []))
     have K25 : Keep h0 h11 [r0] := (Keep.refl h0 [r0]).wr W12 (Or.inl (List.mem_of_getElem? (i := 0) rfl))
     have K26 : Keep h0 h22 [r0] := K25.wr W23 (Or.inl (List.mem_of_getElem? (i := 0) rfl))
     refine own_retV Y21 hx hlk hret (hb hby own_d1_39) (by decide) (by decide) ?_
     refine ⟨rfl, K26, ?_⟩
     have q := A24
     simp only [own_fill, c2_1, c15_8, c30_14]
     simpa [List.map_set, c2_1, c15_8, c30_14] using q
   ·
    refine own_st (fun t_ => XS.ifYes (own_here Y0) hx rfl (pc0 := 15) (pc' := 22) rfl (hb hby own_d1_15) rfl (XT.i0_ne_t c15_8) (by decide) (by decide)) ?_
    show own_Ends _ _ _ _ (T0.setTop (mkF m 22 #[.val (.ref r0), .val (.int x1), .val (.int x2), .val (.int x3)] [(.int x1), (.ref r0)]))
    refine own_st (fun t_ => XS.iconst (own_here Y0) hx rfl (hb hby own_d1_22) ) ?_
    show own_Ends _ _ _ _ (T0.setTop (mkF m 23 #[.val (.ref r0), .val (.int x1), .val (.int x2), .val (.int x3)] [(.int (0 : Int32)), (.int x1), (.ref r0)]))
    refine own_stI Y0 hx hZ A g (i := pp) p0 p1 (own_mlen (by omega)) rfl rfl (hb hby own_d1_23) (fun T27 h29 Y28 W30 A31 => ?_)
    show own_Ends _ _ _ _ (T27.setTop (mkF m 24 #[.val (.ref r0), .val (.int x1), .val (.int x2), .val (.int x3)] []))
    refine own_st (fun t_ => XS.aloadN (own_here Y28) hx rfl (hb hby own_d1_24) rfl rfl) ?_
    show own_Ends _ _ _ _ (T27.setTop (mkF m 25 #[.val (.ref r0), .val (.int x1), .val (.int x2), .val (.int x3)] [(.ref r0)]))
    refine own_st (fun t_ => XS.iloadN (own_here Y28) hx rfl (hb hby own_d1_25) rfl) ?_
    show own_Ends _ _ _ _ (T27.setTop (mkF m 26 #[.val (.ref r0), .val (.int x1), .val (.int x2), .val (.int x3)] [(.int x1), (.ref r0)]))
    refine own_st (fun t_ => XS.iconst (own_here Y28) hx rfl (hb hby own_d1_26) ) ?_
    show own_Ends _ _ _ _ (T27.setTop (mkF m 27 #[.val (.ref r0), .val (.int x1), .val (.int x2), .val (.int x3)] [(.int (1 : Int32)), (.int x1), (.ref r0)]))
    refine own_st (fun t_ => XS.iadd (own_here Y28) hx rfl (hb hby own_d1_27) rfl) ?_
    show own_Ends _ _ _ _ (T27.setTop (mkF m 28 #[.val (.ref r0), .val (.int x1), .val (.int x2), .val (.int x3)] [(.int (x1 + (1 : Int32))), (.ref r0)]))
    refine own_st (fun t_ => XS.iloadN (own_here Y28) hx rfl (hb hby own_d1_28) rfl) ?_
    show own_Ends _ _ _ _ (T27.setTop (mkF m 29 #[.val (.ref r0), .val (.int x1), .val (.int x2), .val (.int x3)] [(.int x3), (.int (x1 + (1 : Int32))), (.ref r0)]))
    refine own_st (fun t_ => XS.iconst (own_here Y28) hx rfl (hb hby own_d1_29) ) ?_
    show own_Ends _ _ _ _ (T27.setTop (mkF m 30 #[.val (.ref r0), .val (.int x1), .val (.int x2), .val (.int x3)] [(.int (2 : Int32)), (.int x3), (.int (x1 + (1 : Int32))), (.ref r0)]))
    by_cases c30_32 : x3 = (2 : Int32)
    ·
     refine own_st (fun t_ => XS.icmpNo (own_here Y28) hx rfl (hb hby own_d1_30) rfl (XT.ii_ne_f c30_32)) ?_
     show own_Ends _ _ _ _ (T27.setTop (mkF m 33 #[.val (.ref r0), .val (.int x1), .val (.int x2), .val (.int x3)] [(.int (x1 + (1 : Int32))), (.ref r0)]))
     refine own_st (fun t_ => XS.iconst (own_here Y28) hx rfl (hb hby own_d1_33) ) ?_
     show own_Ends _ _ _ _ (T27.setTop (mkF m 34 #[.val (.ref r0), .val (.int x1), .val (.int x2), .val (.int x3)] [(.int (1 : Int32)), (.int (x1 + (1 : Int32))), (.ref r0)]))
     refine own_st (fun t_ => XS.goto (own_here Y28) hx rfl (pc0 := 34) (pc' := 38) rfl (hb hby own_d1_34) (by decide) (by decide)) ?_
     show own_Ends _ _ _ _ (T27.setTop (mkF m 38 #[.val (.ref r0), .val (.int x1), .val (.int x2), .val (.int x3)] [(.int (1 : Int32)), (.int (x1 + (1 : Int32))), (.ref r0)]))
     refine own_stI Y28 hx hZ A31 g (i := (pp + 1)) u0 u1 (by simp; omega) rfl rfl (hb hby own_d1_38) (fun T33 h35 Y34 W36 A37 => ?_)
     show own_Ends _ _ _ _ (T33.setTop (mkF m 39 #[.val (.ref r0), .val (.int x1), .val (.int x2), .val (.int x3)] []))
     have K38 : Keep h0 h29 [r0] := (Keep.refl h0 [r0]).wr W30 (Or.inl (List.mem_of_getElem? (i := 0) rfl))
     have K39 : Keep h0 h35 [r0] := K38.wr W36 (Or.inl (List.mem_of_getElem? (i := 0) rfl))
     refine own_retV Y34 hx hlk hret (hb hby own_d1_39) (by decide) (by decide) ?_
     refine ⟨rfl, K39, ?_⟩
     have q := A37
     simp only [own_fill, c2_1, c15_8, c30_32]
     simpa [List.map_set, c2_1, c15_8, c30_32] using q
    ·
     refine own_st (fun t_ => XS.icmpYes (own_here Y28) hx rfl (pc0 := 30) (pc' := 37) rfl (hb hby own_d1_30) rfl (XT.ii_ne_t c30_32) (by decide) (by decide)) ?_
     show own_Ends _ _ _ _ (T27.setTop (mkF m 37 #[.val (.ref r0), .val (.int x1), .val (.int x2), .val (.int x3)] [(.int (x1 + (1 : Int32))), (.ref r0)]))
     refine own_st (fun t_ => XS.iconst (own_here Y28) hx rfl (hb hby own_d1_37) ) ?_
     show own_Ends _ _ _ _ (T27.setTop (mkF m 38 #[.val (.ref r0), .val (.int x1), .val (.int x2), .val (.int x3)] [(.int (2 : Int32)), (.int (x1 + (1 : Int32))), (.ref r0)]))
     refine own_stI Y28 hx hZ A31 g (i := (pp + 1)) u0 u1 (by simp; omega) rfl rfl (hb hby own_d1_38) (fun T40 h42 Y41 W43 A44 => ?_)
     show own_Ends _ _ _ _ (T40.setTop (mkF m 39 #[.val (.ref r0), .val (.int x1), .val (.int x2), .val (.int x3)] []))
     have K45 : Keep h0 h29 [r0] := (Keep.refl h0 [r0]).wr W30 (Or.inl (List.mem_of_getElem? (i := 0) rfl))
     have K46 : Keep h0 h42 [r0] := K45.wr W43 (Or.inl (List.mem_of_getElem? (i := 0) rfl))
     refine own_retV Y41 hx hlk hret (hb hby own_d1_39) (by decide) (by decide) ?_
     refine ⟨rfl, K46, ?_⟩
     have q := A44
     simp only [own_fill, c2_1, c15_8, c30_32]
     simpa [List.map_set, c2_1, c15_8, c30_32] using q
theorem own_pn1 : plainName "java/util/Arrays" = true := by first | (simp [plainName, overriddenIn]; done) | decide +kernel
theorem own_d5_0 : decode jdk_65_method_30_code 0 = .ok (.iload_n 1, 1) := by decide +kernel
theorem own_d5_1 : decode jdk_65_method_30_code 1 = .ok (.iload_n 2, 1) := by decide +kernel
theorem own_d5_2 : decode jdk_65_method_30_code 2 = .ok (.if_icmp .le 44, 3) := by decide +kernel
theorem own_d5_46 : decode jdk_65_method_30_code 46 = .ok (.iload_n 1, 1) := by decide +kernel
theorem own_d5_47 : decode jdk_65_method_30_code 47 = .ok (.ifCond .ge 12, 3) := by decide +kernel
theorem own_d5_59 : decode jdk_65_method_30_code 59 = .ok (.iload_n 2, 1) := by decide +kernel
theorem own_d5_60 : decode jdk_65_method_30_code 60 = .ok (.iload_n 0, 1) := by decide +kernel
theorem own_d5_61 : decode jdk_65_method_30_code 61 = .ok (.if_icmp .le 12, 3) := by decide +kernel
theorem own_d5_73 : decode jdk_65_method_30_code 73 = .ok (.return_, 1) := by decide +kernel
theorem own_ef_own_rm5_4_0_1 (m : MethodId)  : entryFrame m #[(.int (4 : Int32)), (.int (0 : Int32)), (.int (1 : Int32))] 3 = mkF m 0 #[.val (.int (4 : Int32)), .val (.int (0 : Int32)), .val (.int (1 : Int32))] [] := by first | (simp [entryFrame, mkF, argsToLocals, Value.category]; done) | rfl
def own_Q_own_rm5_4_0_1 (Z : State)  (h0 : Heap) (n0 : Nat) (v : Option Value) (h : Heap) : Prop := v = none ∧ h0 = h
set_option maxRecDepth 65536 in
set_option maxHeartbeats 40000000 in
theorem own_rm5_4_0_1 (l : Launch) (Z : State) (a0 : Array Value) (hw : ∀ d ∈ tables_1, d.before a0 Z = true) (ws : List Jvm.Cond)   (h0 : Heap) (n0 : Nat)   :
    own_Con l Z (⟨"java/util/Arrays", "rangeCheck", "(III)V"⟩ : MethodName) jdk_65_method_30_code 3 none ws ({ frames := 0, cells := 0, slots := 0, locals := 0 } : Room) #[(.int (4 : Int32)), (.int (0 : Int32)), (.int (1 : Int32))] h0 n0 (own_Q_own_rm5_4_0_1 Z  h0 n0) := by
  refine own_body (plainFor_of_name own_pn1) ?_
  intro p e s m below meth c T0 hx hZ hby hml hown hnm hret hlk Y0
  replace hown : s.vm.findClass "java/util/Arrays" = some m.cls := hown
  replace hnm : meth.name = "rangeCheck" := hnm
  rw [own_ef_own_rm5_4_0_1 m ]
  show own_Ends _ _ _ _ (T0.setTop (mkF m 0 #[.val (.int (4 : Int32)), .val (.int (0 : Int32)), .val (.int (1 : Int32))] []))
  refine own_st (fun t_ => XS.iloadN (own_here Y0) hx rfl (hb hby own_d5_0) rfl) ?_
  show own_Ends _ _ _ _ (T0.setTop (mkF m 1 #[.val (.int (4 : Int32)), .val (.int (0 : Int32)), .val (.int (1 : Int32))] [(.int (0 : Int32))]))
  refine own_st (fun t_ => XS.iloadN (own_here Y0) hx rfl (hb hby own_d5_1) rfl) ?_
  show own_Ends _ _ _ _ (T0.setTop (mkF m 2 #[.val (.int (4 : Int32)), .val (.int (0 : Int32)), .val (.int (1 : Int32))] [(.int (1 : Int32)), (.int (0 : Int32))]))
  refine own_st (fun t_ => XS.icmpYes (own_here Y0) hx rfl (pc0 := 2) (pc' := 46) rfl (hb hby own_d5_2) rfl (XT.ii_le_t (by decide)) (by decide) (by decide)) ?_
  show own_Ends _ _ _ _ (T0.setTop (mkF m 46 #[.val (.int (4 : Int32)), .val (.int (0 : Int32)), .val (.int (1 : Int32))] []))
  refine own_st (fun t_ => XS.iloadN (own_here Y0) hx rfl (hb hby own_d5_46) rfl) ?_
  show own_Ends _ _ _ _ (T0.setTop (mkF m 47 #[.val (.int (4 : Int32)), .val (.int (0 : Int32)), .val (.int (1 : Int32))] [(.int (0 : Int32))]))
  refine own_st (fun t_ => XS.ifYes (own_here Y0) hx rfl (pc0 := 47) (pc' := 59) rfl (hb hby own_d5_47) rfl (XT.i0_ge_t (by decide)) (by decide) (by decide)) ?_
  show own_Ends _ _ _ _ (T0.setTop (mkF m 59 #[.val (.int (4 : Int32)), .val (.int (0 : Int32)), .val (.int (1 : Int32))] []))
  refine own_st (fun t_ => XS.iloadN (own_here Y0) hx rfl (hb hby own_d5_59) rfl) ?_
  show own_Ends _ _ _ _ (T0.setTop (mkF m 60 #[.val (.int (4 : Int32)), .val (.int (0 : Int32)), .val (.int (1 : Int32))] [(.int (1 : Int32))]))
  refine own_st (fun t_ => XS.iloadN (own_here Y0) hx rfl (hb hby own_d5_60) rfl) ?_
  show own_Ends _ _ _ _ (T0.setTop (mkF m 61 #[.val (.int (4 : Int32)), .val (.int (0 : Int32)), .val (.int (1 : Int32))] [(.int (4 : Int32)), (.int (1 : Int32))]))
  refine own_st (fun t_ => XS.icmpYes (own_here Y0) hx rfl (pc0 := 61) (pc' := 73) rfl (hb hby own_d5_61) rfl (XT.ii_le_t (by decide)) (by decide) (by decide)) ?_
  show own_Ends _ _ _ _ (T0.setTop (mkF m 73 #[.val (.int (4 : Int32)), .val (.int (0 : Int32)), .val (.int (1 : Int32))] []))
  refine own_retV Y0 hx hlk hret (hb hby own_d5_73) (by decide) (by decide) ?_
  exact ⟨rfl, rfl⟩
theorem own_pd0 : parseMethodDescriptor "(III)V" = some ⟨[.int, .int, .int], none⟩ := by decide +kernel
theorem own_d4_0 : decode jdk_65_method_104_code 0 = .ok (.aload_n 0, 1) := by decide +kernel
theorem own_d4_1 : decode jdk_65_method_104_code 1 = .ok (.arraylength, 1) := by decide +kernel
theorem own_d4_2 : decode jdk_65_method_104_code 2 = .ok (.iload_n 1, 1) := by decide +kernel
theorem own_d4_3 : decode jdk_65_method_104_code 3 = .ok (.iload_n 2, 1) := by decide +kernel
theorem own_d4_4 : decode jdk_65_method_104_code 4 = .ok (.invokestatic 13, 3) := by decide +kernel
theorem own_d4_7 : decode jdk_65_method_104_code 7 = .ok (.iload_n 1, 1) := by decide +kernel
theorem own_d4_8 : decode jdk_65_method_104_code 8 = .ok (.istore 4, 2) := by decide +kernel
theorem own_d4_10 : decode jdk_65_method_104_code 10 = .ok (.iload 4, 2) := by decide +kernel
theorem own_d4_12 : decode jdk_65_method_104_code 12 = .ok (.iload_n 2, 1) := by decide +kernel
theorem own_d4_13 : decode jdk_65_method_104_code 13 = .ok (.if_icmp .ge 14, 3) := by decide +kernel
theorem own_d4_16 : decode jdk_65_method_104_code 16 = .ok (.aload_n 0, 1) := by decide +kernel
theorem own_d4_17 : decode jdk_65_method_104_code 17 = .ok (.iload 4, 2) := by decide +kernel
theorem own_d4_19 : decode jdk_65_method_104_code 19 = .ok (.iload_n 3, 1) := by decide +kernel
theorem own_d4_20 : decode jdk_65_method_104_code 20 = .ok (.iastore, 1) := by decide +kernel
theorem own_d4_21 : decode jdk_65_method_104_code 21 = .ok (.iinc 4 1, 3) := by decide +kernel
theorem own_d4_24 : decode jdk_65_method_104_code 24 = .ok (.goto (-14), 3) := by decide +kernel
theorem own_d4_27 : decode jdk_65_method_104_code 27 = .ok (.return_, 1) := by decide +kernel
theorem own_ef_own_rm4_0_1 (m : MethodId) (r0 : Addr) : entryFrame m #[(.ref r0), (.int (0 : Int32)), (.int (1 : Int32)), (.int (0 : Int32))] 5 = mkF m 0 #[.val (.ref r0), .val (.int (0 : Int32)), .val (.int (1 : Int32)), .val (.int (0 : Int32)), .unset] [] := by first | (simp [entryFrame, mkF, argsToLocals, Value.category]; done) | rfl
def own_Q_own_rm4_0_1 (Z : State) (r0 : Addr) (h0 : Heap) (n0 : Nat) (v : Option Value) (h : Heap) : Prop := v = none ∧ Keep h0 h [r0] ∧ own_A Z h r0 .int [(.int 0), (.int 0), (.int 0), (.int 0)]
set_option maxRecDepth 65536 in
set_option maxHeartbeats 40000000 in
theorem own_rm4_0_1 (l : Launch) (Z : State) (a0 : Array Value) (hw : ∀ d ∈ tables_1, d.before a0 Z = true) (ws : List Jvm.Cond) (r0 : Addr)  (h0 : Heap) (n0 : Nat)  (A : own_A Z h0 r0 .int [(.int 0), (.int 0), (.int 0), (.int 0)]) (g : n0 ≤ r0) :
    own_Con l Z (⟨"java/util/Arrays", "fill", "([IIII)V"⟩ : MethodName) jdk_65_method_104_code 5 none ws ({ frames := 1, cells := 0, slots := 0, locals := 14 } : Room) #[(.ref r0), (.int (0 : Int32)), (.int (1 : Int32)), (.int (0 : Int32))] h0 n0 (own_Q_own_rm4_0_1 Z r0 h0 n0) := by
  refine own_body (plainFor_of_name own_pn1) ?_
  intro p e s m below meth c T0 hx hZ hby hml hown hnm hret hlk Y0
  replace hown : s.vm.findClass "java/util/Arrays" = some m.cls := hown
  replace hnm : meth.name = "fill" := hnm
  rw [own_ef_own_rm4_0_1 m r0]
  show own_Ends _ _ _ _ (T0.setTop (mkF m 0 #[.val (.ref r0), .val (.int (0 : Int32)), .val (.int (1 : Int32)), .val (.int (0 : Int32)), .unset] []))
  refine own_st (fun t_ => XS.aloadN (own_here Y0) hx rfl (hb hby own_d4_0) rfl rfl) ?_
  show own_Ends _ _ _ _ (T0.setTop (mkF m 1 #[.val (.ref r0), .val (.int (0 : Int32)), .val (.int (1 : Int32)), .val (.int (0 : Int32)), .unset] [(.ref r0)]))
  refine own_len Y0 hx hZ A (z := (4 : Int32)) rfl rfl rfl (hb hby own_d4_1) ?_
  show own_Ends _ _ _ _ (T0.setTop (mkF m 2 #[.val (.ref r0), .val (.int (0 : Int32)), .val (.int (1 : Int32)), .val (.int (0 : Int32)), .unset] [(.int (4 : Int32))]))
  refine own_st (fun t_ => XS.iloadN (own_here Y0) hx rfl (hb hby own_d4_2) rfl) ?_
  show own_Ends _ _ _ _ (T0.setTop (mkF m 3 #[.val (.ref r0), .val (.int (0 : Int32)), .val (.int (1 : Int32)), .val (.int (0 : Int32)), .unset] [(.int (0 : Int32)), (.int (4 : Int32))]))
  refine own_st (fun t_ => XS.iloadN (own_here Y0) hx rfl (hb hby own_d4_3) rfl) ?_
  show own_Ends _ _ _ _ (T0.setTop (mkF m 4 #[.val (.ref r0), .val (.int (0 : Int32)), .val (.int (1 : Int32)), .val (.int (0 : Int32)), .unset] [(.int (1 : Int32)), (.int (0 : Int32)), (.int (4 : Int32))]))
  refine own_callS Y0 hx hZ (y := (⟨"java/util/Arrays", "rangeCheck", "(III)V"⟩ : MethodName)) hown (hw _ (List.mem_of_getElem? (i := 39) rfl)) (hw _ (List.mem_of_getElem? (i := 40) rfl)) (hw _ (List.mem_of_getElem? (i := 37) rfl)) (hw _ (List.mem_of_getElem? (i := 41) rfl)) (by decide) (argsL := [(.int (4 : Int32)), (.int (0 : Int32)), (.int (1 : Int32))]) (rest := []) (own_rm5_4_0_1 l Z a0 hw []   h0 n0  ) (W := 0) (by decide) (by decide) (by decide) (by decide) rfl (by rw [hml]; rfl) (lenOf own_pd0 rfl) rfl (by show 2 * 0 + _ ≤ _; exact Nat.le_of_eq rfl) (hb hby own_d4_4) (fun T47 h49 v50 Y48 q51 => ?_)
  obtain ⟨rfl, rfl⟩ := q51
  show own_Ends _ _ _ _ (T47.setTop (mkF m 7 #[.val (.ref r0), .val (.int (0 : Int32)), .val (.int (1 : Int32)), .val (.int (0 : Int32)), .unset] []))
  refine own_st (fun t_ => XS.iloadN (own_here Y48) hx rfl (hb hby own_d4_7) rfl) ?_
  show own_Ends _ _ _ _ (T47.setTop (mkF m 8 #[.val (.ref r0), .val (.int (0 : Int32)), .val (.int (1 : Int32)), .val (.int (0 : Int32)), .unset] [(.int (0 : Int32))]))
  refine own_st (fun t_ => XS.istore (own_here Y48) hx rfl (hb hby own_d4_8) rfl (l' := #[.val (.ref r0), .val (.int (0 : Int32)), .val (.int (1 : Int32)), .val (.int (0 : Int32)), .val (.int (0 : Int32))]) rfl) ?_
  show own_Ends _ _ _ _ (T47.setTop (mkF m 10 #[.val (.ref r0), .val (.int (0 : Int32)), .val (.int (1 : Int32)), .val (.int (0 : Int32)), .val (.int (0 : Int32))] []))
  refine own_st (fun t_ => XS.iload (own_here Y48) hx rfl (hb hby own_d4_10) rfl) ?_
  show own_Ends _ _ _ _ (T47.setTop (mkF m 12 #[.val (.ref r0), .val (.int (0 : Int32)), .val (.int (1 : Int32)), .val (.int (0 : Int32)), .val (.int (0 : Int32))] [(.int (0 : Int32))]))
  refine own_st (fun t_ => XS.iloadN (own_here Y48) hx rfl (hb hby own_d4_12) rfl) ?_
  show own_Ends _ _ _ _ (T47.setTop (mkF m 13 #[.val (.ref r0), .val (.int (0 : Int32)), .val (.int (1 : Int32)), .val (.int (0 : Int32)), .val (.int (0 : Int32))] [(.int (1 : Int32)), (.int (0 : Int32))]))
  refine own_st (fun t_ => XS.icmpNo (own_here Y48) hx rfl (hb hby own_d4_13) rfl (XT.ii_ge_f (by decide))) ?_
  show own_Ends _ _ _ _ (T47.setTop (mkF m 16 #[.val (.ref r0), .val (.int (0 : Int32)), .val (.int (1 : Int32)), .val (.int (0 : Int32)), .val (.int (0 : Int32))] []))
  refine own_st (fun t_ => XS.aloadN (own_here Y48) hx rfl (hb hby own_d4_16) rfl rfl) ?_
  show own_Ends _ _ _ _ (T47.setTop (mkF m 17 #[.val (.ref r0), .val (.int (0 : Int32)), .val (.int (1 : Int32)), .val (.int (0 : Int32)), .val (.int (0 : Int32))] [(.ref r0)]))
  refine own_st (fun t_ => XS.iload (own_here Y48) hx rfl (hb hby own_d4_17) rfl) ?_
  show own_Ends _ _ _ _ (T47.setTop (mkF m 19 #[.val (.ref r0), .val (.int (0 : Int32)), .val (.int (1 : Int32)), .val (.int (0 : Int32)), .val (.int (0 : Int32))] [(.int (0 : Int32)), (.ref r0)]))
  refine own_st (fun t_ => XS.iloadN (own_here Y48) hx rfl (hb hby own_d4_19) rfl) ?_
  show own_Ends _ _ _ _ (T47.setTop (mkF m 20 #[.val (.ref r0), .val (.int (0 : Int32)), .val (.int (1 : Int32)), .val (.int (0 : Int32)), .val (.int (0 : Int32))] [(.int (0 : Int32)), (.int (0 : Int32)), (.ref r0)]))
  refine own_stI Y48 hx hZ A g (i := 0) (by decide) (by decide) (Nat.le_of_ble_eq_true rfl) rfl rfl (hb hby own_d4_20) (fun T52 h54 Y53 W55 A56 => ?_)
  replace A56 : own_A Z h54 r0 .int [(.int (0 : Int32)), (.int (0 : Int32)), (.int (0 : Int32)), (.int (0 : Int32))] := A56
  show own_Ends _ _ _ _ (T52.setTop (mkF m 21 #[.val (.ref r0), .val (.int (0 : Int32)), .val (.int (1 : Int32)), .val (.int (0 : Int32)), .val (.int (0 : Int32))] []))
  refine own_st (fun t_ => XS.iinc (own_here Y53) hx rfl (hb hby own_d4_21) rfl (l' := #[.val (.ref r0), .val (.int (0 : Int32)), .val (.int (1 : Int32)), .val (.int (0 : Int32)), .val (.int (1 : Int32))]) rfl) ?_
  show own_Ends _ _ _ _ (T52.setTop (mkF m 24 #[.val (.ref r0), .val (.int (0 : Int32)), .val (.int (1 : Int32)), .val (.int (0 : Int32)), .val (.int (1 : Int32))] []))
  refine own_st (fun t_ => XS.goto (own_here Y53) hx rfl (pc0 := 24) (pc' := 10) rfl (hb hby own_d4_24) (by decide) (by decide)) ?_
  show own_Ends _ _ _ _ (T52.setTop (mkF m 10 #[.val (.ref r0), .val (.int (0 : Int32)), .val (.int (1 : Int32)), .val (.int (0 : Int32)), .val (.int (1 : Int32))] []))
  refine own_st (fun t_ => XS.iload (own_here Y53) hx rfl (hb hby own_d4_10) rfl) ?_
  show own_Ends _ _ _ _ (T52.setTop (mkF m 12 #[.val (.ref r0), .val (.int (0 : Int32)), .val (.int (1 : Int32)), .val (.int (0 : Int32)), .val (.int (1 : Int32))] [(.int (1 : Int32))]))
  refine own_st (fun t_ => XS.iloadN (own_here Y53) hx rfl (hb hby own_d4_12) rfl) ?_
  show own_Ends _ _ _ _ (T52.setTop (mkF m 13 #[.val (.ref r0), .val (.int (0 : Int32)), .val (.int (1 : Int32)), .val (.int (0 : Int32)), .val (.int (1 : Int32))] [(.int (1 : Int32)), (.int (1 : Int32))]))
  refine own_st (fun t_ => XS.icmpYes (own_here Y53) hx rfl (pc0 := 13) (pc' := 27) rfl (hb hby own_d4_13) rfl (XT.ii_ge_t (by decide)) (by decide) (by decide)) ?_
  show own_Ends _ _ _ _ (T52.setTop (mkF m 27 #[.val (.ref r0), .val (.int (0 : Int32)), .val (.int (1 : Int32)), .val (.int (0 : Int32)), .val (.int (1 : Int32))] []))
  have K57 : Keep h0 h54 [r0] := (Keep.refl h0 [r0]).wr W55 (Or.inl (List.mem_of_getElem? (i := 0) rfl))
  refine own_retV Y53 hx hlk hret (hb hby own_d4_27) (by decide) (by decide) ?_
  exact ⟨rfl, K57, A56⟩
theorem own_ef_own_rm5_4_1_3 (m : MethodId)  : entryFrame m #[(.int (4 : Int32)), (.int (1 : Int32)), (.int (3 : Int32))] 3 = mkF m 0 #[.val (.int (4 : Int32)), .val (.int (1 : Int32)), .val (.int (3 : Int32))] [] := by first | (simp [entryFrame, mkF, argsToLocals, Value.category]; done) | rfl
def own_Q_own_rm5_4_1_3 (Z : State)  (h0 : Heap) (n0 : Nat) (v : Option Value) (h : Heap) : Prop := v = none ∧ h0 = h
set_option maxRecDepth 65536 in
set_option maxHeartbeats 40000000 in
theorem own_rm5_4_1_3 (l : Launch) (Z : State) (a0 : Array Value) (hw : ∀ d ∈ tables_1, d.before a0 Z = true) (ws : List Jvm.Cond)   (h0 : Heap) (n0 : Nat)   :
    own_Con l Z (⟨"java/util/Arrays", "rangeCheck", "(III)V"⟩ : MethodName) jdk_65_method_30_code 3 none ws ({ frames := 0, cells := 0, slots := 0, locals := 0 } : Room) #[(.int (4 : Int32)), (.int (1 : Int32)), (.int (3 : Int32))] h0 n0 (own_Q_own_rm5_4_1_3 Z  h0 n0) := by
  refine own_body (plainFor_of_name own_pn1) ?_
  intro p e s m below meth c T0 hx hZ hby hml hown hnm hret hlk Y0
  replace hown : s.vm.findClass "java/util/Arrays" = some m.cls := hown
  replace hnm : meth.name = "rangeCheck" := hnm
  rw [own_ef_own_rm5_4_1_3 m ]
  show own_Ends _ _ _ _ (T0.setTop (mkF m 0 #[.val (.int (4 : Int32)), .val (.int (1 : Int32)), .val (.int (3 : Int32))] []))
  refine own_st (fun t_ => XS.iloadN (own_here Y0) hx rfl (hb hby own_d5_0) rfl) ?_
  show own_Ends _ _ _ _ (T0.setTop (mkF m 1 #[.val (.int (4 : Int32)), .val (.int (1 : Int32)), .val (.int (3 : Int32))] [(.int (1 : Int32))]))
  refine own_st (fun t_ => XS.iloadN (own_here Y0) hx rfl (hb hby own_d5_1) rfl) ?_
  show own_Ends _ _ _ _ (T0.setTop (mkF m 2 #[.val (.int (4 : Int32)), .val (.int (1 : Int32)), .val (.int (3 : Int32))] [(.int (3 : Int32)), (.int (1 : Int32))]))
  refine own_st (fun t_ => XS.icmpYes (own_here Y0) hx rfl (pc0 := 2) (pc' := 46) rfl (hb hby own_d5_2) rfl (XT.ii_le_t (by decide)) (by decide) (by decide)) ?_
  show own_Ends _ _ _ _ (T0.setTop (mkF m 46 #[.val (.int (4 : Int32)), .val (.int (1 : Int32)), .val (.int (3 : Int32))] []))
  refine own_st (fun t_ => XS.iloadN (own_here Y0) hx rfl (hb hby own_d5_46) rfl) ?_
  show own_Ends _ _ _ _ (T0.setTop (mkF m 47 #[.val (.int (4 : Int32)), .val (.int (1 : Int32)), .val (.int (3 : Int32))] [(.int (1 : Int32))]))
  refine own_st (fun t_ => XS.ifYes (own_here Y0) hx rfl (pc0 := 47) (pc' := 59) rfl (hb hby own_d5_47) rfl (XT.i0_ge_t (by decide)) (by decide) (by decide)) ?_
  show own_Ends _ _ _ _ (T0.setTop (mkF m 59 #[.val (.int (4 : Int32)), .val (.int (1 : Int32)), .val (.int (3 : Int32))] []))
  refine own_st (fun t_ => XS.iloadN (own_here Y0) hx rfl (hb hby own_d5_59) rfl) ?_
  show own_Ends _ _ _ _ (T0.setTop (mkF m 60 #[.val (.int (4 : Int32)), .val (.int (1 : Int32)), .val (.int (3 : Int32))] [(.int (3 : Int32))]))
  refine own_st (fun t_ => XS.iloadN (own_here Y0) hx rfl (hb hby own_d5_60) rfl) ?_
  show own_Ends _ _ _ _ (T0.setTop (mkF m 61 #[.val (.int (4 : Int32)), .val (.int (1 : Int32)), .val (.int (3 : Int32))] [(.int (4 : Int32)), (.int (3 : Int32))]))
  refine own_st (fun t_ => XS.icmpYes (own_here Y0) hx rfl (pc0 := 61) (pc' := 73) rfl (hb hby own_d5_61) rfl (XT.ii_le_t (by decide)) (by decide) (by decide)) ?_
  show own_Ends _ _ _ _ (T0.setTop (mkF m 73 #[.val (.int (4 : Int32)), .val (.int (1 : Int32)), .val (.int (3 : Int32))] []))
  refine own_retV Y0 hx hlk hret (hb hby own_d5_73) (by decide) (by decide) ?_
  exact ⟨rfl, rfl⟩
theorem own_ef_own_rm4_1_3 (m : MethodId) (r0 : Addr) : entryFrame m #[(.ref r0), (.int (1 : Int32)), (.int (3 : Int32)), (.int (1 : Int32))] 5 = mkF m 0 #[.val (.ref r0), .val (.int (1 : Int32)), .val (.int (3 : Int32)), .val (.int (1 : Int32)), .unset] [] := by first | (simp [entryFrame, mkF, argsToLocals, Value.category]; done) | rfl
def own_Q_own_rm4_1_3 (Z : State) (r0 : Addr) (h0 : Heap) (n0 : Nat) (v : Option Value) (h : Heap) : Prop := v = none ∧ Keep h0 h [r0] ∧ own_A Z h r0 .int [(.int 0), (.int 1), (.int 1), (.int 0)]
set_option maxRecDepth 65536 in
set_option maxHeartbeats 40000000 in
theorem own_rm4_1_3 (l : Launch) (Z : State) (a0 : Array Value) (hw : ∀ d ∈ tables_1, d.before a0 Z = true) (ws : List Jvm.Cond) (r0 : Addr)  (h0 : Heap) (n0 : Nat)  (A : own_A Z h0 r0 .int [(.int 0), (.int 0), (.int 0), (.int 0)]) (g : n0 ≤ r0) :
    own_Con l Z (⟨"java/util/Arrays", "fill", "([IIII)V"⟩ : MethodName) jdk_65_method_104_code 5 none ws ({ frames := 1, cells := 0, slots := 0, locals := 14 } : Room) #[(.ref r0), (.int (1 : Int32)), (.int (3 : Int32)), (.int (1 : Int32))] h0 n0 (own_Q_own_rm4_1_3 Z r0 h0 n0) := by
  refine own_body (plainFor_of_name own_pn1) ?_
  intro p e s m below meth c T0 hx hZ hby hml hown hnm hret hlk Y0
  replace hown : s.vm.findClass "java/util/Arrays" = some m.cls := hown
  replace hnm : meth.name = "fill" := hnm
  rw [own_ef_own_rm4_1_3 m r0]
  show own_Ends _ _ _ _ (T0.setTop (mkF m 0 #[.val (.ref r0), .val (.int (1 : Int32)), .val (.int (3 : Int32)), .val (.int (1 : Int32)), .unset] []))
  refine own_st (fun t_ => XS.aloadN (own_here Y0) hx rfl (hb hby own_d4_0) rfl rfl) ?_
  show own_Ends _ _ _ _ (T0.setTop (mkF m 1 #[.val (.ref r0), .val (.int (1 : Int32)), .val (.int (3 : Int32)), .val (.int (1 : Int32)), .unset] [(.ref r0)]))
  refine own_len Y0 hx hZ A (z := (4 : Int32)) rfl rfl rfl (hb hby own_d4_1) ?_
  show own_Ends _ _ _ _ (T0.setTop (mkF m 2 #[.val (.ref r0), .val (.int (1 : Int32)), .val (.int (3 : Int32)), .val (.int (1 : Int32)), .unset] [(.int (4 : Int32))]))
  refine own_st (fun t_ => XS.iloadN (own_here Y0) hx rfl (hb hby own_d4_2) rfl) ?_
  show own_Ends _ _ _ _ (T0.setTop (mkF m 3 #[.val (.ref r0), .val (.int (1 : Int32)), .val (.int (3 : Int32)), .val (.int (1 : Int32)), .unset] [(.int (1 : Int32)), (.int (4 : Int32))]))
  refine own_st (fun t_ => XS.iloadN (own_here Y0) hx rfl (hb hby own_d4_3) rfl) ?_
  show own_Ends _ _ _ _ (T0.setTop (mkF m 4 #[.val (.ref r0), .val (.int (1 : Int32)), .val (.int (3 : Int32)), .val (.int (1 : Int32)), .unset] [(.int (3 : Int32)), (.int (1 : Int32)), (.int (4 : Int32))]))
  refine own_callS Y0 hx hZ (y := (⟨"java/util/Arrays", "rangeCheck", "(III)V"⟩ : MethodName)) hown (hw _ (List.mem_of_getElem? (i := 39) rfl)) (hw _ (List.mem_of_getElem? (i := 40) rfl)) (hw _ (List.mem_of_getElem? (i := 37) rfl)) (hw _ (List.mem_of_getElem? (i := 41) rfl)) (by decide) (argsL := [(.int (4 : Int32)), (.int (1 : Int32)), (.int (3 : Int32))]) (rest := []) (own_rm5_4_1_3 l Z a0 hw []   h0 n0  ) (W := 0) (by decide) (by decide) (by decide) (by decide) rfl (by rw [hml]; rfl) (lenOf own_pd0 rfl) rfl (by show 2 * 0 + _ ≤ _; exact Nat.le_of_eq rfl) (hb hby own_d4_4) (fun T58 h60 v61 Y59 q62 => ?_)
  obtain ⟨rfl, rfl⟩ := q62
  show own_Ends _ _ _ _ (T58.setTop (mkF m 7 #[.val (.ref r0), .val (.int (1 : Int32)), .val (.int (3 : Int32)), .val (.int (1 : Int32)), .unset] []))
  refine own_st (fun t_ => XS.iloadN (own_here Y59) hx rfl (hb hby own_d4_7) rfl) ?_
  show own_Ends _ _ _ _ (T58.setTop (mkF m 8 #[.val (.ref r0), .val (.int (1 : Int32)), .val (.int (3 : Int32)), .val (.int (1 : Int32)), .unset] [(.int (1 : Int32))]))
  refine own_st (fun t_ => XS.istore (own_here Y59) hx rfl (hb hby own_d4_8) rfl (l' := #[.val (.ref r0), .val (.int (1 : Int32)), .val (.int (3 : Int32)), .val (.int (1 : Int32)), .val (.int (1 : Int32))]) rfl) ?_
  show own_Ends _ _ _ _ (T58.setTop (mkF m 10 #[.val (.ref r0), .val (.int (1 : Int32)), .val (.int (3 : Int32)), .val (.int (1 : Int32)), .val (.int (1 : Int32))] []))
  refine own_st (fun t_ => XS.iload (own_here Y59) hx rfl (hb hby own_d4_10) rfl) ?_
  show own_Ends _ _ _ _ (T58.setTop (mkF m 12 #[.val (.ref r0), .val (.int (1 : Int32)), .val (.int (3 : Int32)), .val (.int (1 : Int32)), .val (.int (1 : Int32))] [(.int (1 : Int32))]))
  refine own_st (fun t_ => XS.iloadN (own_here Y59) hx rfl (hb hby own_d4_12) rfl) ?_
  show own_Ends _ _ _ _ (T58.setTop (mkF m 13 #[.val (.ref r0), .val (.int (1 : Int32)), .val (.int (3 : Int32)), .val (.int (1 : Int32)), .val (.int (1 : Int32))] [(.int (3 : Int32)), (.int (1 : Int32))]))
  refine own_st (fun t_ => XS.icmpNo (own_here Y59) hx rfl (hb hby own_d4_13) rfl (XT.ii_ge_f (by decide))) ?_
  show own_Ends _ _ _ _ (T58.setTop (mkF m 16 #[.val (.ref r0), .val (.int (1 : Int32)), .val (.int (3 : Int32)), .val (.int (1 : Int32)), .val (.int (1 : Int32))] []))
  refine own_st (fun t_ => XS.aloadN (own_here Y59) hx rfl (hb hby own_d4_16) rfl rfl) ?_
  show own_Ends _ _ _ _ (T58.setTop (mkF m 17 #[.val (.ref r0), .val (.int (1 : Int32)), .val (.int (3 : Int32)), .val (.int (1 : Int32)), .val (.int (1 : Int32))] [(.ref r0)]))
  refine own_st (fun t_ => XS.iload (own_here Y59) hx rfl (hb hby own_d4_17) rfl) ?_
  show own_Ends _ _ _ _ (T58.setTop (mkF m 19 #[.val (.ref r0), .val (.int (1 : Int32)), .val (.int (3 : Int32)), .val (.int (1 : Int32)), .val (.int (1 : Int32))] [(.int (1 : Int32)), (.ref r0)]))
  refine own_st (fun t_ => XS.iloadN (own_here Y59) hx rfl (hb hby own_d4_19) rfl) ?_
  show own_Ends _ _ _ _ (T58.setTop (mkF m 20 #[.val (.ref r0), .val (.int (1 : Int32)), .val (.int (3 : Int32)), .val (.int (1 : Int32)), .val (.int (1 : Int32))] [(.int (1 : Int32)), (.int (1 : Int32)), (.ref r0)]))
  refine own_stI Y59 hx hZ A g (i := 1) (by decide) (by decide) (Nat.le_of_ble_eq_true rfl) rfl rfl (hb hby own_d4_20) (fun T63 h65 Y64 W66 A67 => ?_)
  replace A67 : own_A Z h65 r0 .int [(.int (0 : Int32)), (.int (1 : Int32)), (.int (0 : Int32)), (.int (0 : Int32))] := A67
  show own_Ends _ _ _ _ (T63.setTop (mkF m 21 #[.val (.ref r0), .val (.int (1 : Int32)), .val (.int (3 : Int32)), .val (.int (1 : Int32)), .val (.int (1 : Int32))] []))
  refine own_st (fun t_ => XS.iinc (own_here Y64) hx rfl (hb hby own_d4_21) rfl (l' := #[.val (.ref r0), .val (.int (1 : Int32)), .val (.int (3 : Int32)), .val (.int (1 : Int32)), .val (.int (2 : Int32))]) rfl) ?_
  show own_Ends _ _ _ _ (T63.setTop (mkF m 24 #[.val (.ref r0), .val (.int (1 : Int32)), .val (.int (3 : Int32)), .val (.int (1 : Int32)), .val (.int (2 : Int32))] []))
  refine own_st (fun t_ => XS.goto (own_here Y64) hx rfl (pc0 := 24) (pc' := 10) rfl (hb hby own_d4_24) (by decide) (by decide)) ?_
  show own_Ends _ _ _ _ (T63.setTop (mkF m 10 #[.val (.ref r0), .val (.int (1 : Int32)), .val (.int (3 : Int32)), .val (.int (1 : Int32)), .val (.int (2 : Int32))] []))
  refine own_st (fun t_ => XS.iload (own_here Y64) hx rfl (hb hby own_d4_10) rfl) ?_
  show own_Ends _ _ _ _ (T63.setTop (mkF m 12 #[.val (.ref r0), .val (.int (1 : Int32)), .val (.int (3 : Int32)), .val (.int (1 : Int32)), .val (.int (2 : Int32))] [(.int (2 : Int32))]))
  refine own_st (fun t_ => XS.iloadN (own_here Y64) hx rfl (hb hby own_d4_12) rfl) ?_
  show own_Ends _ _ _ _ (T63.setTop (mkF m 13 #[.val (.ref r0), .val (.int (1 : Int32)), .val (.int (3 : Int32)), .val (.int (1 : Int32)), .val (.int (2 : Int32))] [(.int (3 : Int32)), (.int (2 : Int32))]))
  refine own_st (fun t_ => XS.icmpNo (own_here Y64) hx rfl (hb hby own_d4_13) rfl (XT.ii_ge_f (by decide))) ?_
  show own_Ends _ _ _ _ (T63.setTop (mkF m 16 #[.val (.ref r0), .val (.int (1 : Int32)), .val (.int (3 : Int32)), .val (.int (1 : Int32)), .val (.int (2 : Int32))] []))
  refine own_st (fun t_ => XS.aloadN (own_here Y64) hx rfl (hb hby own_d4_16) rfl rfl) ?_
  show own_Ends _ _ _ _ (T63.setTop (mkF m 17 #[.val (.ref r0), .val (.int (1 : Int32)), .val (.int (3 : Int32)), .val (.int (1 : Int32)), .val (.int (2 : Int32))] [(.ref r0)]))
  refine own_st (fun t_ => XS.iload (own_here Y64) hx rfl (hb hby own_d4_17) rfl) ?_
  show own_Ends _ _ _ _ (T63.setTop (mkF m 19 #[.val (.ref r0), .val (.int (1 : Int32)), .val (.int (3 : Int32)), .val (.int (1 : Int32)), .val (.int (2 : Int32))] [(.int (2 : Int32)), (.ref r0)]))
  refine own_st (fun t_ => XS.iloadN (own_here Y64) hx rfl (hb hby own_d4_19) rfl) ?_
  show own_Ends _ _ _ _ (T63.setTop (mkF m 20 #[.val (.ref r0), .val (.int (1 : Int32)), .val (.int (3 : Int32)), .val (.int (1 : Int32)), .val (.int (2 : Int32))] [(.int (1 : Int32)), (.int (2 : Int32)), (.ref r0)]))
  refine own_stI Y64 hx hZ A67 g (i := 2) (by decide) (by decide) (Nat.le_of_ble_eq_true rfl) rfl rfl (hb hby own_d4_20) (fun T68 h70 Y69 W71 A72 => ?_)
  replace A72 : own_A Z h70 r0 .int [(.int (0 : Int32)), (.int (1 : Int32)), (.int (1 : Int32)), (.int (0 : Int32))] := A72
  show own_Ends _ _ _ _ (T68.setTop (mkF m 21 #[.val (.ref r0), .val (.int (1 : Int32)), .val (.int (3 : Int32)), .val (.int (1 : Int32)), .val (.int (2 : Int32))] []))
  refine own_st (fun t_ => XS.iinc (own_here Y69) hx rfl (hb hby own_d4_21) rfl (l' := #[.val (.ref r0), .val (.int (1 : Int32)), .val (.int (3 : Int32)), .val (.int (1 : Int32)), .val (.int (3 : Int32))]) rfl) ?_
  show own_Ends _ _ _ _ (T68.setTop (mkF m 24 #[.val (.ref r0), .val (.int (1 : Int32)), .val (.int (3 : Int32)), .val (.int (1 : Int32)), .val (.int (3 : Int32))] []))
  refine own_st (fun t_ => XS.goto (own_here Y69) hx rfl (pc0 := 24) (pc' := 10) rfl (hb hby own_d4_24) (by decide) (by decide)) ?_
  show own_Ends _ _ _ _ (T68.setTop (mkF m 10 #[.val (.ref r0), .val (.int (1 : Int32)), .val (.int (3 : Int32)), .val (.int (1 : Int32)), .val (.int (3 : Int32))] []))
  refine own_st (fun t_ => XS.iload (own_here Y69) hx rfl (hb hby own_d4_10) rfl) ?_
  show own_Ends _ _ _ _ (T68.setTop (mkF m 12 #[.val (.ref r0), .val (.int (1 : Int32)), .val (.int (3 : Int32)), .val (.int (1 : Int32)), .val (.int (3 : Int32))] [(.int (3 : Int32))]))
  refine own_st (fun t_ => XS.iloadN (own_here Y69) hx rfl (hb hby own_d4_12) rfl) ?_
  show own_Ends _ _ _ _ (T68.setTop (mkF m 13 #[.val (.ref r0), .val (.int (1 : Int32)), .val (.int (3 : Int32)), .val (.int (1 : Int32)), .val (.int (3 : Int32))] [(.int (3 : Int32)), (.int (3 : Int32))]))
  refine own_st (fun t_ => XS.icmpYes (own_here Y69) hx rfl (pc0 := 13) (pc' := 27) rfl (hb hby own_d4_13) rfl (XT.ii_ge_t (by decide)) (by decide) (by decide)) ?_
  show own_Ends _ _ _ _ (T68.setTop (mkF m 27 #[.val (.ref r0), .val (.int (1 : Int32)), .val (.int (3 : Int32)), .val (.int (1 : Int32)), .val (.int (3 : Int32))] []))
  have K73 : Keep h0 h65 [r0] := (Keep.refl h0 [r0]).wr W66 (Or.inl (List.mem_of_getElem? (i := 0) rfl))
  have K74 : Keep h0 h70 [r0] := K73.wr W71 (Or.inl (List.mem_of_getElem? (i := 0) rfl))
  refine own_retV Y69 hx hlk hret (hb hby own_d4_27) (by decide) (by decide) ?_
  exact ⟨rfl, K74, A72⟩
theorem own_ef_own_rm5_4_3_4 (m : MethodId)  : entryFrame m #[(.int (4 : Int32)), (.int (3 : Int32)), (.int (4 : Int32))] 3 = mkF m 0 #[.val (.int (4 : Int32)), .val (.int (3 : Int32)), .val (.int (4 : Int32))] [] := by first | (simp [entryFrame, mkF, argsToLocals, Value.category]; done) | rfl
def own_Q_own_rm5_4_3_4 (Z : State)  (h0 : Heap) (n0 : Nat) (v : Option Value) (h : Heap) : Prop := v = none ∧ h0 = h
set_option maxRecDepth 65536 in
set_option maxHeartbeats 40000000 in
theorem own_rm5_4_3_4 (l : Launch) (Z : State) (a0 : Array Value) (hw : ∀ d ∈ tables_1, d.before a0 Z = true) (ws : List Jvm.Cond)   (h0 : Heap) (n0 : Nat)   :
    own_Con l Z (⟨"java/util/Arrays", "rangeCheck", "(III)V"⟩ : MethodName) jdk_65_method_30_code 3 none ws ({ frames := 0, cells := 0, slots := 0, locals := 0 } : Room) #[(.int (4 : Int32)), (.int (3 : Int32)), (.int (4 : Int32))] h0 n0 (own_Q_own_rm5_4_3_4 Z  h0 n0) := by
  refine own_body (plainFor_of_name own_pn1) ?_
  intro p e s m below meth c T0 hx hZ hby hml hown hnm hret hlk Y0
  replace hown : s.vm.findClass "java/util/Arrays" = some m.cls := hown
  replace hnm : meth.name = "rangeCheck" := hnm
  rw [own_ef_own_rm5_4_3_4 m ]
  show own_Ends _ _ _ _ (T0.setTop (mkF m 0 #[.val (.int (4 : Int32)), .val (.int (3 : Int32)), .val (.int (4 : Int32))] []))
  refine own_st (fun t_ => XS.iloadN (own_here Y0) hx rfl (hb hby own_d5_0) rfl) ?_
  show own_Ends _ _ _ _ (T0.setTop (mkF m 1 #[.val (.int (4 : Int32)), .val (.int (3 : Int32)), .val (.int (4 : Int32))] [(.int (3 : Int32))]))
  refine own_st (fun t_ => XS.iloadN (own_here Y0) hx rfl (hb hby own_d5_1) rfl) ?_
  show own_Ends _ _ _ _ (T0.setTop (mkF m 2 #[.val (.int (4 : Int32)), .val (.int (3 : Int32)), .val (.int (4 : Int32))] [(.int (4 : Int32)), (.int (3 : Int32))]))
  refine own_st (fun t_ => XS.icmpYes (own_here Y0) hx rfl (pc0 := 2) (pc' := 46) rfl (hb hby own_d5_2) rfl (XT.ii_le_t (by decide)) (by decide) (by decide)) ?_
  show own_Ends _ _ _ _ (T0.setTop (mkF m 46 #[.val (.int (4 : Int32)), .val (.int (3 : Int32)), .val (.int (4 : Int32))] []))
  refine own_st (fun t_ => XS.iloadN (own_here Y0) hx rfl (hb hby own_d5_46) rfl) ?_
  show own_Ends _ _ _ _ (T0.setTop (mkF m 47 #[.val (.int (4 : Int32)), .val (.int (3 : Int32)), .val (.int (4 : Int32))] [(.int (3 : Int32))]))
  refine own_st (fun t_ => XS.ifYes (own_here Y0) hx rfl (pc0 := 47) (pc' := 59) rfl (hb hby own_d5_47) rfl (XT.i0_ge_t (by decide)) (by decide) (by decide)) ?_
  show own_Ends _ _ _ _ (T0.setTop (mkF m 59 #[.val (.int (4 : Int32)), .val (.int (3 : Int32)), .val (.int (4 : Int32))] []))
  refine own_st (fun t_ => XS.iloadN (own_here Y0) hx rfl (hb hby own_d5_59) rfl) ?_
  show own_Ends _ _ _ _ (T0.setTop (mkF m 60 #[.val (.int (4 : Int32)), .val (.int (3 : Int32)), .val (.int (4 : Int32))] [(.int (4 : Int32))]))
  refine own_st (fun t_ => XS.iloadN (own_here Y0) hx rfl (hb hby own_d5_60) rfl) ?_
  show own_Ends _ _ _ _ (T0.setTop (mkF m 61 #[.val (.int (4 : Int32)), .val (.int (3 : Int32)), .val (.int (4 : Int32))] [(.int (4 : Int32)), (.int (4 : Int32))]))
  refine own_st (fun t_ => XS.icmpYes (own_here Y0) hx rfl (pc0 := 61) (pc' := 73) rfl (hb hby own_d5_61) rfl (XT.ii_le_t (by decide)) (by decide) (by decide)) ?_
  show own_Ends _ _ _ _ (T0.setTop (mkF m 73 #[.val (.int (4 : Int32)), .val (.int (3 : Int32)), .val (.int (4 : Int32))] []))
  refine own_retV Y0 hx hlk hret (hb hby own_d5_73) (by decide) (by decide) ?_
  exact ⟨rfl, rfl⟩
theorem own_ef_own_rm4_3_4 (m : MethodId) (r0 : Addr) : entryFrame m #[(.ref r0), (.int (3 : Int32)), (.int (4 : Int32)), (.int (2 : Int32))] 5 = mkF m 0 #[.val (.ref r0), .val (.int (3 : Int32)), .val (.int (4 : Int32)), .val (.int (2 : Int32)), .unset] [] := by first | (simp [entryFrame, mkF, argsToLocals, Value.category]; done) | rfl
def own_Q_own_rm4_3_4 (Z : State) (r0 : Addr) (h0 : Heap) (n0 : Nat) (v : Option Value) (h : Heap) : Prop := v = none ∧ Keep h0 h [r0] ∧ own_A Z h r0 .int [(.int 0), (.int 1), (.int 1), (.int 2)]
set_option maxRecDepth 65536 in
set_option maxHeartbeats 40000000 in
theorem own_rm4_3_4 (l : Launch) (Z : State) (a0 : Array Value) (hw : ∀ d ∈ tables_1, d.before a0 Z = true) (ws : List Jvm.Cond) (r0 : Addr)  (h0 : Heap) (n0 : Nat)  (A : own_A Z h0 r0 .int [(.int 0), (.int 1), (.int 1), (.int 0)]) (g : n0 ≤ r0) :
    own_Con l Z (⟨"java/util/Arrays", "fill", "([IIII)V"⟩ : MethodName) jdk_65_method_104_code 5 none ws ({ frames := 1, cells := 0, slots := 0, locals := 14 } : Room) #[(.ref r0), (.int (3 : Int32)), (.int (4 : Int32)), (.int (2 : Int32))] h0 n0 (own_Q_own_rm4_3_4 Z r0 h0 n0) := by
  refine own_body (plainFor_of_name own_pn1) ?_
  intro p e s m below meth c T0 hx hZ hby hml hown hnm hret hlk Y0
  replace hown : s.vm.findClass "java/util/Arrays" = some m.cls := hown
  replace hnm : meth.name = "fill" := hnm
  rw [own_ef_own_rm4_3_4 m r0]
  show own_Ends _ _ _ _ (T0.setTop (mkF m 0 #[.val (.ref r0), .val (.int (3 : Int32)), .val (.int (4 : Int32)), .val (.int (2 : Int32)), .unset] []))
  refine own_st (fun t_ => XS.aloadN (own_here Y0) hx rfl (hb hby own_d4_0) rfl rfl) ?_
  show own_Ends _ _ _ _ (T0.setTop (mkF m 1 #[.val (.ref r0), .val (.int (3 : Int32)), .val (.int (4 : Int32)), .val (.int (2 : Int32)), .unset] [(.ref r0)]))
  refine own_len Y0 hx hZ A (z := (4 : Int32)) rfl rfl rfl (hb hby own_d4_1) ?_
  show own_Ends _ _ _ _ (T0.setTop (mkF m 2 #[.val (.ref r0), .val (.int (3 : Int32)), .val (.int (4 : Int32)), .val (.int (2 : Int32)), .unset] [(.int (4 : Int32))]))
  refine own_st (fun t_ => XS.iloadN (own_here Y0) hx rfl (hb hby own_d4_2) rfl) ?_
  show own_Ends _ _ _ _ (T0.setTop (mkF m 3 #[.val (.ref r0), .val (.int (3 : Int32)), .val (.int (4 : Int32)), .val (.int (2 : Int32)), .unset] [(.int (3 : Int32)), (.int (4 : Int32))]))
  refine own_st (fun t_ => XS.iloadN (own_here Y0) hx rfl (hb hby own_d4_3) rfl) ?_
  show own_Ends _ _ _ _ (T0.setTop (mkF m 4 #[.val (.ref r0), .val (.int (3 : Int32)), .val (.int (4 : Int32)), .val (.int (2 : Int32)), .unset] [(.int (4 : Int32)), (.int (3 : Int32)), (.int (4 : Int32))]))
  refine own_callS Y0 hx hZ (y := (⟨"java/util/Arrays", "rangeCheck", "(III)V"⟩ : MethodName)) hown (hw _ (List.mem_of_getElem? (i := 39) rfl)) (hw _ (List.mem_of_getElem? (i := 40) rfl)) (hw _ (List.mem_of_getElem? (i := 37) rfl)) (hw _ (List.mem_of_getElem? (i := 41) rfl)) (by decide) (argsL := [(.int (4 : Int32)), (.int (3 : Int32)), (.int (4 : Int32))]) (rest := []) (own_rm5_4_3_4 l Z a0 hw []   h0 n0  ) (W := 0) (by decide) (by decide) (by decide) (by decide) rfl (by rw [hml]; rfl) (lenOf own_pd0 rfl) rfl (by show 2 * 0 + _ ≤ _; exact Nat.le_of_eq rfl) (hb hby own_d4_4) (fun T75 h77 v78 Y76 q79 => ?_)
  obtain ⟨rfl, rfl⟩ := q79
  show own_Ends _ _ _ _ (T75.setTop (mkF m 7 #[.val (.ref r0), .val (.int (3 : Int32)), .val (.int (4 : Int32)), .val (.int (2 : Int32)), .unset] []))
  refine own_st (fun t_ => XS.iloadN (own_here Y76) hx rfl (hb hby own_d4_7) rfl) ?_
  show own_Ends _ _ _ _ (T75.setTop (mkF m 8 #[.val (.ref r0), .val (.int (3 : Int32)), .val (.int (4 : Int32)), .val (.int (2 : Int32)), .unset] [(.int (3 : Int32))]))
  refine own_st (fun t_ => XS.istore (own_here Y76) hx rfl (hb hby own_d4_8) rfl (l' := #[.val (.ref r0), .val (.int (3 : Int32)), .val (.int (4 : Int32)), .val (.int (2 : Int32)), .val (.int (3 : Int32))]) rfl) ?_
  show own_Ends _ _ _ _ (T75.setTop (mkF m 10 #[.val (.ref r0), .val (.int (3 : Int32)), .val (.int (4 : Int32)), .val (.int (2 : Int32)), .val (.int (3 : Int32))] []))
  refine own_st (fun t_ => XS.iload (own_here Y76) hx rfl (hb hby own_d4_10) rfl) ?_
  show own_Ends _ _ _ _ (T75.setTop (mkF m 12 #[.val (.ref r0), .val (.int (3 : Int32)), .val (.int (4 : Int32)), .val (.int (2 : Int32)), .val (.int (3 : Int32))] [(.int (3 : Int32))]))
  refine own_st (fun t_ => XS.iloadN (own_here Y76) hx rfl (hb hby own_d4_12) rfl) ?_
  show own_Ends _ _ _ _ (T75.setTop (mkF m 13 #[.val (.ref r0), .val (.int (3 : Int32)), .val (.int (4 : Int32)), .val (.int (2 : Int32)), .val (.int (3 : Int32))] [(.int (4 : Int32)), (.int (3 : Int32))]))
  refine own_st (fun t_ => XS.icmpNo (own_here Y76) hx rfl (hb hby own_d4_13) rfl (XT.ii_ge_f (by decide))) ?_
  show own_Ends _ _ _ _ (T75.setTop (mkF m 16 #[.val (.ref r0), .val (.int (3 : Int32)), .val (.int (4 : Int32)), .val (.int (2 : Int32)), .val (.int (3 : Int32))] []))
  refine own_st (fun t_ => XS.aloadN (own_here Y76) hx rfl (hb hby own_d4_16) rfl rfl) ?_
  show own_Ends _ _ _ _ (T75.setTop (mkF m 17 #[.val (.ref r0), .val (.int (3 : Int32)), .val (.int (4 : Int32)), .val (.int (2 : Int32)), .val (.int (3 : Int32))] [(.ref r0)]))
  refine own_st (fun t_ => XS.iload (own_here Y76) hx rfl (hb hby own_d4_17) rfl) ?_
  show own_Ends _ _ _ _ (T75.setTop (mkF m 19 #[.val (.ref r0), .val (.int (3 : Int32)), .val (.int (4 : Int32)), .val (.int (2 : Int32)), .val (.int (3 : Int32))] [(.int (3 : Int32)), (.ref r0)]))
  refine own_st (fun t_ => XS.iloadN (own_here Y76) hx rfl (hb hby own_d4_19) rfl) ?_
  show own_Ends _ _ _ _ (T75.setTop (mkF m 20 #[.val (.ref r0), .val (.int (3 : Int32)), .val (.int (4 : Int32)), .val (.int (2 : Int32)), .val (.int (3 : Int32))] [(.int (2 : Int32)), (.int (3 : Int32)), (.ref r0)]))
  refine own_stI Y76 hx hZ A g (i := 3) (by decide) (by decide) (Nat.le_of_ble_eq_true rfl) rfl rfl (hb hby own_d4_20) (fun T80 h82 Y81 W83 A84 => ?_)
  replace A84 : own_A Z h82 r0 .int [(.int (0 : Int32)), (.int (1 : Int32)), (.int (1 : Int32)), (.int (2 : Int32))] := A84
  show own_Ends _ _ _ _ (T80.setTop (mkF m 21 #[.val (.ref r0), .val (.int (3 : Int32)), .val (.int (4 : Int32)), .val (.int (2 : Int32)), .val (.int (3 : Int32))] []))
  refine own_st (fun t_ => XS.iinc (own_here Y81) hx rfl (hb hby own_d4_21) rfl (l' := #[.val (.ref r0), .val (.int (3 : Int32)), .val (.int (4 : Int32)), .val (.int (2 : Int32)), .val (.int (4 : Int32))]) rfl) ?_
  show own_Ends _ _ _ _ (T80.setTop (mkF m 24 #[.val (.ref r0), .val (.int (3 : Int32)), .val (.int (4 : Int32)), .val (.int (2 : Int32)), .val (.int (4 : Int32))] []))
  refine own_st (fun t_ => XS.goto (own_here Y81) hx rfl (pc0 := 24) (pc' := 10) rfl (hb hby own_d4_24) (by decide) (by decide)) ?_
  show own_Ends _ _ _ _ (T80.setTop (mkF m 10 #[.val (.ref r0), .val (.int (3 : Int32)), .val (.int (4 : Int32)), .val (.int (2 : Int32)), .val (.int (4 : Int32))] []))
  refine own_st (fun t_ => XS.iload (own_here Y81) hx rfl (hb hby own_d4_10) rfl) ?_
  show own_Ends _ _ _ _ (T80.setTop (mkF m 12 #[.val (.ref r0), .val (.int (3 : Int32)), .val (.int (4 : Int32)), .val (.int (2 : Int32)), .val (.int (4 : Int32))] [(.int (4 : Int32))]))
  refine own_st (fun t_ => XS.iloadN (own_here Y81) hx rfl (hb hby own_d4_12) rfl) ?_
  show own_Ends _ _ _ _ (T80.setTop (mkF m 13 #[.val (.ref r0), .val (.int (3 : Int32)), .val (.int (4 : Int32)), .val (.int (2 : Int32)), .val (.int (4 : Int32))] [(.int (4 : Int32)), (.int (4 : Int32))]))
  refine own_st (fun t_ => XS.icmpYes (own_here Y81) hx rfl (pc0 := 13) (pc' := 27) rfl (hb hby own_d4_13) rfl (XT.ii_ge_t (by decide)) (by decide) (by decide)) ?_
  show own_Ends _ _ _ _ (T80.setTop (mkF m 27 #[.val (.ref r0), .val (.int (3 : Int32)), .val (.int (4 : Int32)), .val (.int (2 : Int32)), .val (.int (4 : Int32))] []))
  have K85 : Keep h0 h82 [r0] := (Keep.refl h0 [r0]).wr W83 (Or.inl (List.mem_of_getElem? (i := 0) rfl))
  refine own_retV Y81 hx hlk hret (hb hby own_d4_27) (by decide) (by decide) ?_
  exact ⟨rfl, K85, A84⟩
theorem own_pn2 : plainName "com/example/tierpath/tierpath/Bounds" = true := by first | (simp [plainName, overriddenIn]; done) | decide +kernel
theorem own_pd1 : parseMethodDescriptor "([IIII)V" = some ⟨[(.array .int), .int, .int, .int], none⟩ := by decide +kernel
theorem own_d2_0 : decode prog_19_method_1_code 0 = .ok (.aload_n 0, 1) := by decide +kernel
theorem own_d2_1 : decode prog_19_method_1_code 1 = .ok (.invokespecial 3, 3) := by decide +kernel
theorem own_d2_4 : decode prog_19_method_1_code 4 = .ok (.aload_n 0, 1) := by decide +kernel
theorem own_d2_5 : decode prog_19_method_1_code 5 = .ok (.aload_n 2, 1) := by decide +kernel
theorem own_d2_6 : decode prog_19_method_1_code 6 = .ok (.putfield 9, 3) := by decide +kernel
theorem own_d2_9 : decode prog_19_method_1_code 9 = .ok (.aload_n 0, 1) := by decide +kernel
theorem own_d2_10 : decode prog_19_method_1_code 10 = .ok (.aload_n 3, 1) := by decide +kernel
theorem own_d2_11 : decode prog_19_method_1_code 11 = .ok (.putfield 15, 3) := by decide +kernel
theorem own_d2_14 : decode prog_19_method_1_code 14 = .ok (.aload_n 0, 1) := by decide +kernel
theorem own_d2_15 : decode prog_19_method_1_code 15 = .ok (.aload 4, 2) := by decide +kernel
theorem own_d2_17 : decode prog_19_method_1_code 17 = .ok (.putfield 18, 3) := by decide +kernel
theorem own_d2_20 : decode prog_19_method_1_code 20 = .ok (.aload_n 0, 1) := by decide +kernel
theorem own_d2_21 : decode prog_19_method_1_code 21 = .ok (.aload 5, 2) := by decide +kernel
theorem own_d2_23 : decode prog_19_method_1_code 23 = .ok (.putfield 21, 3) := by decide +kernel
theorem own_d2_26 : decode prog_19_method_1_code 26 = .ok (.aload_n 0, 1) := by decide +kernel
theorem own_d2_27 : decode prog_19_method_1_code 27 = .ok (.aload 6, 2) := by decide +kernel
theorem own_d2_29 : decode prog_19_method_1_code 29 = .ok (.putfield 24, 3) := by decide +kernel
theorem own_d2_32 : decode prog_19_method_1_code 32 = .ok (.aload_n 0, 1) := by decide +kernel
theorem own_d2_33 : decode prog_19_method_1_code 33 = .ok (.aload 7, 2) := by decide +kernel
theorem own_d2_35 : decode prog_19_method_1_code 35 = .ok (.putfield 27, 3) := by decide +kernel
theorem own_d2_38 : decode prog_19_method_1_code 38 = .ok (.aload_n 0, 1) := by decide +kernel
theorem own_d2_39 : decode prog_19_method_1_code 39 = .ok (.aload 8, 2) := by decide +kernel
theorem own_d2_41 : decode prog_19_method_1_code 41 = .ok (.putfield 30, 3) := by decide +kernel
theorem own_d2_44 : decode prog_19_method_1_code 44 = .ok (.aload_n 0, 1) := by decide +kernel
theorem own_d2_45 : decode prog_19_method_1_code 45 = .ok (.aload 9, 2) := by decide +kernel
theorem own_d2_47 : decode prog_19_method_1_code 47 = .ok (.putfield 34, 3) := by decide +kernel
theorem own_d2_50 : decode prog_19_method_1_code 50 = .ok (.aload_n 0, 1) := by decide +kernel
theorem own_d2_51 : decode prog_19_method_1_code 51 = .ok (.iload_n 1, 1) := by decide +kernel
theorem own_d2_52 : decode prog_19_method_1_code 52 = .ok (.iconst 1, 1) := by decide +kernel
theorem own_d2_53 : decode prog_19_method_1_code 53 = .ok (.iadd, 1) := by decide +kernel
theorem own_d2_54 : decode prog_19_method_1_code 54 = .ok (.newarray .int, 2) := by decide +kernel
theorem own_d2_56 : decode prog_19_method_1_code 56 = .ok (.putfield 37, 3) := by decide +kernel
theorem own_d2_59 : decode prog_19_method_1_code 59 = .ok (.iconst 0, 1) := by decide +kernel
theorem own_d2_60 : decode prog_19_method_1_code 60 = .ok (.istore 10, 2) := by decide +kernel
theorem own_d2_62 : decode prog_19_method_1_code 62 = .ok (.iload 10, 2) := by decide +kernel
theorem own_d2_64 : decode prog_19_method_1_code 64 = .ok (.aload_n 3, 1) := by decide +kernel
theorem own_d2_65 : decode prog_19_method_1_code 65 = .ok (.arraylength, 1) := by decide +kernel
theorem own_d2_66 : decode prog_19_method_1_code 66 = .ok (.if_icmp .ge 22, 3) := by decide +kernel
theorem own_d2_69 : decode prog_19_method_1_code 69 = .ok (.aload_n 0, 1) := by decide +kernel
theorem own_d2_70 : decode prog_19_method_1_code 70 = .ok (.getfield 37, 3) := by decide +kernel
theorem own_d2_73 : decode prog_19_method_1_code 73 = .ok (.aload_n 3, 1) := by decide +kernel
theorem own_d2_74 : decode prog_19_method_1_code 74 = .ok (.iload 10, 2) := by decide +kernel
theorem own_d2_76 : decode prog_19_method_1_code 76 = .ok (.iaload, 1) := by decide +kernel
theorem own_d2_77 : decode prog_19_method_1_code 77 = .ok (.iload 10, 2) := by decide +kernel
theorem own_d2_79 : decode prog_19_method_1_code 79 = .ok (.iconst 1, 1) := by decide +kernel
theorem own_d2_80 : decode prog_19_method_1_code 80 = .ok (.iadd, 1) := by decide +kernel
theorem own_d2_81 : decode prog_19_method_1_code 81 = .ok (.iastore, 1) := by decide +kernel
theorem own_d2_82 : decode prog_19_method_1_code 82 = .ok (.iinc 10 1, 3) := by decide +kernel
theorem own_d2_85 : decode prog_19_method_1_code 85 = .ok (.goto (-23), 3) := by decide +kernel
theorem own_d2_88 : decode prog_19_method_1_code 88 = .ok (.aload_n 0, 1) := by decide +kernel
theorem own_d2_89 : decode prog_19_method_1_code 89 = .ok (.aload 5, 2) := by decide +kernel
theorem own_d2_91 : decode prog_19_method_1_code 91 = .ok (.arraylength, 1) := by decide +kernel
theorem own_d2_92 : decode prog_19_method_1_code 92 = .ok (.newarray .int, 2) := by decide +kernel
theorem own_d2_94 : decode prog_19_method_1_code 94 = .ok (.putfield 40, 3) := by decide +kernel
theorem own_d2_97 : decode prog_19_method_1_code 97 = .ok (.iconst 0, 1) := by decide +kernel
theorem own_d2_98 : decode prog_19_method_1_code 98 = .ok (.istore 10, 2) := by decide +kernel
theorem own_d2_100 : decode prog_19_method_1_code 100 = .ok (.iload 10, 2) := by decide +kernel
theorem own_d2_102 : decode prog_19_method_1_code 102 = .ok (.iconst 1, 1) := by decide +kernel
theorem own_d2_103 : decode prog_19_method_1_code 103 = .ok (.iadd, 1) := by decide +kernel
theorem own_d2_104 : decode prog_19_method_1_code 104 = .ok (.aload 4, 2) := by decide +kernel
theorem own_d2_106 : decode prog_19_method_1_code 106 = .ok (.arraylength, 1) := by decide +kernel
theorem own_d2_107 : decode prog_19_method_1_code 107 = .ok (.if_icmp .ge 30, 3) := by decide +kernel
theorem own_d2_110 : decode prog_19_method_1_code 110 = .ok (.aload_n 0, 1) := by decide +kernel
theorem own_d2_111 : decode prog_19_method_1_code 111 = .ok (.getfield 40, 3) := by decide +kernel
theorem own_d2_114 : decode prog_19_method_1_code 114 = .ok (.aload 4, 2) := by decide +kernel
theorem own_d2_116 : decode prog_19_method_1_code 116 = .ok (.iload 10, 2) := by decide +kernel
theorem own_d2_118 : decode prog_19_method_1_code 118 = .ok (.iaload, 1) := by decide +kernel
theorem own_d2_119 : decode prog_19_method_1_code 119 = .ok (.aload 4, 2) := by decide +kernel
theorem own_d2_121 : decode prog_19_method_1_code 121 = .ok (.iload 10, 2) := by decide +kernel
theorem own_d2_123 : decode prog_19_method_1_code 123 = .ok (.iconst 1, 1) := by decide +kernel
theorem own_d2_124 : decode prog_19_method_1_code 124 = .ok (.iadd, 1) := by decide +kernel
theorem own_d2_125 : decode prog_19_method_1_code 125 = .ok (.iaload, 1) := by decide +kernel
theorem own_d2_126 : decode prog_19_method_1_code 126 = .ok (.iload 10, 2) := by decide +kernel
theorem own_d2_128 : decode prog_19_method_1_code 128 = .ok (.invokestatic 43, 3) := by decide +kernel
theorem own_d2_131 : decode prog_19_method_1_code 131 = .ok (.iinc 10 1, 3) := by decide +kernel
theorem own_d2_134 : decode prog_19_method_1_code 134 = .ok (.goto (-34), 3) := by decide +kernel
theorem own_d2_137 : decode prog_19_method_1_code 137 = .ok (.return_, 1) := by decide +kernel
theorem own_ef_own_rm2 (m : MethodId) (r0 : Addr) (r2 : Addr) (r3 : Addr) (r4 : Addr) (r5 : Addr) (r6 : Addr) (r7 : Addr) (r8 : Addr) (r9 : Addr) : entryFrame m #[(.ref r0), (.int (40 : Int32)), (.ref r2), (.ref r3), (.ref r4), (.ref r5), (.ref r6), (.ref r7), (.ref r8), (.ref r9)] 11 = mkF m 0 #[.val (.ref r0), .val (.int (40 : Int32)), .val (.ref r2), .val (.ref r3), .val (.ref r4), .val (.ref r5), .val (.ref r6), .val (.ref r7), .val (.ref r8), .val (.ref r9), .unset] [] := by first | (simp [entryFrame, mkF, argsToLocals, Value.category]; done) | rfl
def own_Q_own_rm2 (Z : State) (r0 : Addr) (r2 : Addr) (r3 : Addr) (r4 : Addr) (r5 : Addr) (r6 : Addr) (r7 : Addr) (r8 : Addr) (r9 : Addr) (h0 : Heap) (n0 : Nat) (v : Option Value) (h : Heap) : Prop := ∃ b : Addr, v = none ∧ Keep h0 h [r0] ∧ Fld Z h r0 "com/example/tierpath/tierpath/Bounds" "boundaryStart" "[I" (.ref r2) ∧ Fld Z h r0 "com/example/tierpath/tierpath/Bounds" "boundary" "[I" (.ref r3) ∧ Fld Z h r0 "com/example/tierpath/tierpath/Bounds" "memberStart" "[I" (.ref r6) ∧ Fld Z h r0 "com/example/tierpath/tierpath/Bounds" "members" "[I" (.ref r7) ∧ Fld Z h r0 "com/example/tierpath/tierpath/Bounds" "setLeaf" "[I" (.ref b) ∧ own_A Z h b .int [(.int 0), (.int 1), (.int 1), (.int 2)]
set_option maxRecDepth 65536 in
set_option maxHeartbeats 40000000 in
theorem own_rm2 (l : Launch) (Z : State) (a0 : Array Value) (hw : ∀ d ∈ tables_1, d.before a0 Z = true) (ws : List Jvm.Cond) (r0 : Addr) (r2 : Addr) (r3 : Addr) (r4 : Addr) (r5 : Addr) (r6 : Addr) (r7 : Addr) (r8 : Addr) (r9 : Addr) (y0 y1 y2 y3 y4 y5 y6 y7 y8 : Int32) (h0 : Heap) (n0 : Nat) (Z0 : n0 ≤ h0.size) (E : Exa Z h0 r0 "com/example/tierpath/tierpath/Bounds") (FboundaryStart : Fld Z h0 r0 "com/example/tierpath/tierpath/Bounds" "boundaryStart" "[I" .null) (Fboundary : Fld Z h0 r0 "com/example/tierpath/tierpath/Bounds" "boundary" "[I" .null) (FsetStart : Fld Z h0 r0 "com/example/tierpath/tierpath/Bounds" "setStart" "[I" .null) (Fneighbour : Fld Z h0 r0 "com/example/tierpath/tierpath/Bounds" "neighbour" "[I" .null) (FmemberStart : Fld Z h0 r0 "com/example/tierpath/tierpath/Bounds" "memberStart" "[I" .null) (Fmembers : Fld Z h0 r0 "com/example/tierpath/tierpath/Bounds" "members" "[I" .null) (Falpha : Fld Z h0 r0 "com/example/tierpath/tierpath/Bounds" "alpha" "[J" .null) (Fbeta : Fld Z h0 r0 "com/example/tierpath/tierpath/Bounds" "beta" "[J" .null) (Fnumber : Fld Z h0 r0 "com/example/tierpath/tierpath/Bounds" "number" "[I" .null) (FsetLeaf : Fld Z h0 r0 "com/example/tierpath/tierpath/Bounds" "setLeaf" "[I" .null) (g : n0 ≤ r0) (A3 : own_A Z h0 r3 .int [(.int y0), (.int y1), (.int y2), (.int y3), (.int y4), (.int y5), (.int y6), (.int y7), (.int y8)]) (A4 : own_A Z h0 r4 .int [(.int 0), (.int 1), (.int 3), (.int 4)]) (A5 : own_A Z h0 r5 .int [(.int 1), (.int 0), (.int 2), (.int 1)]) (gy0 : 1 ≤ y0.toInt ∧ y0.toInt ≤ 40) (gy1 : 1 ≤ y1.toInt ∧ y1.toInt ≤ 40) (gy2 : 1 ≤ y2.toInt ∧ y2.toInt ≤ 40) (gy3 : 1 ≤ y3.toInt ∧ y3.toInt ≤ 40) (gy4 : 1 ≤ y4.toInt ∧ y4.toInt ≤ 40) (gy5 : 1 ≤ y5.toInt ∧ y5.toInt ≤ 40) (gy6 : 1 ≤ y6.toInt ∧ y6.toInt ≤ 40) (gy7 : 1 ≤ y7.toInt ∧ y7.toInt ≤ 40) (gy8 : 1 ≤ y8.toInt ∧ y8.toInt ≤ 40) (n3 : r3 ≠ r0) (n4 : r4 ≠ r0) (n5 : r5 ≠ r0) :
    own_Con l Z (⟨"com/example/tierpath/tierpath/Bounds", "<init>", "(I[I[I[I[I[I[I[J[J)V"⟩ : MethodName) prog_19_method_1_code 11 none ws ({ frames := 2, cells := 2, slots := 45, locals := 30 } : Room) #[(.ref r0), (.int (40 : Int32)), (.ref r2), (.ref r3), (.ref r4), (.ref r5), (.ref r6), (.ref r7), (.ref r8), (.ref r9)] h0 n0 (own_Q_own_rm2 Z r0 r2 r3 r4 r5 r6 r7 r8 r9 h0 n0) := by
  refine own_body (plainFor_of_name own_pn2) ?_
  intro p e s m below meth c T0 hx hZ hby hml hown hnm hret hlk Y0
  replace hown : s.vm.findClass "com/example/tierpath/tierpath/Bounds" = some m.cls := hown
  replace hnm : meth.name = "<init>" := hnm
  rw [own_ef_own_rm2 m r0 r2 r3 r4 r5 r6 r7 r8 r9]
  show own_Ends _ _ _ _ (T0.setTop (mkF m 0 #[.val (.ref r0), .val (.int (40 : Int32)), .val (.ref r2), .val (.ref r3), .val (.ref r4), .val (.ref r5), .val (.ref r6), .val (.ref r7), .val (.ref r8), .val (.ref r9), .unset] []))
  refine own_st (fun t_ => XS.aloadN (own_here Y0) hx rfl (hb hby own_d2_0) rfl rfl) ?_
  show own_Ends _ _ _ _ (T0.setTop (mkF m 1 #[.val (.ref r0), .val (.int (40 : Int32)), .val (.ref r2), .val (.ref r3), .val (.ref r4), .val (.ref r5), .val (.ref r6), .val (.ref r7), .val (.ref r8), .val (.ref r9), .unset] [(.ref r0)]))
  refine own_initO Y0 hx hZ hown (hw _ (List.mem_of_getElem? (i := 12) rfl)) (hw _ (List.mem_of_getElem? (i := 13) rfl)) (hw _ (List.mem_of_getElem? (i := 14) rfl)) rfl (by rw [hml]; rfl) rfl (hb hby own_d2_1) (by decide) (W := 0) (by show 2 * 0 + _ ≤ _; exact Nat.le_of_eq rfl) (by decide) (fun T86 Y87 => ?_)
  show own_Ends _ _ _ _ (T86.setTop (mkF m 4 #[.val (.ref r0), .val (.int (40 : Int32)), .val (.ref r2), .val (.ref r3), .val (.ref r4), .val (.ref r5), .val (.ref r6), .val (.ref r7), .val (.ref r8), .val (.ref r9), .unset] []))
  refine own_st (fun t_ => XS.aloadN (own_here Y87) hx rfl (hb hby own_d2_4) rfl rfl) ?_
  show own_Ends _ _ _ _ (T86.setTop (mkF m 5 #[.val (.ref r0), .val (.int (40 : Int32)), .val (.ref r2), .val (.ref r3), .val (.ref r4), .val (.ref r5), .val (.ref r6), .val (.ref r7), .val (.ref r8), .val (.ref r9), .unset] [(.ref r0)]))
  refine own_st (fun t_ => XS.aloadN (own_here Y87) hx rfl (hb hby own_d2_5) rfl rfl) ?_
  show own_Ends _ _ _ _ (T86.setTop (mkF m 6 #[.val (.ref r0), .val (.int (40 : Int32)), .val (.ref r2), .val (.ref r3), .val (.ref r4), .val (.ref r5), .val (.ref r6), .val (.ref r7), .val (.ref r8), .val (.ref r9), .unset] [(.ref r2), (.ref r0)]))
  refine own_putF Y87 hx hZ hown (host := "") (Or.inl (hw _ (List.mem_of_getElem? (i := 15) rfl))) Via.refl FboundaryStart E (Or.inr ⟨(hw _ (List.mem_of_getElem? (i := 16) rfl)), rfl, hnm⟩) (hw _ (List.mem_of_getElem? (i := 6) rfl)) g (ty := (.array .int)) (by decide) rfl rfl rfl rfl (hb hby own_d2_6) (fun T88 h90 Y89 W91 F92 => ?_)
  show own_Ends _ _ _ _ (T88.setTop (mkF m 9 #[.val (.ref r0), .val (.int (40 : Int32)), .val (.ref r2), .val (.ref r3), .val (.ref r4), .val (.ref r5), .val (.ref r6), .val (.ref r7), .val (.ref r8), .val (.ref r9), .unset] []))
  refine own_st (fun t_ => XS.aloadN (own_here Y89) hx rfl (hb hby own_d2_9) rfl rfl) ?_
  show own_Ends _ _ _ _ (T88.setTop (mkF m 10 #[.val (.ref r0), .val (.int (40 : Int32)), .val (.ref r2), .val (.ref r3), .val (.ref r4), .val (.ref r5), .val (.ref r6), .val (.ref r7), .val (.ref r8), .val (.ref r9), .unset] [(.ref r0)]))
  refine own_st (fun t_ => XS.aloadN (own_here Y89) hx rfl (hb hby own_d2_10) rfl rfl) ?_
  show own_Ends _ _ _ _ (T88.setTop (mkF m 11 #[.val (.ref r0), .val (.int (40 : Int32)), .val (.ref r2), .val (.ref r3), .val (.ref r4), .val (.ref r5), .val (.ref r6), .val (.ref r7), .val (.ref r8), .val (.ref r9), .unset] [(.ref r3), (.ref r0)]))
  have f93 : Exa Z h90 r0 "com/example/tierpath/tierpath/Bounds" := E.wr W91
  have f94 : Fld Z h90 r0 "com/example/tierpath/tierpath/Bounds" "boundary" "[I" .null := Fboundary.other W91 (Or.inr (slot_ne (Or.inr (hw _ (List.mem_of_getElem? (i := 18) rfl))) (Or.inr (hw _ (List.mem_of_getElem? (i := 16) rfl))) (by decide) (t := (.array .int)) (t' := (.array .int)) (by decide) (by decide)))
  refine own_putF Y89 hx hZ hown (host := "") (Or.inl (hw _ (List.mem_of_getElem? (i := 17) rfl))) Via.refl f94 f93 (Or.inr ⟨(hw _ (List.mem_of_getElem? (i := 18) rfl)), rfl, hnm⟩) (hw _ (List.mem_of_getElem? (i := 6) rfl)) g (ty := (.array .int)) (by decide) rfl rfl rfl rfl (hb hby own_d2_11) (fun T95 h97 Y96 W98 F99 => ?_)
  show own_Ends _ _ _ _ (T95.setTop (mkF m 14 #[.val (.ref r0), .val (.int (40 : Int32)), .val (.ref r2), .val (.ref r3), .val (.ref r4), .val (.ref r5), .val (.ref r6), .val (.ref r7), .val (.ref r8), .val (.ref r9), .unset] []))
  refine own_st (fun t_ => XS.aloadN (own_here Y96) hx rfl (hb hby own_d2_14) rfl rfl) ?_
  show own_Ends _ _ _ _ (T95.setTop (mkF m 15 #[.val (.ref r0), .val (.int (40 : Int32)), .val (.ref r2), .val (.ref r3), .val (.ref r4), .val (.ref r5), .val (.ref r6), .val (.ref r7), .val (.ref r8), .val (.ref r9), .unset] [(.ref r0)]))
  refine own_st (fun t_ => XS.aload (own_here Y96) hx rfl (hb hby own_d2_15) rfl rfl) ?_
  show own_Ends _ _ _ _ (T95.setTop (mkF m 17 #[.val (.ref r0), .val (.int (40 : Int32)), .val (.ref r2), .val (.ref r3), .val (.ref r4), .val (.ref r5), .val (.ref r6), .val (.ref r7), .val (.ref r8), .val (.ref r9), .unset] [(.ref r4), (.ref r0)]))
  have f100 : Exa Z h97 r0 "com/example/tierpath/tierpath/Bounds" := f93.wr W98
  have f101 : Fld Z h90 r0 "com/example/tierpath/tierpath/Bounds" "setStart" "[I" .null := FsetStart.other W91 (Or.inr (slot_ne (Or.inr (hw _ (List.mem_of_getElem? (i := 20) rfl))) (Or.inr (hw _ (List.mem_of_getElem? (i := 16) rfl))) (by decide) (t := (.array .int)) (t' := (.array .int)) (by decide) (by decide)))
  have f102 : Fld Z h97 r0 "com/example/tierpath/tierpath/Bounds" "setStart" "[I" .null := f101.other W98 (Or.inr (slot_ne (Or.inr (hw _ (List.mem_of_getElem? (i := 20) rfl))) (Or.inr (hw _ (List.mem_of_getElem? (i := 18) rfl))) (by decide) (t := (.array .int)) (t' := (.array .int)) (by decide) (by decide)))
  refine own_putF Y96 hx hZ hown (host := "") (Or.inl (hw _ (List.mem_of_getElem? (i := 19) rfl))) Via.refl f102 f100 (Or.inr ⟨(hw _ (List.mem_of_getElem? (i := 20) rfl)), rfl, hnm⟩) (hw _ (List.mem_of_getElem? (i := 6) rfl)) g (ty := (.array .int)) (by decide) rfl rfl rfl rfl (hb hby own_d2_17) (fun T103 h105 Y104 W106 F107 => ?_)
  show own_Ends _ _ _ _ (T103.setTop (mkF m 20 #[.val (.ref r0), .val (.int (40 : Int32)), .val (.ref r2), .val (.ref r3), .val (.ref r4), .val (.ref r5), .val (.ref r6), .val (.ref r7), .val (.ref r8), .val (.ref r9), .unset] []))
  refine own_st (fun t_ => XS.aloadN (own_here Y104) hx rfl (hb hby own_d2_20) rfl rfl) ?_
  show own_Ends _ _ _ _ (T103.setTop (mkF m 21 #[.val (.ref r0), .val (.int (40 : Int32)), .val (.ref r2), .val (.ref r3), .val (.ref r4), .val (.ref r5), .val (.ref r6), .val (.ref r7), .val (.ref r8), .val (.ref r9), .unset] [(.ref r0)]))
  refine own_st (fun t_ => XS.aload (own_here Y104) hx rfl (hb hby own_d2_21) rfl rfl) ?_
  show own_Ends _ _ _ _ (T103.setTop (mkF m 23 #[.val (.ref r0), .val (.int (40 : Int32)), .val (.ref r2), .val (.ref r3), .val (.ref r4), .val (.ref r5), .val (.ref r6), .val (.ref r7), .val (.ref r8), .val (.ref r9), .unset] [(.ref r5), (.ref r0)]))
  have f108 : Exa Z h105 r0 "com/example/tierpath/tierpath/Bounds" := f100.wr W106
  have f109 : Fld Z h90 r0 "com/example/tierpath/tierpath/Bounds" "neighbour" "[I" .null := Fneighbour.other W91 (Or.inr (slot_ne (Or.inr (hw _ (List.mem_of_getElem? (i := 22) rfl))) (Or.inr (hw _ (List.mem_of_getElem? (i := 16) rfl))) (by decide) (t := (.array .int)) (t' := (.array .int)) (by decide) (by decide)))
  have f110 : Fld Z h97 r0 "com/example/tierpath/tierpath/Bounds" "neighbour" "[I" .null := f109.other W98 (Or.inr (slot_ne (Or.inr (hw _ (List.mem_of_getElem? (i := 22) rfl))) (Or.inr (hw _ (List.mem_of_getElem? (i := 18) rfl))) (by decide) (t := (.array .int)) (t' := (.array .int)) (by decide) (by decide)))
  have f111 : Fld Z h105 r0 "com/example/tierpath/tierpath/Bounds" "neighbour" "[I" .null := f110.other W106 (Or.inr (slot_ne (Or.inr (hw _ (List.mem_of_getElem? (i := 22) rfl))) (Or.inr (hw _ (List.mem_of_getElem? (i := 20) rfl))) (by decide) (t := (.array .int)) (t' := (.array .int)) (by decide) (by decide)))
  refine own_putF Y104 hx hZ hown (host := "") (Or.inl (hw _ (List.mem_of_getElem? (i := 21) rfl))) Via.refl f111 f108 (Or.inr ⟨(hw _ (List.mem_of_getElem? (i := 22) rfl)), rfl, hnm⟩) (hw _ (List.mem_of_getElem? (i := 6) rfl)) g (ty := (.array .int)) (by decide) rfl rfl rfl rfl (hb hby own_d2_23) (fun T112 h114 Y113 W115 F116 => ?_)
  show own_Ends _ _ _ _ (T112.setTop (mkF m 26 #[.val (.ref r0), .val (.int (40 : Int32)), .val (.ref r2), .val (.ref r3), .val (.ref r4), .val (.ref r5), .val (.ref r6), .val (.ref r7), .val (.ref r8), .val (.ref r9), .unset] []))
  refine own_st (fun t_ => XS.aloadN (own_here Y113) hx rfl (hb hby own_d2_26) rfl rfl) ?_
  show own_Ends _ _ _ _ (T112.setTop (mkF m 27 #[.val (.ref r0), .val (.int (40 : Int32)), .val (.ref r2), .val (.ref r3), .val (.ref r4), .val (.ref r5), .val (.ref r6), .val (.ref r7), .val (.ref r8), .val (.ref r9), .unset] [(.ref r0)]))
  refine own_st (fun t_ => XS.aload (own_here Y113) hx rfl (hb hby own_d2_27) rfl rfl) ?_
  show own_Ends _ _ _ _ (T112.setTop (mkF m 29 #[.val (.ref r0), .val (.int (40 : Int32)), .val (.ref r2), .val (.ref r3), .val (.ref r4), .val (.ref r5), .val (.ref r6), .val (.ref r7), .val (.ref r8), .val (.ref r9), .unset] [(.ref r6), (.ref r0)]))
  have f117 : Exa Z h114 r0 "com/example/tierpath/tierpath/Bounds" := f108.wr W115
  have f118 : Fld Z h90 r0 "com/example/tierpath/tierpath/Bounds" "memberStart" "[I" .null := FmemberStart.other W91 (Or.inr (slot_ne (Or.inr (hw _ (List.mem_of_getElem? (i := 24) rfl))) (Or.inr (hw _ (List.mem_of_getElem? (i := 16) rfl))) (by decide) (t := (.array .int)) (t' := (.array .int)) (by decide) (by decide)))
  have f119 : Fld Z h97 r0 "com/example/tierpath/tierpath/Bounds" "memberStart" "[I" .null := f118.other W98 (Or.inr (slot_ne (Or.inr (hw _ (List.mem_of_getElem? (i := 24) rfl))) (Or.inr (hw _ (List.mem_of_getElem? (i := 18) rfl))) (by decide) (t := (.array .int)) (t' := (.array .int)) (by decide) (by decide)))
  have f120 : Fld Z h105 r0 "com/example/tierpath/tierpath/Bounds" "memberStart" "[I" .null := f119.other W106 (Or.inr (slot_ne (Or.inr (hw _ (List.mem_of_getElem? (i := 24) rfl))) (Or.inr (hw _ (List.mem_of_getElem? (i := 20) rfl))) (by decide) (t := (.array .int)) (t' := (.array .int)) (by decide) (by decide)))
  have f121 : Fld Z h114 r0 "com/example/tierpath/tierpath/Bounds" "memberStart" "[I" .null := f120.other W115 (Or.inr (slot_ne (Or.inr (hw _ (List.mem_of_getElem? (i := 24) rfl))) (Or.inr (hw _ (List.mem_of_getElem? (i := 22) rfl))) (by decide) (t := (.array .int)) (t' := (.array .int)) (by decide) (by decide)))
  refine own_putF Y113 hx hZ hown (host := "") (Or.inl (hw _ (List.mem_of_getElem? (i := 23) rfl))) Via.refl f121 f117 (Or.inr ⟨(hw _ (List.mem_of_getElem? (i := 24) rfl)), rfl, hnm⟩) (hw _ (List.mem_of_getElem? (i := 6) rfl)) g (ty := (.array .int)) (by decide) rfl rfl rfl rfl (hb hby own_d2_29) (fun T122 h124 Y123 W125 F126 => ?_)
  show own_Ends _ _ _ _ (T122.setTop (mkF m 32 #[.val (.ref r0), .val (.int (40 : Int32)), .val (.ref r2), .val (.ref r3), .val (.ref r4), .val (.ref r5), .val (.ref r6), .val (.ref r7), .val (.ref r8), .val (.ref r9), .unset] []))
  refine own_st (fun t_ => XS.aloadN (own_here Y123) hx rfl (hb hby own_d2_32) rfl rfl) ?_
  show own_Ends _ _ _ _ (T122.setTop (mkF m 33 #[.val (.ref r0), .val (.int (40 : Int32)), .val (.ref r2), .val (.ref r3), .val (.ref r4), .val (.ref r5), .val (.ref r6), .val (.ref r7), .val (.ref r8), .val (.ref r9), .unset] [(.ref r0)]))
  refine own_st (fun t_ => XS.aload (own_here Y123) hx rfl (hb hby own_d2_33) rfl rfl) ?_
  show own_Ends _ _ _ _ (T122.setTop (mkF m 35 #[.val (.ref r0), .val (.int (40 : Int32)), .val (.ref r2), .val (.ref r3), .val (.ref r4), .val (.ref r5), .val (.ref r6), .val (.ref r7), .val (.ref r8), .val (.ref r9), .unset] [(.ref r7), (.ref r0)]))
  have f127 : Exa Z h124 r0 "com/example/tierpath/tierpath/Bounds" := f117.wr W125
  have f128 : Fld Z h90 r0 "com/example/tierpath/tierpath/Bounds" "members" "[I" .null := Fmembers.other W91 (Or.inr (slot_ne (Or.inr (hw _ (List.mem_of_getElem? (i := 26) rfl))) (Or.inr (hw _ (List.mem_of_getElem? (i := 16) rfl))) (by decide) (t := (.array .int)) (t' := (.array .int)) (by decide) (by decide)))
  have f129 : Fld Z h97 r0 "com/example/tierpath/tierpath/Bounds" "members" "[I" .null := f128.other W98 (Or.inr (slot_ne (Or.inr (hw _ (List.mem_of_getElem? (i := 26) rfl))) (Or.inr (hw _ (List.mem_of_getElem? (i := 18) rfl))) (by decide) (t := (.array .int)) (t' := (.array .int)) (by decide) (by decide)))
  have f130 : Fld Z h105 r0 "com/example/tierpath/tierpath/Bounds" "members" "[I" .null := f129.other W106 (Or.inr (slot_ne (Or.inr (hw _ (List.mem_of_getElem? (i := 26) rfl))) (Or.inr (hw _ (List.mem_of_getElem? (i := 20) rfl))) (by decide) (t := (.array .int)) (t' := (.array .int)) (by decide) (by decide)))
  have f131 : Fld Z h114 r0 "com/example/tierpath/tierpath/Bounds" "members" "[I" .null := f130.other W115 (Or.inr (slot_ne (Or.inr (hw _ (List.mem_of_getElem? (i := 26) rfl))) (Or.inr (hw _ (List.mem_of_getElem? (i := 22) rfl))) (by decide) (t := (.array .int)) (t' := (.array .int)) (by decide) (by decide)))
  have f132 : Fld Z h124 r0 "com/example/tierpath/tierpath/Bounds" "members" "[I" .null := f131.other W125 (Or.inr (slot_ne (Or.inr (hw _ (List.mem_of_getElem? (i := 26) rfl))) (Or.inr (hw _ (List.mem_of_getElem? (i := 24) rfl))) (by decide) (t := (.array .int)) (t' := (.array .int)) (by decide) (by decide)))
  refine own_putF Y123 hx hZ hown (host := "") (Or.inl (hw _ (List.mem_of_getElem? (i := 25) rfl))) Via.refl f132 f127 (Or.inr ⟨(hw _ (List.mem_of_getElem? (i := 26) rfl)), rfl, hnm⟩) (hw _ (List.mem_of_getElem? (i := 6) rfl)) g (ty := (.array .int)) (by decide) rfl rfl rfl rfl (hb hby own_d2_35) (fun T133 h135 Y134 W136 F137 => ?_)
  show own_Ends _ _ _ _ (T133.setTop (mkF m 38 #[.val (.ref r0), .val (.int (40 : Int32)), .val (.ref r2), .val (.ref r3), .val (.ref r4), .val (.ref r5), .val (.ref r6), .val (.ref r7), .val (.ref r8), .val (.ref r9), .unset] []))
  refine own_st (fun t_ => XS.aloadN (own_here Y134) hx rfl (hb hby own_d2_38) rfl rfl) ?_
  show own_Ends _ _ _ _ (T133.setTop (mkF m 39 #[.val (.ref r0), .val (.int (40 : Int32)), .val (.ref r2), .val (.ref r3), .val (.ref r4), .val (.ref r5), .val (.ref r6), .val (.ref r7), .val (.ref r8), .val (.ref r9), .unset] [(.ref r0)]))
  refine own_st (fun t_ => XS.aload (own_here Y134) hx rfl (hb hby own_d2_39) rfl rfl) ?_
  show own_Ends _ _ _ _ (T133.setTop (mkF m 41 #[.val (.ref r0), .val (.int (40 : Int32)), .val (.ref r2), .val (.ref r3), .val (.ref r4), .val (.ref r5), .val (.ref r6), .val (.ref r7), .val (.ref r8), .val (.ref r9), .unset] [(.ref r8), (.ref r0)]))
  have f138 : Exa Z h135 r0 "com/example/tierpath/tierpath/Bounds" := f127.wr W136
  have f139 : Fld Z h90 r0 "com/example/tierpath/tierpath/Bounds" "alpha" "[J" .null := Falpha.other W91 (Or.inr (slot_ne (Or.inr (hw _ (List.mem_of_getElem? (i := 28) rfl))) (Or.inr (hw _ (List.mem_of_getElem? (i := 16) rfl))) (by decide) (t := (.array .long)) (t' := (.array .int)) (by decide) (by decide)))
  have f140 : Fld Z h97 r0 "com/example/tierpath/tierpath/Bounds" "alpha" "[J" .null := f139.other W98 (Or.inr (slot_ne (Or.inr (hw _ (List.mem_of_getElem? (i := 28) rfl))) (Or.inr (hw _ (List.mem_of_getElem? (i := 18) rfl))) (by decide) (t := (.array .long)) (t' := (.array .int)) (by decide) (by decide)))
  have f141 : Fld Z h105 r0 "com/example/tierpath/tierpath/Bounds" "alpha" "[J" .null := f140.other W106 (Or.inr (slot_ne (Or.inr (hw _ (List.mem_of_getElem? (i := 28) rfl))) (Or.inr (hw _ (List.mem_of_getElem? (i := 20) rfl))) (by decide) (t := (.array .long)) (t' := (.array .int)) (by decide) (by decide)))
  have f142 : Fld Z h114 r0 "com/example/tierpath/tierpath/Bounds" "alpha" "[J" .null := f141.other W115 (Or.inr (slot_ne (Or.inr (hw _ (List.mem_of_getElem? (i := 28) rfl))) (Or.inr (hw _ (List.mem_of_getElem? (i := 22) rfl))) (by decide) (t := (.array .long)) (t' := (.array .int)) (by decide) (by decide)))
  have f143 : Fld Z h124 r0 "com/example/tierpath/tierpath/Bounds" "alpha" "[J" .null := f142.other W125 (Or.inr (slot_ne (Or.inr (hw _ (List.mem_of_getElem? (i := 28) rfl))) (Or.inr (hw _ (List.mem_of_getElem? (i := 24) rfl))) (by decide) (t := (.array .long)) (t' := (.array .int)) (by decide) (by decide)))
  have f144 : Fld Z h135 r0 "com/example/tierpath/tierpath/Bounds" "alpha" "[J" .null := f143.other W136 (Or.inr (slot_ne (Or.inr (hw _ (List.mem_of_getElem? (i := 28) rfl))) (Or.inr (hw _ (List.mem_of_getElem? (i := 26) rfl))) (by decide) (t := (.array .long)) (t' := (.array .int)) (by decide) (by decide)))
  refine own_putF Y134 hx hZ hown (host := "") (Or.inl (hw _ (List.mem_of_getElem? (i := 27) rfl))) Via.refl f144 f138 (Or.inr ⟨(hw _ (List.mem_of_getElem? (i := 28) rfl)), rfl, hnm⟩) (hw _ (List.mem_of_getElem? (i := 6) rfl)) g (ty := (.array .long)) (by decide) rfl rfl rfl rfl (hb hby own_d2_41) (fun T145 h147 Y146 W148 F149 => ?_)
  show own_Ends _ _ _ _ (T145.setTop (mkF m 44 #[.val (.ref r0), .val (.int (40 : Int32)), .val (.ref r2), .val (.ref r3), .val (.ref r4), .val (.ref r5), .val (.ref r6), .val (.ref r7), .val (.ref r8), .val (.ref r9), .unset] []))
  refine own_st (fun t_ => XS.aloadN (own_here Y146) hx rfl (hb hby own_d2_44) rfl rfl) ?_
  show own_Ends _ _ _ _ (T145.setTop (mkF m 45 #[.val (.ref r0), .val (.int (40 : Int32)), .val (.ref r2), .val (.ref r3), .val (.ref r4), .val (.ref r5), .val (.ref r6), .val (.ref r7), .val (.ref r8), .val (.ref r9), .unset] [(.ref r0)]))
  refine own_st (fun t_ => XS.aload (own_here Y146) hx rfl (hb hby own_d2_45) rfl rfl) ?_
  show own_Ends _ _ _ _ (T145.setTop (mkF m 47 #[.val (.ref r0), .val (.int (40 : Int32)), .val (.ref r2), .val (.ref r3), .val (.ref r4), .val (.ref r5), .val (.ref r6), .val (.ref r7), .val (.ref r8), .val (.ref r9), .unset] [(.ref r9), (.ref r0)]))
  have f150 : Exa Z h147 r0 "com/example/tierpath/tierpath/Bounds" := f138.wr W148
  have f151 : Fld Z h90 r0 "com/example/tierpath/tierpath/Bounds" "beta" "[J" .null := Fbeta.other W91 (Or.inr (slot_ne (Or.inr (hw _ (List.mem_of_getElem? (i := 30) rfl))) (Or.inr (hw _ (List.mem_of_getElem? (i := 16) rfl))) (by decide) (t := (.array .long)) (t' := (.array .int)) (by decide) (by decide)))
  have f152 : Fld Z h97 r0 "com/example/tierpath/tierpath/Bounds" "beta" "[J" .null := f151.other W98 (Or.inr (slot_ne (Or.inr (hw _ (List.mem_of_getElem? (i := 30) rfl))) (Or.inr (hw _ (List.mem_of_getElem? (i := 18) rfl))) (by decide) (t := (.array .long)) (t' := (.array .int)) (by decide) (by decide)))
  have f153 : Fld Z h105 r0 "com/example/tierpath/tierpath/Bounds" "beta" "[J" .null := f152.other W106 (Or.inr (slot_ne (Or.inr (hw _ (List.mem_of_getElem? (i := 30) rfl))) (Or.inr (hw _ (List.mem_of_getElem? (i := 20) rfl))) (by decide) (t := (.array .long)) (t' := (.array .int)) (by decide) (by decide)))
  have f154 : Fld Z h114 r0 "com/example/tierpath/tierpath/Bounds" "beta" "[J" .null := f153.other W115 (Or.inr (slot_ne (Or.inr (hw _ (List.mem_of_getElem? (i := 30) rfl))) (Or.inr (hw _ (List.mem_of_getElem? (i := 22) rfl))) (by decide) (t := (.array .long)) (t' := (.array .int)) (by decide) (by decide)))
  have f155 : Fld Z h124 r0 "com/example/tierpath/tierpath/Bounds" "beta" "[J" .null := f154.other W125 (Or.inr (slot_ne (Or.inr (hw _ (List.mem_of_getElem? (i := 30) rfl))) (Or.inr (hw _ (List.mem_of_getElem? (i := 24) rfl))) (by decide) (t := (.array .long)) (t' := (.array .int)) (by decide) (by decide)))
  have f156 : Fld Z h135 r0 "com/example/tierpath/tierpath/Bounds" "beta" "[J" .null := f155.other W136 (Or.inr (slot_ne (Or.inr (hw _ (List.mem_of_getElem? (i := 30) rfl))) (Or.inr (hw _ (List.mem_of_getElem? (i := 26) rfl))) (by decide) (t := (.array .long)) (t' := (.array .int)) (by decide) (by decide)))
  have f157 : Fld Z h147 r0 "com/example/tierpath/tierpath/Bounds" "beta" "[J" .null := f156.other W148 (Or.inr (slot_ne (Or.inr (hw _ (List.mem_of_getElem? (i := 30) rfl))) (Or.inr (hw _ (List.mem_of_getElem? (i := 28) rfl))) (by decide) (t := (.array .long)) (t' := (.array .long)) (by decide) (by decide)))
  refine own_putF Y146 hx hZ hown (host := "") (Or.inl (hw _ (List.mem_of_getElem? (i := 29) rfl))) Via.refl f157 f150 (Or.inr ⟨(hw _ (List.mem_of_getElem? (i := 30) rfl)), rfl, hnm⟩) (hw _ (List.mem_of_getElem? (i := 6) rfl)) g (ty := (.array .long)) (by decide) rfl rfl rfl rfl (hb hby own_d2_47) (fun T158 h160 Y159 W161 F162 => ?_)
  show own_Ends _ _ _ _ (T158.setTop (mkF m 50 #[.val (.ref r0), .val (.int (40 : Int32)), .val (.ref r2), .val (.ref r3), .val (.ref r4), .val (.ref r5), .val (.ref r6), .val (.ref r7), .val (.ref r8), .val (.ref r9), .unset] []))
  refine own_st (fun t_ => XS.aloadN (own_here Y159) hx rfl (hb hby own_d2_50) rfl rfl) ?_
  show own_Ends _ _ _ _ (T158.setTop (mkF m 51 #[.val (.ref r0), .val (.int (40 : Int32)), .val (.ref r2), .val (.ref r3), .val (.ref r4), .val (.ref r5), .val (.ref r6), .val (.ref r7), .val (.ref r8), .val (.ref r9), .unset] [(.ref r0)]))
  refine own_st (fun t_ => XS.iloadN (own_here Y159) hx rfl (hb hby own_d2_51) rfl) ?_
  show own_Ends _ _ _ _ (T158.setTop (mkF m 52 #[.val (.ref r0), .val (.int (40 : Int32)), .val (.ref r2), .val (.ref r3), .val (.ref r4), .val (.ref r5), .val (.ref r6), .val (.ref r7), .val (.ref r8), .val (.ref r9), .unset] [(.int (40 : Int32)), (.ref r0)]))
  refine own_st (fun t_ => XS.iconst (own_here Y159) hx rfl (hb hby own_d2_52) ) ?_
  show own_Ends _ _ _ _ (T158.setTop (mkF m 53 #[.val (.ref r0), .val (.int (40 : Int32)), .val (.ref r2), .val (.ref r3), .val (.ref r4), .val (.ref r5), .val (.ref r6), .val (.ref r7), .val (.ref r8), .val (.ref r9), .unset] [(.int (1 : Int32)), (.int (40 : Int32)), (.ref r0)]))
  refine own_st (fun t_ => XS.iadd (own_here Y159) hx rfl (hb hby own_d2_53) rfl) ?_
  show own_Ends _ _ _ _ (T158.setTop (mkF m 54 #[.val (.ref r0), .val (.int (40 : Int32)), .val (.ref r2), .val (.ref r3), .val (.ref r4), .val (.ref r5), .val (.ref r6), .val (.ref r7), .val (.ref r8), .val (.ref r9), .unset] [(.int (41 : Int32)), (.ref r0)]))
  refine own_newP Y159 hx hZ (hw _ (List.mem_of_getElem? (i := 0) rfl)) rfl (hb hby own_d2_54) rfl (by decide) (nz := 41) (cap := 41) (by decide) (by decide) (by decide) (by decide) (by decide) (ty := .int) rfl (fun T163 h165 b168 eb169 Y164 E166 A167 => ?_)
  have f170 : Exa Z h160 r0 "com/example/tierpath/tierpath/Bounds" := f150.wr W161
  have ne171 : r0 ≠ b168 := Nat.ne_of_lt (by rw [eb169]; exact f170.lt)
  have f172 : own_A Z h90 r3 .int [(.int y0), (.int y1), (.int y2), (.int y3), (.int y4), (.int y5), (.int y6), (.int y7), (.int y8)] := A3.other W91 n3
  have f173 : own_A Z h97 r3 .int [(.int y0), (.int y1), (.int y2), (.int y3), (.int y4), (.int y5), (.int y6), (.int y7), (.int y8)] := f172.other W98 n3
  have f174 : own_A Z h105 r3 .int [(.int y0), (.int y1), (.int y2), (.int y3), (.int y4), (.int y5), (.int y6), (.int y7), (.int y8)] := f173.other W106 n3
  have f175 : own_A Z h114 r3 .int [(.int y0), (.int y1), (.int y2), (.int y3), (.int y4), (.int y5), (.int y6), (.int y7), (.int y8)] := f174.other W115 n3
  have f176 : own_A Z h124 r3 .int [(.int y0), (.int y1), (.int y2), (.int y3), (.int y4), (.int y5), (.int y6), (.int y7), (.int y8)] := f175.other W125 n3
  have f177 : own_A Z h135 r3 .int [(.int y0), (.int y1), (.int y2), (.int y3), (.int y4), (.int y5), (.int y6), (.int y7), (.int y8)] := f176.other W136 n3
  have f178 : own_A Z h147 r3 .int [(.int y0), (.int y1), (.int y2), (.int y3), (.int y4), (.int y5), (.int y6), (.int y7), (.int y8)] := f177.other W148 n3
  have f179 : own_A Z h160 r3 .int [(.int y0), (.int y1), (.int y2), (.int y3), (.int y4), (.int y5), (.int y6), (.int y7), (.int y8)] := f178.other W161 n3
  have ne180 : r3 ≠ b168 := Nat.ne_of_lt (by rw [eb169]; exact f179.lt)
  have f181 : own_A Z h90 r4 .int [(.int (0 : Int32)), (.int (1 : Int32)), (.int (3 : Int32)), (.int (4 : Int32))] := A4.other W91 n4
  have f182 : own_A Z h97 r4 .int [(.int (0 : Int32)), (.int (1 : Int32)), (.int (3 : Int32)), (.int (4 : Int32))] := f181.other W98 n4
  have f183 : own_A Z h105 r4 .int [(.int (0 : Int32)), (.int (1 : Int32)), (.int (3 : Int32)), (.int (4 : Int32))] := f182.other W106 n4
  have f184 : own_A Z h114 r4 .int [(.int (0 : Int32)), (.int (1 : Int32)), (.int (3 : Int32)), (.int (4 : Int32))] := f183.other W115 n4
  have f185 : own_A Z h124 r4 .int [(.int (0 : Int32)), (.int (1 : Int32)), (.int (3 : Int32)), (.int (4 : Int32))] := f184.other W125 n4
  have f186 : own_A Z h135 r4 .int [(.int (0 : Int32)), (.int (1 : Int32)), (.int (3 : Int32)), (.int (4 : Int32))] := f185.other W136 n4
  have f187 : own_A Z h147 r4 .int [(.int (0 : Int32)), (.int (1 : Int32)), (.int (3 : Int32)), (.int (4 : Int32))] := f186.other W148 n4
  have f188 : own_A Z h160 r4 .int [(.int (0 : Int32)), (.int (1 : Int32)), (.int (3 : Int32)), (.int (4 : Int32))] := f187.other W161 n4
  have ne189 : r4 ≠ b168 := Nat.ne_of_lt (by rw [eb169]; exact f188.lt)
  have f190 : own_A Z h90 r5 .int [(.int (1 : Int32)), (.int (0 : Int32)), (.int (2 : Int32)), (.int (1 : Int32))] := A5.other W91 n5
  have f191 : own_A Z h97 r5 .int [(.int (1 : Int32)), (.int (0 : Int32)), (.int (2 : Int32)), (.int (1 : Int32))] := f190.other W98 n5
  have f192 : own_A Z h105 r5 .int [(.int (1 : Int32)), (.int (0 : Int32)), (.int (2 : Int32)), (.int (1 : Int32))] := f191.other W106 n5
  have f193 : own_A Z h114 r5 .int [(.int (1 : Int32)), (.int (0 : Int32)), (.int (2 : Int32)), (.int (1 : Int32))] := f192.other W115 n5
  have f194 : own_A Z h124 r5 .int [(.int (1 : Int32)), (.int (0 : Int32)), (.int (2 : Int32)), (.int (1 : Int32))] := f193.other W125 n5
  have f195 : own_A Z h135 r5 .int [(.int (1 : Int32)), (.int (0 : Int32)), (.int (2 : Int32)), (.int (1 : Int32))] := f194.other W136 n5
  have f196 : own_A Z h147 r5 .int [(.int (1 : Int32)), (.int (0 : Int32)), (.int (2 : Int32)), (.int (1 : Int32))] := f195.other W148 n5
  have f197 : own_A Z h160 r5 .int [(.int (1 : Int32)), (.int (0 : Int32)), (.int (2 : Int32)), (.int (1 : Int32))] := f196.other W161 n5
  have ne198 : r5 ≠ b168 := Nat.ne_of_lt (by rw [eb169]; exact f197.lt)
  have z200 : n0 ≤ h90.size := Nat.le_trans Z0 (Nat.le_of_eq W91.size.symm)
  have z201 : n0 ≤ h97.size := Nat.le_trans z200 (Nat.le_of_eq W98.size.symm)
  have z202 : n0 ≤ h105.size := Nat.le_trans z201 (Nat.le_of_eq W106.size.symm)
  have z203 : n0 ≤ h114.size := Nat.le_trans z202 (Nat.le_of_eq W115.size.symm)
  have z204 : n0 ≤ h124.size := Nat.le_trans z203 (Nat.le_of_eq W125.size.symm)
  have z205 : n0 ≤ h135.size := Nat.le_trans z204 (Nat.le_of_eq W136.size.symm)
  have z206 : n0 ≤ h147.size := Nat.le_trans z205 (Nat.le_of_eq W148.size.symm)
  have z207 : n0 ≤ h160.size := Nat.le_trans z206 (Nat.le_of_eq W161.size.symm)
  have g199 : n0 ≤ b168 := by rw [eb169]; exact z207
  show own_Ends _ _ _ _ (T163.setTop (mkF m 56 #[.val (.ref r0), .val (.int (40 : Int32)), .val (.ref r2), .val (.ref r3), .val (.ref r4), .val (.ref r5), .val (.ref r6), .val (.ref r7), .val (.ref r8), .val (.ref r9), .unset] [(.ref b168), (.ref r0)]))
  have f208 : Exa Z h165 r0 "com/example/tierpath/tierpath/Bounds" := f170.ext E166
  have f209 : Fld Z h90 r0 "com/example/tierpath/tierpath/Bounds" "number" "[I" .null := Fnumber.other W91 (Or.inr (slot_ne (Or.inr (hw _ (List.mem_of_getElem? (i := 32) rfl))) (Or.inr (hw _ (List.mem_of_getElem? (i := 16) rfl))) (by decide) (t := (.array .int)) (t' := (.array .int)) (by decide) (by decide)))
  have f210 : Fld Z h97 r0 "com/example/tierpath/tierpath/Bounds" "number" "[I" .null := f209.other W98 (Or.inr (slot_ne (Or.inr (hw _ (List.mem_of_getElem? (i := 32) rfl))) (Or.inr (hw _ (List.mem_of_getElem? (i := 18) rfl))) (by decide) (t := (.array .int)) (t' := (.array .int)) (by decide) (by decide)))
  have f211 : Fld Z h105 r0 "com/example/tierpath/tierpath/Bounds" "number" "[I" .null := f210.other W106 (Or.inr (slot_ne (Or.inr (hw _ (List.mem_of_getElem? (i := 32) rfl))) (Or.inr (hw _ (List.mem_of_getElem? (i := 20) rfl))) (by decide) (t := (.array .int)) (t' := (.array .int)) (by decide) (by decide)))
  have f212 : Fld Z h114 r0 "com/example/tierpath/tierpath/Bounds" "number" "[I" .null := f211.other W115 (Or.inr (slot_ne (Or.inr (hw _ (List.mem_of_getElem? (i := 32) rfl))) (Or.inr (hw _ (List.mem_of_getElem? (i := 22) rfl))) (by decide) (t := (.array .int)) (t' := (.array .int)) (by decide) (by decide)))
  have f213 : Fld Z h124 r0 "com/example/tierpath/tierpath/Bounds" "number" "[I" .null := f212.other W125 (Or.inr (slot_ne (Or.inr (hw _ (List.mem_of_getElem? (i := 32) rfl))) (Or.inr (hw _ (List.mem_of_getElem? (i := 24) rfl))) (by decide) (t := (.array .int)) (t' := (.array .int)) (by decide) (by decide)))
  have f214 : Fld Z h135 r0 "com/example/tierpath/tierpath/Bounds" "number" "[I" .null := f213.other W136 (Or.inr (slot_ne (Or.inr (hw _ (List.mem_of_getElem? (i := 32) rfl))) (Or.inr (hw _ (List.mem_of_getElem? (i := 26) rfl))) (by decide) (t := (.array .int)) (t' := (.array .int)) (by decide) (by decide)))
  have f215 : Fld Z h147 r0 "com/example/tierpath/tierpath/Bounds" "number" "[I" .null := f214.other W148 (Or.inr (slot_ne (Or.inr (hw _ (List.mem_of_getElem? (i := 32) rfl))) (Or.inr (hw _ (List.mem_of_getElem? (i := 28) rfl))) (by decide) (t := (.array .int)) (t' := (.array .long)) (by decide) (by decide)))
  have f216 : Fld Z h160 r0 "com/example/tierpath/tierpath/Bounds" "number" "[I" .null := f215.other W161 (Or.inr (slot_ne (Or.inr (hw _ (List.mem_of_getElem? (i := 32) rfl))) (Or.inr (hw _ (List.mem_of_getElem? (i := 30) rfl))) (by decide) (t := (.array .int)) (t' := (.array .long)) (by decide) (by decide)))
  have f217 : Fld Z h165 r0 "com/example/tierpath/tierpath/Bounds" "number" "[I" .null := f216.ext E166
  refine own_putF Y164 hx hZ hown (host := "") (Or.inl (hw _ (List.mem_of_getElem? (i := 31) rfl))) Via.refl f217 f208 (Or.inr ⟨(hw _ (List.mem_of_getElem? (i := 32) rfl)), rfl, hnm⟩) (hw _ (List.mem_of_getElem? (i := 6) rfl)) g (ty := (.array .int)) (by decide) rfl rfl rfl rfl (hb hby own_d2_56) (fun T218 h220 Y219 W221 F222 => ?_)
  show own_Ends _ _ _ _ (T218.setTop (mkF m 59 #[.val (.ref r0), .val (.int (40 : Int32)), .val (.ref r2), .val (.ref r3), .val (.ref r4), .val (.ref r5), .val (.ref r6), .val (.ref r7), .val (.ref r8), .val (.ref r9), .unset] []))
  refine own_st (fun t_ => XS.iconst (own_here Y219) hx rfl (hb hby own_d2_59) ) ?_
  show own_Ends _ _ _ _ (T218.setTop (mkF m 60 #[.val (.ref r0), .val (.int (40 : Int32)), .val (.ref r2), .val (.ref r3), .val (.ref r4), .val (.ref r5), .val (.ref r6), .val (.ref r7), .val (.ref r8), .val (.ref r9), .unset] [(.int (0 : Int32))]))
  refine own_st (fun t_ => XS.istore (own_here Y219) hx rfl (hb hby own_d2_60) rfl (l' := #[.val (.ref r0), .val (.int (40 : Int32)), .val (.ref r2), .val (.ref r3), .val (.ref r4), .val (.ref r5), .val (.ref r6), .val (.ref r7), .val (.ref r8), .val (.ref r9), .val (.int (0 : Int32))]) rfl) ?_
  show own_Ends _ _ _ _ (T218.setTop (mkF m 62 #[.val (.ref r0), .val (.int (40 : Int32)), .val (.ref r2), .val (.ref r3), .val (.ref r4), .val (.ref r5), .val (.ref r6), .val (.ref r7), .val (.ref r8), .val (.ref r9), .val (.int (0 : Int32))] []))
  refine own_st (fun t_ => XS.iload (own_here Y219) hx rfl (hb hby own_d2_62) rfl) ?_
  show own_Ends _ _ _ _ (T218.setTop (mkF m 64 #[.val (.ref r0), .val (.int (40 : Int32)), .val (.ref r2), .val (.ref r3), .val (.ref r4), .val (.ref r5), .val (.ref r6), .val (.ref r7), .val (.ref r8), .val (.ref r9), .val (.int (0 : Int32))] [(.int (0 : Int32))]))
  refine own_st (fun t_ => XS.aloadN (own_here Y219) hx rfl (hb hby own_d2_64) rfl rfl) ?_
  show own_Ends _ _ _ _ (T218.setTop (mkF m 65 #[.val (.ref r0), .val (.int (40 : Int32)), .val (.ref r2), .val (.ref r3), .val (.ref r4), .val (.ref r5), .val (.ref r6), .val (.ref r7), .val (.ref r8), .val (.ref r9), .val (.int (0 : Int32))] [(.ref r3), (.int (0 : Int32))]))
  have f223 : own_A Z h165 r3 .int [(.int y0), (.int y1), (.int y2), (.int y3), (.int y4), (.int y5), (.int y6), (.int y7), (.int y8)] := f179.ext E166
  have f224 : own_A Z h220 r3 .int [(.int y0), (.int y1), (.int y2), (.int y3), (.int y4), (.int y5), (.int y6), (.int y7), (.int y8)] := f223.other W221 n3
  refine own_len Y219 hx hZ f224 (z := (9 : Int32)) rfl rfl rfl (hb hby own_d2_65) ?_
  show own_Ends _ _ _ _ (T218.setTop (mkF m 66 #[.val (.ref r0), .val (.int (40 : Int32)), .val (.ref r2), .val (.ref r3), .val (.ref r4), .val (.ref r5), .val (.ref r6), .val (.ref r7), .val (.ref r8), .val (.ref r9), .val (.int (0 : Int32))] [(.int (9 : Int32)), (.int (0 : Int32))]))
  refine own_st (fun t_ => XS.icmpNo (own_here Y219) hx rfl (hb hby own_d2_66) rfl (XT.ii_ge_f (by decide))) ?_
  show own_Ends _ _ _ _ (T218.setTop (mkF m 69 #[.val (.ref r0), .val (.int (40 : Int32)), .val (.ref r2), .val (.ref r3), .val (.ref r4), .val (.ref r5), .val (.ref r6), .val (.ref r7), .val (.ref r8), .val (.ref r9), .val (.int (0 : Int32))] []))
  refine own_st (fun t_ => XS.aloadN (own_here Y219) hx rfl (hb hby own_d2_69) rfl rfl) ?_
  show own_Ends _ _ _ _ (T218.setTop (mkF m 70 #[.val (.ref r0), .val (.int (40 : Int32)), .val (.ref r2), .val (.ref r3), .val (.ref r4), .val (.ref r5), .val (.ref r6), .val (.ref r7), .val (.ref r8), .val (.ref r9), .val (.int (0 : Int32))] [(.ref r0)]))
  refine own_getF Y219 hx hZ hown (host := "") (Or.inl (hw _ (List.mem_of_getElem? (i := 31) rfl))) Via.refl F222 rfl rfl (hb hby own_d2_70) (fun T225 Y226 => ?_)
  show own_Ends _ _ _ _ (T225.setTop (mkF m 73 #[.val (.ref r0), .val (.int (40 : Int32)), .val (.ref r2), .val (.ref r3), .val (.ref r4), .val (.ref r5), .val (.ref r6), .val (.ref r7), .val (.ref r8), .val (.ref r9), .val (.int (0 : Int32))] [(.ref b168)]))
  refine own_st (fun t_ => XS.aloadN (own_here Y226) hx rfl (hb hby own_d2_73) rfl rfl) ?_
  show own_Ends _ _ _ _ (T225.setTop (mkF m 74 #[.val (.ref r0), .val (.int (40 : Int32)), .val (.ref r2), .val (.ref r3), .val (.ref r4), .val (.ref r5), .val (.ref r6), .val (.ref r7), .val (.ref r8), .val (.ref r9), .val (.int (0 : Int32))] [(.ref r3), (.ref b168)]))
  refine own_st (fun t_ => XS.iload (own_here Y226) hx rfl (hb hby own_d2_74) rfl) ?_
  show own_Ends _ _ _ _ (T225.setTop (mkF m 76 #[.val (.ref r0), .val (.int (40 : Int32)), .val (.ref r2), .val (.ref r3), .val (.ref r4), .val (.ref r5), .val (.ref r6), .val (.ref r7), .val (.ref r8), .val (.ref r9), .val (.int (0 : Int32))] [(.int (0 : Int32)), (.ref r3), (.ref b168)]))
  refine own_ldI Y226 hx hZ f224 (i := 0) (by decide) (by decide) (Nat.le_of_ble_eq_true rfl) (v := (.int y0)) rfl rfl rfl (hb hby own_d2_76) ?_
  show own_Ends _ _ _ _ (T225.setTop (mkF m 77 #[.val (.ref r0), .val (.int (40 : Int32)), .val (.ref r2), .val (.ref r3), .val (.ref r4), .val (.ref r5), .val (.ref r6), .val (.ref r7), .val (.ref r8), .val (.ref r9), .val (.int (0 : Int32))] [(.int y0), (.ref b168)]))
  refine own_st (fun t_ => XS.iload (own_here Y226) hx rfl (hb hby own_d2_77) rfl) ?_
  show own_Ends _ _ _ _ (T225.setTop (mkF m 79 #[.val (.ref r0), .val (.int (40 : Int32)), .val (.ref r2), .val (.ref r3), .val (.ref r4), .val (.ref r5), .val (.ref r6), .val (.ref r7), .val (.ref r8), .val (.ref r9), .val (.int (0 : Int32))] [(.int (0 : Int32)), (.int y0), (.ref b168)]))
  refine own_st (fun t_ => XS.iconst (own_here Y226) hx rfl (hb hby own_d2_79) ) ?_
  show own_Ends _ _ _ _ (T225.setTop (mkF m 80 #[.val (.ref r0), .val (.int (40 : Int32)), .val (.ref r2), .val (.ref r3), .val (.ref r4), .val (.ref r5), .val (.ref r6), .val (.ref r7), .val (.ref r8), .val (.ref r9), .val (.int (0 : Int32))] [(.int (1 : Int32)), (.int (0 : Int32)), (.int y0), (.ref b168)]))
  refine own_st (fun t_ => XS.iadd (own_here Y226) hx rfl (hb hby own_d2_80) rfl) ?_
  show own_Ends _ _ _ _ (T225.setTop (mkF m 81 #[.val (.ref r0), .val (.int (40 : Int32)), .val (.ref r2), .val (.ref r3), .val (.ref r4), .val (.ref r5), .val (.ref r6), .val (.ref r7), .val (.ref r8), .val (.ref r9), .val (.int (0 : Int32))] [(.int (1 : Int32)), (.int y0), (.ref b168)]))
  have f227 : own_A Z h220 b168 .int (List.replicate 41 (.int (0 : Int32))) := A167.other W221 (Ne.symm ne171)
  obtain ⟨q0, q1⟩ := own_nat (j := y0) (i := y0.toInt.toNat) (by omega)
  refine own_stI Y226 hx hZ f227 g199 (i := y0.toInt.toNat) q0 q1 (by first | (rw [hns]; omega) | (simp; omega)) rfl rfl (hb hby own_d2_81) (fun T228 h230 Y229 W231 A232 => ?_)
  show own_Ends _ _ _ _ (T228.setTop (mkF m 82 #[.val (.ref r0), .val (.int (40 : Int32)), .val (.ref r2), .val (.ref r3), .val (.ref r4), .val (.ref r5), .val (.ref r6), .val (.ref r7), .val (.ref r8), .val (.ref r9), .val (.int (0 : Int32))] []))
  obtain ⟨ns233, hns, A234⟩ : ∃ ns : List Value, ns.length = 41 ∧ own_A Z h230 b168 .int ns := ⟨_, by simp [List.length_replicate], A232⟩
  refine own_st (fun t_ => XS.iinc (own_here Y229) hx rfl (hb hby own_d2_82) rfl (l' := #[.val (.ref r0), .val (.int (40 : Int32)), .val (.ref r2), .val (.ref r3), .val (.ref r4), .val (.ref r5), .val (.ref r6), .val (.ref r7), .val (.ref r8), .val (.ref r9), .val (.int (1 : Int32))]) rfl) ?_
  show own_Ends _ _ _ _ (T228.setTop (mkF m 85 #[.val (.ref r0), .val (.int (40 : Int32)), .val (.ref r2), .val (.ref r3), .val (.ref r4), .val (.ref r5), .val (.ref r6), .val (.ref r7), .val (.ref r8), .val (.ref r9), .val (.int (1 : Int32))] []))
  refine own_st (fun t_ => XS.goto (own_here Y229) hx rfl (pc0 := 85) (pc' := 62) rfl (hb hby own_d2_85) (by decide) (by decide)) ?_
  show own_Ends _ _ _ _ (T228.setTop (mkF m 62 #[.val (.ref r0), .val (.int (40 : Int32)), .val (.ref r2), .val (.ref r3), .val (.ref r4), .val (.ref r5), .val (.ref r6), .val (.ref r7), .val (.ref r8), .val (.ref r9), .val (.int (1 : Int32))] []))
  refine own_st (fun t_ => XS.iload (own_here Y229) hx rfl (hb hby own_d2_62) rfl) ?_
  show own_Ends _ _ _ _ (T228.setTop (mkF m 64 #[.val (.ref r0), .val (.int (40 : Int32)), .val (.ref r2), .val (.ref r3), .val (.ref r4), .val (.ref r5), .val (.ref r6), .val (.ref r7), .val (.ref r8), .val (.ref r9), .val (.int (1 : Int32))] [(.int (1 : Int32))]))
  refine own_st (fun t_ => XS.aloadN (own_here Y229) hx rfl (hb hby own_d2_64) rfl rfl) ?_
  show own_Ends _ _ _ _ (T228.setTop (mkF m 65 #[.val (.ref r0), .val (.int (40 : Int32)), .val (.ref r2), .val (.ref r3), .val (.ref r4), .val (.ref r5), .val (.ref r6), .val (.ref r7), .val (.ref r8), .val (.ref r9), .val (.int (1 : Int32))] [(.ref r3), (.int (1 : Int32))]))
  have f235 : own_A Z h230 r3 .int [(.int y0), (.int y1), (.int y2), (.int y3), (.int y4), (.int y5), (.int y6), (.int y7), (.int y8)] := f224.other W231 ne180
  refine own_len Y229 hx hZ f235 (z := (9 : Int32)) rfl rfl rfl (hb hby own_d2_65) ?_
  show own_Ends _ _ _ _ (T228.setTop (mkF m 66 #[.val (.ref r0), .val (.int (40 : Int32)), .val (.ref r2), .val (.ref r3), .val (.ref r4), .val (.ref r5), .val (.ref r6), .val (.ref r7), .val (.ref r8), .val (.ref r9), .val (.int (1 : Int32))] [(.int (9 : Int32)), (.int (1 : Int32))]))
  refine own_st (fun t_ => XS.icmpNo (own_here Y229) hx rfl (hb hby own_d2_66) rfl (XT.ii_ge_f (by decide))) ?_
  show own_Ends _ _ _ _ (T228.setTop (mkF m 69 #[.val (.ref r0), .val (.int (40 : Int32)), .val (.ref r2), .val (.ref r3), .val (.ref r4), .val (.ref r5), .val (.ref r6), .val (.ref r7), .val (.ref r8), .val (.ref r9), .val (.int (1 : Int32))] []))
  refine own_st (fun t_ => XS.aloadN (own_here Y229) hx rfl (hb hby own_d2_69) rfl rfl) ?_
  show own_Ends _ _ _ _ (T228.setTop (mkF m 70 #[.val (.ref r0), .val (.int (40 : Int32)), .val (.ref r2), .val (.ref r3), .val (.ref r4), .val (.ref r5), .val (.ref r6), .val (.ref r7), .val (.ref r8), .val (.ref r9), .val (.int (1 : Int32))] [(.ref r0)]))
  have f236 : Fld Z h230 r0 "com/example/tierpath/tierpath/Bounds" "number" "[I" (.ref b168) := F222.other W231 (Or.inl ne171)
  refine own_getF Y229 hx hZ hown (host := "") (Or.inl (hw _ (List.mem_of_getElem? (i := 31) rfl))) Via.refl f236 rfl rfl (hb hby own_d2_70) (fun T237 Y238 => ?_)
  show own_Ends _ _ _ _ (T237.setTop (mkF m 73 #[.val (.ref r0), .val (.int (40 : Int32)), .val (.ref r2), .val (.ref r3), .val (.ref r4), .val (.ref r5), .val (.ref r6), .val (.ref r7), .val (.ref r8), .val (.ref r9), .val (.int (1 : Int32))] [(.ref b168)]))
  refine own_st (fun t_ => XS.aloadN (own_here Y238) hx rfl (hb hby own_d2_73) rfl rfl) ?_
  show own_Ends _ _ _ _ (T237.setTop (mkF m 74 #[.val (.ref r0), .val (.int (40 : Int32)), .val (.ref r2), .val (.ref r3), .val (.ref r4), .val (.ref r5), .val (.ref r6), .val (.ref r7), .val (.ref r8), .val (.ref r9), .val (.int (1 : Int32))] [(.ref r3), (.ref b168)]))
  refine own_st (fun t_ => XS.iload (own_here Y238) hx rfl (hb hby own_d2_74) rfl) ?_
  show own_Ends _ _ _ _ (T237.setTop (mkF m 76 #[.val (.ref r0), .val (.int (40 : Int32)), .val (.ref r2), .val (.ref r3), .val (.ref r4), .val (.ref r5), .val (.ref r6), .val (.ref r7), .val (.ref r8), .val (.ref r9), .val (.int (1 : Int32))] [(.int (1 : Int32)), (.ref r3), (.ref b168)]))
  refine own_ldI Y238 hx hZ f235 (i := 1) (by decide) (by decide) (Nat.le_of_ble_eq_true rfl) (v := (.int y1)) rfl rfl rfl (hb hby own_d2_76) ?_
  show own_Ends _ _ _ _ (T237.setTop (mkF m 77 #[.val (.ref r0), .val (.int (40 : Int32)), .val (.ref r2), .val (.ref r3), .val (.ref r4), .val (.ref r5), .val (.ref r6), .val (.ref r7), .val (.ref r8), .val (.ref r9), .val (.int (1 : Int32))] [(.int y1), (.ref b168)]))
  refine own_st (fun t_ => XS.iload (own_here Y238) hx rfl (hb hby own_d2_77) rfl) ?_
  show own_Ends _ _ _ _ (T237.setTop (mkF m 79 #[.val (.ref r0), .val (.int (40 : Int32)), .val (.ref r2), .val (.ref r3), .val (.ref r4), .val (.ref r5), .val (.ref r6), .val (.ref r7), .val (.ref r8), .val (.ref r9), .val (.int (1 : Int32))] [(.int (1 : Int32)), (.int y1), (.ref b168)]))
  refine own_st (fun t_ => XS.iconst (own_here Y238) hx rfl (hb hby own_d2_79) ) ?_
  show own_Ends _ _ _ _ (T237.setTop (mkF m 80 #[.val (.ref r0), .val (.int (40 : Int32)), .val (.ref r2), .val (.ref r3), .val (.ref r4), .val (.ref r5), .val (.ref r6), .val (.ref r7), .val (.ref r8), .val (.ref r9), .val (.int (1 : Int32))] [(.int (1 : Int32)), (.int (1 : Int32)), (.int y1), (.ref b168)]))
  refine own_st (fun t_ => XS.iadd (own_here Y238) hx rfl (hb hby own_d2_80) rfl) ?_
  show own_Ends _ _ _ _ (T237.setTop (mkF m 81 #[.val (.ref r0), .val (.int (40 : Int32)), .val (.ref r2), .val (.ref r3), .val (.ref r4), .val (.ref r5), .val (.ref r6), .val (.ref r7), .val (.ref r8), .val (.ref r9), .val (.int (1 : Int32))] [(.int (2 : Int32)), (.int y1), (.ref b168)]))
  obtain ⟨q0, q1⟩ := own_nat (j := y1) (i := y1.toInt.toNat) (by omega)
  refine own_stI Y238 hx hZ A234 g199 (i := y1.toInt.toNat) q0 q1 (by first | (rw [hns]; omega) | (simp; omega)) rfl rfl (hb hby own_d2_81) (fun T239 h241 Y240 W242 A243 => ?_)
  show own_Ends _ _ _ _ (T239.setTop (mkF m 82 #[.val (.ref r0), .val (.int (40 : Int32)), .val (.ref r2), .val (.ref r3), .val (.ref r4), .val (.ref r5), .val (.ref r6), .val (.ref r7), .val (.ref r8), .val (.ref r9), .val (.int (1 : Int32))] []))
  obtain ⟨ns244, hns, A245⟩ : ∃ ns : List Value, ns.length = 41 ∧ own_A Z h241 b168 .int ns := ⟨_, by simp [hns], A243⟩
  refine own_st (fun t_ => XS.iinc (own_here Y240) hx rfl (hb hby own_d2_82) rfl (l' := #[.val (.ref r0), .val (.int (40 : Int32)), .val (.ref r2), .val (.ref r3), .val (.ref r4), .val (.ref r5), .val (.ref r6), .val (.ref r7), .val (.ref r8), .val (.ref r9), .val (.int (2 : Int32))]) rfl) ?_
  show own_Ends _ _ _ _ (T239.setTop (mkF m 85 #[.val (.ref r0), .val (.int (40 : Int32)), .val (.ref r2), .val (.ref r3), .val (.ref r4), .val (.ref r5), .val (.ref r6), .val (.ref r7), .val (.ref r8), .val (.ref r9), .val (.int (2 : Int32))] []))
  refine own_st (fun t_ => XS.goto (own_here Y240) hx rfl (pc0 := 85) (pc' := 62) rfl (hb hby own_d2_85) (by decide) (by decide)) ?_
  show own_Ends _ _ _ _ (T239.setTop (mkF m 62 #[.val (.ref r0), .val (.int (40 : Int32)), .val (.ref r2), .val (.ref r3), .val (.ref r4), .val (.ref r5), .val (.ref r6), .val (.ref r7), .val (.ref r8), .val (.ref r9), .val (.int (2 : Int32))] []))
  refine own_st (fun t_ => XS.iload (own_here Y240) hx rfl (hb hby own_d2_62) rfl) ?_
  show own_Ends _ _ _ _ (T239.setTop (mkF m 64 #[.val (.ref r0), .val (.int (40 : Int32)), .val (.ref r2), .val (.ref r3), .val (.ref r4), .val (.ref r5), .val (.ref r6), .val (.ref r7), .val (.ref r8), .val (.ref r9), .val (.int (2 : Int32))] [(.int (2 : Int32))]))
  refine own_st (fun t_ => XS.aloadN (own_here Y240) hx rfl (hb hby own_d2_64) rfl rfl) ?_
  show own_Ends _ _ _ _ (T239.setTop (mkF m 65 #[.val (.ref r0), .val (.int (40 : Int32)), .val (.ref r2), .val (.ref r3), .val (.ref r4), .val (.ref r5), .val (.ref r6), .val (.ref r7), .val (.ref r8), .val (.ref r9), .val (.int (2 : Int32))] [(.ref r3), (.int (2 : Int32))]))
  have f246 : own_A Z h241 r3 .int [(.int y0), (.int y1), (.int y2), (.int y3), (.int y4), (.int y5), (.int y6), (.int y7), (.int y8)] := f235.other W242 ne180
  refine own_len Y240 hx hZ f246 (z := (9 : Int32)) rfl rfl rfl (hb hby own_d2_65) ?_
  show own_Ends _ _ _ _ (T239.setTop (mkF m 66 #[.val (.ref r0), .val (.int (40 : Int32)), .val (.ref r2), .val (.ref r3), .val (.ref r4), .val (.ref r5), .val (.ref r6), .val (.ref r7), .val (.ref r8), .val (.ref r9), .val (.int (2 : Int32))] [(.int (9 : Int32)), (.int (2 : Int32))]))
  refine own_st (fun t_ => XS.icmpNo (own_here Y240) hx rfl (hb hby own_d2_66) rfl (XT.ii_ge_f (by decide))) ?_
  show own_Ends _ _ _ _ (T239.setTop (mkF m 69 #[.val (.ref r0), .val (.int (40 : Int32)), .val (.ref r2), .val (.ref r3), .val (.ref r4), .val (.ref r5), .val (.ref r6), .val (.ref r7), .val (.ref r8), .val (.ref r9), .val (.int (2 : Int32))] []))
  refine own_st (fun t_ => XS.aloadN (own_here Y240) hx rfl (hb hby own_d2_69) rfl rfl) ?_
  show own_Ends _ _ _ _ (T239.setTop (mkF m 70 #[.val (.ref r0), .val (.int (40 : Int32)), .val (.ref r2), .val (.ref r3), .val (.ref r4), .val (.ref r5), .val (.ref r6), .val (.ref r7), .val (.ref r8), .val (.ref r9), .val (.int (2 : Int32))] [(.ref r0)]))
  have f247 : Fld Z h241 r0 "com/example/tierpath/tierpath/Bounds" "number" "[I" (.ref b168) := f236.other W242 (Or.inl ne171)
  refine own_getF Y240 hx hZ hown (host := "") (Or.inl (hw _ (List.mem_of_getElem? (i := 31) rfl))) Via.refl f247 rfl rfl (hb hby own_d2_70) (fun T248 Y249 => ?_)
  show own_Ends _ _ _ _ (T248.setTop (mkF m 73 #[.val (.ref r0), .val (.int (40 : Int32)), .val (.ref r2), .val (.ref r3), .val (.ref r4), .val (.ref r5), .val (.ref r6), .val (.ref r7), .val (.ref r8), .val (.ref r9), .val (.int (2 : Int32))] [(.ref b168)]))
  refine own_st (fun t_ => XS.aloadN (own_here Y249) hx rfl (hb hby own_d2_73) rfl rfl) ?_
  show own_Ends _ _ _ _ (T248.setTop (mkF m 74 #[.val (.ref r0), .val (.int (40 : Int32)), .val (.ref r2), .val (.ref r3), .val (.ref r4), .val (.ref r5), .val (.ref r6), .val (.ref r7), .val (.ref r8), .val (.ref r9), .val (.int (2 : Int32))] [(.ref r3), (.ref b168)]))
  refine own_st (fun t_ => XS.iload (own_here Y249) hx rfl (hb hby own_d2_74) rfl) ?_
  show own_Ends _ _ _ _ (T248.setTop (mkF m 76 #[.val (.ref r0), .val (.int (40 : Int32)), .val (.ref r2), .val (.ref r3), .val (.ref r4), .val (.ref r5), .val (.ref r6), .val (.ref r7), .val (.ref r8), .val (.ref r9), .val (.int (2 : Int32))] [(.int (2 : Int32)), (.ref r3), (.ref b168)]))
  refine own_ldI Y249 hx hZ f246 (i := 2) (by decide) (by decide) (Nat.le_of_ble_eq_true rfl) (v := (.int y2)) rfl rfl rfl (hb hby own_d2_76) ?_
  show own_Ends _ _ _ _ (T248.setTop (mkF m 77 #[.val (.ref r0), .val (.int (40 : Int32)), .val (.ref r2), .val (.ref r3), .val (.ref r4), .val (.ref r5), .val (.ref r6), .val (.ref r7), .val (.ref r8), .val (.ref r9), .val (.int (2 : Int32))] [(.int y2), (.ref b168)]))
  refine own_st (fun t_ => XS.iload (own_here Y249) hx rfl (hb hby own_d2_77) rfl) ?_
  show own_Ends _ _ _ _ (T248.setTop (mkF m 79 #[.val (.ref r0), .val (.int (40 : Int32)), .val (.ref r2), .val (.ref r3), .val (.ref r4), .val (.ref r5), .val (.ref r6), .val (.ref r7), .val (.ref r8), .val (.ref r9), .val (.int (2 : Int32))] [(.int (2 : Int32)), (.int y2), (.ref b168)]))
  refine own_st (fun t_ => XS.iconst (own_here Y249) hx rfl (hb hby own_d2_79) ) ?_
  show own_Ends _ _ _ _ (T248.setTop (mkF m 80 #[.val (.ref r0), .val (.int (40 : Int32)), .val (.ref r2), .val (.ref r3), .val (.ref r4), .val (.ref r5), .val (.ref r6), .val (.ref r7), .val (.ref r8), .val (.ref r9), .val (.int (2 : Int32))] [(.int (1 : Int32)), (.int (2 : Int32)), (.int y2), (.ref b168)]))
  refine own_st (fun t_ => XS.iadd (own_here Y249) hx rfl (hb hby own_d2_80) rfl) ?_
  show own_Ends _ _ _ _ (T248.setTop (mkF m 81 #[.val (.ref r0), .val (.int (40 : Int32)), .val (.ref r2), .val (.ref r3), .val (.ref r4), .val (.ref r5), .val (.ref r6), .val (.ref r7), .val (.ref r8), .val (.ref r9), .val (.int (2 : Int32))] [(.int (3 : Int32)), (.int y2), (.ref b168)]))
  obtain ⟨q0, q1⟩ := own_nat (j := y2) (i := y2.toInt.toNat) (by omega)
  refine own_stI Y249 hx hZ A245 g199 (i := y2.toInt.toNat) q0 q1 (by first | (rw [hns]; omega) | (simp; omega)) rfl rfl (hb hby own_d2_81) (fun T250 h252 Y251 W253 A254 => ?_)
  show own_Ends _ _ _ _ (T250.setTop (mkF m 82 #[.val (.ref r0), .val (.int (40 : Int32)), .val (.ref r2), .val (.ref r3), .val (.ref r4), .val (.ref r5), .val (.ref r6), .val (.ref r7), .val (.ref r8), .val (.ref r9), .val (.int (2 : Int32))] []))
  obtain ⟨ns255, hns, A256⟩ : ∃ ns : List Value, ns.length = 41 ∧ own_A Z h252 b168 .int ns := ⟨_, by simp [hns], A254⟩
  refine own_st (fun t_ => XS.iinc (own_here Y251) hx rfl (hb hby own_d2_82) rfl (l' := #[.val (.ref r0), .val (.int (40 : Int32)), .val (.ref r2), .val (.ref r3), .val (.ref r4), .val (.ref r5), .val (.ref r6), .val (.ref r7), .val (.ref r8), .val (.ref r9), .val (.int (3 : Int32))]) rfl) ?_
  show own_Ends _ _ _ _ (T250.setTop (mkF m 85 #[.val (.ref r0), .val (.int (40 : Int32)), .val (.ref r2), .val (.ref r3), .val (.ref r4), .val (.ref r5), .val (.ref r6), .val (.ref r7), .val (.ref r8), .val (.ref r9), .val (.int (3 : Int32))] []))
  refine own_st (fun t_ => XS.goto (own_here Y251) hx rfl (pc0 := 85) (pc' := 62) rfl (hb hby own_d2_85) (by decide) (by decide)) ?_
  show own_Ends _ _ _ _ (T250.setTop (mkF m 62 #[.val (.ref r0), .val (.int (40 : Int32)), .val (.ref r2), .val (.ref r3), .val (.ref r4), .val (.ref r5), .val (.ref r6), .val (.ref r7), .val (.ref r8), .val (.ref r9), .val (.int (3 : Int32))] []))
  refine own_st (fun t_ => XS.iload (own_here Y251) hx rfl (hb hby own_d2_62) rfl) ?_
  show own_Ends _ _ _ _ (T250.setTop (mkF m 64 #[.val (.ref r0), .val (.int (40 : Int32)), .val (.ref r2), .val (.ref r3), .val (.ref r4), .val (.ref r5), .val (.ref r6), .val (.ref r7), .val (.ref r8), .val (.ref r9), .val (.int (3 : Int32))] [(.int (3 : Int32))]))
  refine own_st (fun t_ => XS.aloadN (own_here Y251) hx rfl (hb hby own_d2_64) rfl rfl) ?_
  show own_Ends _ _ _ _ (T250.setTop (mkF m 65 #[.val (.ref r0), .val (.int (40 : Int32)), .val (.ref r2), .val (.ref r3), .val (.ref r4), .val (.ref r5), .val (.ref r6), .val (.ref r7), .val (.ref r8), .val (.ref r9), .val (.int (3 : Int32))] [(.ref r3), (.int (3 : Int32))]))
  have f257 : own_A Z h252 r3 .int [(.int y0), (.int y1), (.int y2), (.int y3), (.int y4), (.int y5), (.int y6), (.int y7), (.int y8)] := f246.other W253 ne180
  refine own_len Y251 hx hZ f257 (z := (9 : Int32)) rfl rfl rfl (hb hby own_d2_65) ?_
  show own_Ends _ _ _ _ (T250.setTop (mkF m 66 #[.val (.ref r0), .val (.int (40 : Int32)), .val (.ref r2), .val (.ref r3), .val (.ref r4), .val (.ref r5), .val (.ref r6), .val (.ref r7), .val (.ref r8), .val (.ref r9), .val (.int (3 : Int32))] [(.int (9 : Int32)), (.int (3 : Int32))]))
  refine own_st (fun t_ => XS.icmpNo (own_here Y251) hx rfl (hb hby own_d2_66) rfl (XT.ii_ge_f (by decide))) ?_
  show own_Ends _ _ _ _ (T250.setTop (mkF m 69 #[.val (.ref r0), .val (.int (40 : Int32)), .val (.ref r2), .val (.ref r3), .val (.ref r4), .val (.ref r5), .val (.ref r6), .val (.ref r7), .val (.ref r8), .val (.ref r9), .val (.int (3 : Int32))] []))
  refine own_st (fun t_ => XS.aloadN (own_here Y251) hx rfl (hb hby own_d2_69) rfl rfl) ?_
  show own_Ends _ _ _ _ (T250.setTop (mkF m 70 #[.val (.ref r0), .val (.int (40 : Int32)), .val (.ref r2), .val (.ref r3), .val (.ref r4), .val (.ref r5), .val (.ref r6), .val (.ref r7), .val (.ref r8), .val (.ref r9), .val (.int (3 : Int32))] [(.ref r0)]))
  have f258 : Fld Z h252 r0 "com/example/tierpath/tierpath/Bounds" "number" "[I" (.ref b168) := f247.other W253 (Or.inl ne171)
  refine own_getF Y251 hx hZ hown (host := "") (Or.inl (hw _ (List.mem_of_getElem? (i := 31) rfl))) Via.refl f258 rfl rfl (hb hby own_d2_70) (fun T259 Y260 => ?_)
  show own_Ends _ _ _ _ (T259.setTop (mkF m 73 #[.val (.ref r0), .val (.int (40 : Int32)), .val (.ref r2), .val (.ref r3), .val (.ref r4), .val (.ref r5), .val (.ref r6), .val (.ref r7), .val (.ref r8), .val (.ref r9), .val (.int (3 : Int32))] [(.ref b168)]))
  refine own_st (fun t_ => XS.aloadN (own_here Y260) hx rfl (hb hby own_d2_73) rfl rfl) ?_
  show own_Ends _ _ _ _ (T259.setTop (mkF m 74 #[.val (.ref r0), .val (.int (40 : Int32)), .val (.ref r2), .val (.ref r3), .val (.ref r4), .val (.ref r5), .val (.ref r6), .val (.ref r7), .val (.ref r8), .val (.ref r9), .val (.int (3 : Int32))] [(.ref r3), (.ref b168)]))
  refine own_st (fun t_ => XS.iload (own_here Y260) hx rfl (hb hby own_d2_74) rfl) ?_
  show own_Ends _ _ _ _ (T259.setTop (mkF m 76 #[.val (.ref r0), .val (.int (40 : Int32)), .val (.ref r2), .val (.ref r3), .val (.ref r4), .val (.ref r5), .val (.ref r6), .val (.ref r7), .val (.ref r8), .val (.ref r9), .val (.int (3 : Int32))] [(.int (3 : Int32)), (.ref r3), (.ref b168)]))
  refine own_ldI Y260 hx hZ f257 (i := 3) (by decide) (by decide) (Nat.le_of_ble_eq_true rfl) (v := (.int y3)) rfl rfl rfl (hb hby own_d2_76) ?_
  show own_Ends _ _ _ _ (T259.setTop (mkF m 77 #[.val (.ref r0), .val (.int (40 : Int32)), .val (.ref r2), .val (.ref r3), .val (.ref r4), .val (.ref r5), .val (.ref r6), .val (.ref r7), .val (.ref r8), .val (.ref r9), .val (.int (3 : Int32))] [(.int y3), (.ref b168)]))
  refine own_st (fun t_ => XS.iload (own_here Y260) hx rfl (hb hby own_d2_77) rfl) ?_
  show own_Ends _ _ _ _ (T259.setTop (mkF m 79 #[.val (.ref r0), .val (.int (40 : Int32)), .val (.ref r2), .val (.ref r3), .val (.ref r4), .val (.ref r5), .val (.ref r6), .val (.ref r7), .val (.ref r8), .val (.ref r9), .val (.int (3 : Int32))] [(.int (3 : Int32)), (.int y3), (.ref b168)]))
  refine own_st (fun t_ => XS.iconst (own_here Y260) hx rfl (hb hby own_d2_79) ) ?_
  show own_Ends _ _ _ _ (T259.setTop (mkF m 80 #[.val (.ref r0), .val (.int (40 : Int32)), .val (.ref r2), .val (.ref r3), .val (.ref r4), .val (.ref r5), .val (.ref r6), .val (.ref r7), .val (.ref r8), .val (.ref r9), .val (.int (3 : Int32))] [(.int (1 : Int32)), (.int (3 : Int32)), (.int y3), (.ref b168)]))
  refine own_st (fun t_ => XS.iadd (own_here Y260) hx rfl (hb hby own_d2_80) rfl) ?_
  show own_Ends _ _ _ _ (T259.setTop (mkF m 81 #[.val (.ref r0), .val (.int (40 : Int32)), .val (.ref r2), .val (.ref r3), .val (.ref r4), .val (.ref r5), .val (.ref r6), .val (.ref r7), .val (.ref r8), .val (.ref r9), .val (.int (3 : Int32))] [(.int (4 : Int32)), (.int y3), (.ref b168)]))
  obtain ⟨q0, q1⟩ := own_nat (j := y3) (i := y3.toInt.toNat) (by omega)
  refine own_stI Y260 hx hZ A256 g199 (i := y3.toInt.toNat) q0 q1 (by first | (rw [hns]; omega) | (simp; omega)) rfl rfl (hb hby own_d2_81) (fun T261 h263 Y262 W264 A265 => ?_)
  show own_Ends _ _ _ _ (T261.setTop (mkF m 82 #[.val (.ref r0), .val (.int (40 : Int32)), .val (.ref r2), .val (.ref r3), .val (.ref r4), .val (.ref r5), .val (.ref r6), .val (.ref r7), .val (.ref r8), .val (.ref r9), .val (.int (3 : Int32))] []))
  obtain ⟨ns266, hns, A267⟩ : ∃ ns : List Value, ns.length = 41 ∧ own_A Z h263 b168 .int ns := ⟨_, by simp [hns], A265⟩
  refine own_st (fun t_ => XS.iinc (own_here Y262) hx rfl (hb hby own_d2_82) rfl (l' := #[.val (.ref r0), .val (.int (40 : Int32)), .val (.ref r2), .val (.ref r3), .val (.ref r4), .val (.ref r5), .val (.ref r6), .val (.ref r7), .val (.ref r8), .val (.ref r9), .val (.int (4 : Int32))]) rfl) ?_
  show own_Ends _ _ _ _ (T261.setTop (mkF m 85 #[.val (.ref r0), .val (.int (40 : Int32)), .val (.ref r2), .val (.ref r3), .val (.ref r4), .val (.ref r5), .val (.ref r6), .val (.ref r7), .val (.ref r8), .val (.ref r9), .val (.int (4 : Int32))] []))
  refine own_st (fun t_ => XS.goto (own_here Y262) hx rfl (pc0 := 85) (pc' := 62) rfl (hb hby own_d2_85) (by decide) (by decide)) ?_
  show own_Ends _ _ _ _ (T261.setTop (mkF m 62 #[.val (.ref r0), .val (.int (40 : Int32)), .val (.ref r2), .val (.ref r3), .val (.ref r4), .val (.ref r5), .val (.ref r6), .val (.ref r7), .val (.ref r8), .val (.ref r9), .val (.int (4 : Int32))] []))
  refine own_st (fun t_ => XS.iload (own_here Y262) hx rfl (hb hby own_d2_62) rfl) ?_
  show own_Ends _ _ _ _ (T261.setTop (mkF m 64 #[.val (.ref r0), .val (.int (40 : Int32)), .val (.ref r2), .val (.ref r3), .val (.ref r4), .val (.ref r5), .val (.ref r6), .val (.ref r7), .val (.ref r8), .val (.ref r9), .val (.int (4 : Int32))] [(.int (4 : Int32))]))
  refine own_st (fun t_ => XS.aloadN (own_here Y262) hx rfl (hb hby own_d2_64) rfl rfl) ?_
  show own_Ends _ _ _ _ (T261.setTop (mkF m 65 #[.val (.ref r0), .val (.int (40 : Int32)), .val (.ref r2), .val (.ref r3), .val (.ref r4), .val (.ref r5), .val (.ref r6), .val (.ref r7), .val (.ref r8), .val (.ref r9), .val (.int (4 : Int32))] [(.ref r3), (.int (4 : Int32))]))
  have f268 : own_A Z h263 r3 .int [(.int y0), (.int y1), (.int y2), (.int y3), (.int y4), (.int y5), (.int y6), (.int y7), (.int y8)] := f257.other W264 ne180
  refine own_len Y262 hx hZ f268 (z := (9 : Int32)) rfl rfl rfl (hb hby own_d2_65) ?_
  show own_Ends _ _ _ _ (T261.setTop (mkF m 66 #[.val (.ref r0), .val (.int (40 : Int32)), .val (.ref r2), .val (.ref r3), .val (.ref r4), .val (.ref r5), .val (.ref r6), .val (.ref r7), .val (.ref r8), .val (.ref r9), .val (.int (4 : Int32))] [(.int (9 : Int32)), (.int (4 : Int32))]))
  refine own_st (fun t_ => XS.icmpNo (own_here Y262) hx rfl (hb hby own_d2_66) rfl (XT.ii_ge_f (by decide))) ?_
  show own_Ends _ _ _ _ (T261.setTop (mkF m 69 #[.val (.ref r0), .val (.int (40 : Int32)), .val (.ref r2), .val (.ref r3), .val (.ref r4), .val (.ref r5), .val (.ref r6), .val (.ref r7), .val (.ref r8), .val (.ref r9), .val (.int (4 : Int32))] []))
  refine own_st (fun t_ => XS.aloadN (own_here Y262) hx rfl (hb hby own_d2_69) rfl rfl) ?_
  show own_Ends _ _ _ _ (T261.setTop (mkF m 70 #[.val (.ref r0), .val (.int (40 : Int32)), .val (.ref r2), .val (.ref r3), .val (.ref r4), .val (.ref r5), .val (.ref r6), .val (.ref r7), .val (.ref r8), .val (.ref r9), .val (.int (4 : Int32))] [(.ref r0)]))
  have f269 : Fld Z h263 r0 "com/example/tierpath/tierpath/Bounds" "number" "[I" (.ref b168) := f258.other W264 (Or.inl ne171)
  refine own_getF Y262 hx hZ hown (host := "") (Or.inl (hw _ (List.mem_of_getElem? (i := 31) rfl))) Via.refl f269 rfl rfl (hb hby own_d2_70) (fun T270 Y271 => ?_)
  show own_Ends _ _ _ _ (T270.setTop (mkF m 73 #[.val (.ref r0), .val (.int (40 : Int32)), .val (.ref r2), .val (.ref r3), .val (.ref r4), .val (.ref r5), .val (.ref r6), .val (.ref r7), .val (.ref r8), .val (.ref r9), .val (.int (4 : Int32))] [(.ref b168)]))
  refine own_st (fun t_ => XS.aloadN (own_here Y271) hx rfl (hb hby own_d2_73) rfl rfl) ?_
  show own_Ends _ _ _ _ (T270.setTop (mkF m 74 #[.val (.ref r0), .val (.int (40 : Int32)), .val (.ref r2), .val (.ref r3), .val (.ref r4), .val (.ref r5), .val (.ref r6), .val (.ref r7), .val (.ref r8), .val (.ref r9), .val (.int (4 : Int32))] [(.ref r3), (.ref b168)]))
  refine own_st (fun t_ => XS.iload (own_here Y271) hx rfl (hb hby own_d2_74) rfl) ?_
  show own_Ends _ _ _ _ (T270.setTop (mkF m 76 #[.val (.ref r0), .val (.int (40 : Int32)), .val (.ref r2), .val (.ref r3), .val (.ref r4), .val (.ref r5), .val (.ref r6), .val (.ref r7), .val (.ref r8), .val (.ref r9), .val (.int (4 : Int32))] [(.int (4 : Int32)), (.ref r3), (.ref b168)]))
  refine own_ldI Y271 hx hZ f268 (i := 4) (by decide) (by decide) (Nat.le_of_ble_eq_true rfl) (v := (.int y4)) rfl rfl rfl (hb hby own_d2_76) ?_
  show own_Ends _ _ _ _ (T270.setTop (mkF m 77 #[.val (.ref r0), .val (.int (40 : Int32)), .val (.ref r2), .val (.ref r3), .val (.ref r4), .val (.ref r5), .val (.ref r6), .val (.ref r7), .val (.ref r8), .val (.ref r9), .val (.int (4 : Int32))] [(.int y4), (.ref b168)]))
  refine own_st (fun t_ => XS.iload (own_here Y271) hx rfl (hb hby own_d2_77) rfl) ?_
  show own_Ends _ _ _ _ (T270.setTop (mkF m 79 #[.val (.ref r0), .val (.int (40 : Int32)), .val (.ref r2), .val (.ref r3), .val (.ref r4), .val (.ref r5), .val (.ref r6), .val (.ref r7), .val (.ref r8), .val (.ref r9), .val (.int (4 : Int32))] [(.int (4 : Int32)), (.int y4), (.ref b168)]))
  refine own_st (fun t_ => XS.iconst (own_here Y271) hx rfl (hb hby own_d2_79) ) ?_
  show own_Ends _ _ _ _ (T270.setTop (mkF m 80 #[.val (.ref r0), .val (.int (40 : Int32)), .val (.ref r2), .val (.ref r3), .val (.ref r4), .val (.ref r5), .val (.ref r6), .val (.ref r7), .val (.ref r8), .val (.ref r9), .val (.int (4 : Int32))] [(.int (1 : Int32)), (.int (4 : Int32)), (.int y4), (.ref b168)]))
  refine own_st (fun t_ => XS.iadd (own_here Y271) hx rfl (hb hby own_d2_80) rfl) ?_
  show own_Ends _ _ _ _ (T270.setTop (mkF m 81 #[.val (.ref r0), .val (.int (40 : Int32)), .val (.ref r2), .val (.ref r3), .val (.ref r4), .val (.ref r5), .val (.ref r6), .val (.ref r7), .val (.ref r8), .val (.ref r9), .val (.int (4 : Int32))] [(.int (5 : Int32)), (.int y4), (.ref b168)]))
  obtain ⟨q0, q1⟩ := own_nat (j := y4) (i := y4.toInt.toNat) (by omega)
  refine own_stI Y271 hx hZ A267 g199 (i := y4.toInt.toNat) q0 q1 (by first | (rw [hns]; omega) | (simp; omega)) rfl rfl (hb hby own_d2_81) (fun T272 h274 Y273 W275 A276 => ?_)
  show own_Ends _ _ _ _ (T272.setTop (mkF m 82 #[.val (.ref r0), .val (.int (40 : Int32)), .val (.ref r2), .val (.ref r3), .val (.ref r4), .val (.ref r5), .val (.ref r6), .val (.ref r7), .val (.ref r8), .val (.ref r9), .val (.int (4 : Int32))] []))
  obtain ⟨ns277, hns, A278⟩ : ∃ ns : List Value, ns.length = 41 ∧ own_A Z h274 b168 .int ns := ⟨_, by simp [hns], A276⟩
  refine own_st (fun t_ => XS.iinc (own_here Y273) hx rfl (hb hby own_d2_82) rfl (l' := #[.val (.ref r0), .val (.int (40 : Int32)), .val (.ref r2), .val (.ref r3), .val (.ref r4), .val (.ref r5), .val (.ref r6), .val (.ref r7), .val (.ref r8), .val (.ref r9), .val (.int (5 : Int32))]) rfl) ?_
  show own_Ends _ _ _ _ (T272.setTop (mkF m 85 #[.val (.ref r0), .val (.int (40 : Int32)), .val (.ref r2), .val (.ref r3), .val (.ref r4), .val (.ref r5), .val (.ref r6), .val (.ref r7), .val (.ref r8), .val (.ref r9), .val (.int (5 : Int32))] []))
  refine own_st (fun t_ => XS.goto (own_here Y273) hx rfl (pc0 := 85) (pc' := 62) rfl (hb hby own_d2_85) (by decide) (by decide)) ?_
  show own_Ends _ _ _ _ (T272.setTop (mkF m 62 #[.val (.ref r0), .val (.int (40 : Int32)), .val (.ref r2), .val (.ref r3), .val (.ref r4), .val (.ref r5), .val (.ref r6), .val (.ref r7), .val (.ref r8), .val (.ref r9), .val (.int (5 : Int32))] []))
  refine own_st (fun t_ => XS.iload (own_here Y273) hx rfl (hb hby own_d2_62) rfl) ?_
  show own_Ends _ _ _ _ (T272.setTop (mkF m 64 #[.val (.ref r0), .val (.int (40 : Int32)), .val (.ref r2), .val (.ref r3), .val (.ref r4), .val (.ref r5), .val (.ref r6), .val (.ref r7), .val (.ref r8), .val (.ref r9), .val (.int (5 : Int32))] [(.int (5 : Int32))]))
  refine own_st (fun t_ => XS.aloadN (own_here Y273) hx rfl (hb hby own_d2_64) rfl rfl) ?_
  show own_Ends _ _ _ _ (T272.setTop (mkF m 65 #[.val (.ref r0), .val (.int (40 : Int32)), .val (.ref r2), .val (.ref r3), .val (.ref r4), .val (.ref r5), .val (.ref r6), .val (.ref r7), .val (.ref r8), .val (.ref r9), .val (.int (5 : Int32))] [(.ref r3), (.int (5 : Int32))]))
  have f279 : own_A Z h274 r3 .int [(.int y0), (.int y1), (.int y2), (.int y3), (.int y4), (.int y5), (.int y6), (.int y7), (.int y8)] := f268.other W275 ne180
  refine own_len Y273 hx hZ f279 (z := (9 : Int32)) rfl rfl rfl (hb hby own_d2_65) ?_
  show own_Ends _ _ _ _ (T272.setTop (mkF m 66 #[.val (.ref r0), .val (.int (40 : Int32)), .val (.ref r2), .val (.ref r3), .val (.ref r4), .val (.ref r5), .val (.ref r6), .val (.ref r7), .val (.ref r8), .val (.ref r9), .val (.int (5 : Int32))] [(.int (9 : Int32)), (.int (5 : Int32))]))
  refine own_st (fun t_ => XS.icmpNo (own_here Y273) hx rfl (hb hby own_d2_66) rfl (XT.ii_ge_f (by decide))) ?_
  show own_Ends _ _ _ _ (T272.setTop (mkF m 69 #[.val (.ref r0), .val (.int (40 : Int32)), .val (.ref r2), .val (.ref r3), .val (.ref r4), .val (.ref r5), .val (.ref r6), .val (.ref r7), .val (.ref r8), .val (.ref r9), .val (.int (5 : Int32))] []))
  refine own_st (fun t_ => XS.aloadN (own_here Y273) hx rfl (hb hby own_d2_69) rfl rfl) ?_
  show own_Ends _ _ _ _ (T272.setTop (mkF m 70 #[.val (.ref r0), .val (.int (40 : Int32)), .val (.ref r2), .val (.ref r3), .val (.ref r4), .val (.ref r5), .val (.ref r6), .val (.ref r7), .val (.ref r8), .val (.ref r9), .val (.int (5 : Int32))] [(.ref r0)]))
  have f280 : Fld Z h274 r0 "com/example/tierpath/tierpath/Bounds" "number" "[I" (.ref b168) := f269.other W275 (Or.inl ne171)
  refine own_getF Y273 hx hZ hown (host := "") (Or.inl (hw _ (List.mem_of_getElem? (i := 31) rfl))) Via.refl f280 rfl rfl (hb hby own_d2_70) (fun T281 Y282 => ?_)
  show own_Ends _ _ _ _ (T281.setTop (mkF m 73 #[.val (.ref r0), .val (.int (40 : Int32)), .val (.ref r2), .val (.ref r3), .val (.ref r4), .val (.ref r5), .val (.ref r6), .val (.ref r7), .val (.ref r8), .val (.ref r9), .val (.int (5 : Int32))] [(.ref b168)]))
  refine own_st (fun t_ => XS.aloadN (own_here Y282) hx rfl (hb hby own_d2_73) rfl rfl) ?_
  show own_Ends _ _ _ _ (T281.setTop (mkF m 74 #[.val (.ref r0), .val (.int (40 : Int32)), .val (.ref r2), .val (.ref r3), .val (.ref r4), .val (.ref r5), .val (.ref r6), .val (.ref r7), .val (.ref r8), .val (.ref r9), .val (.int (5 : Int32))] [(.ref r3), (.ref b168)]))
  refine own_st (fun t_ => XS.iload (own_here Y282) hx rfl (hb hby own_d2_74) rfl) ?_
  show own_Ends _ _ _ _ (T281.setTop (mkF m 76 #[.val (.ref r0), .val (.int (40 : Int32)), .val (.ref r2), .val (.ref r3), .val (.ref r4), .val (.ref r5), .val (.ref r6), .val (.ref r7), .val (.ref r8), .val (.ref r9), .val (.int (5 : Int32))] [(.int (5 : Int32)), (.ref r3), (.ref b168)]))
  refine own_ldI Y282 hx hZ f279 (i := 5) (by decide) (by decide) (Nat.le_of_ble_eq_true rfl) (v := (.int y5)) rfl rfl rfl (hb hby own_d2_76) ?_
  show own_Ends _ _ _ _ (T281.setTop (mkF m 77 #[.val (.ref r0), .val (.int (40 : Int32)), .val (.ref r2), .val (.ref r3), .val (.ref r4), .val (.ref r5), .val (.ref r6), .val (.ref r7), .val (.ref r8), .val (.ref r9), .val (.int (5 : Int32))] [(.int y5), (.ref b168)]))
  refine own_st (fun t_ => XS.iload (own_here Y282) hx rfl (hb hby own_d2_77) rfl) ?_
  show own_Ends _ _ _ _ (T281.setTop (mkF m 79 #[.val (.ref r0), .val (.int (40 : Int32)), .val (.ref r2), .val (.ref r3), .val (.ref r4), .val (.ref r5), .val (.ref r6), .val (.ref r7), .val (.ref r8), .val (.ref r9), .val (.int (5 : Int32))] [(.int (5 : Int32)), (.int y5), (.ref b168)]))
  refine own_st (fun t_ => XS.iconst (own_here Y282) hx rfl (hb hby own_d2_79) ) ?_
  show own_Ends _ _ _ _ (T281.setTop (mkF m 80 #[.val (.ref r0), .val (.int (40 : Int32)), .val (.ref r2), .val (.ref r3), .val (.ref r4), .val (.ref r5), .val (.ref r6), .val (.ref r7), .val (.ref r8), .val (.ref r9), .val (.int (5 : Int32))] [(.int (1 : Int32)), (.int (5 : Int32)), (.int y5), (.ref b168)]))
  refine own_st (fun t_ => XS.iadd (own_here Y282) hx rfl (hb hby own_d2_80) rfl) ?_
  show own_Ends _ _ _ _ (T281.setTop (mkF m 81 #[.val (.ref r0), .val (.int (40 : Int32)), .val (.ref r2), .val (.ref r3), .val (.ref r4), .val (.ref r5), .val (.ref r6), .val (.ref r7), .val (.ref r8), .val (.ref r9), .val (.int (5 : Int32))] [(.int (6 : Int32)), (.int y5), (.ref b168)]))
  obtain ⟨q0, q1⟩ := own_nat (j := y5) (i := y5.toInt.toNat) (by omega)
  refine own_stI Y282 hx hZ A278 g199 (i := y5.toInt.toNat) q0 q1 (by first | (rw [hns]; omega) | (simp; omega)) rfl rfl (hb hby own_d2_81) (fun T283 h285 Y284 W286 A287 => ?_)
  show own_Ends _ _ _ _ (T283.setTop (mkF m 82 #[.val (.ref r0), .val (.int (40 : Int32)), .val (.ref r2), .val (.ref r3), .val (.ref r4), .val (.ref r5), .val (.ref r6), .val (.ref r7), .val (.ref r8), .val (.ref r9), .val (.int (5 : Int32))] []))
  obtain ⟨ns288, hns, A289⟩ : ∃ ns : List Value, ns.length = 41 ∧ own_A Z h285 b168 .int ns := ⟨_, by simp [hns], A287⟩
  refine own_st (fun t_ => XS.iinc (own_here Y284) hx rfl (hb hby own_d2_82) rfl (l' := #[.val (.ref r0), .val (.int (40 : Int32)), .val (.ref r2), .val (.ref r3), .val (.ref r4), .val (.ref r5), .val (.ref r6), .val (.ref r7), .val (.ref r8), .val (.ref r9), .val (.int (6 : Int32))]) rfl) ?_
  show own_Ends _ _ _ _ (T283.setTop (mkF m 85 #[.val (.ref r0), .val (.int (40 : Int32)), .val (.ref r2), .val (.ref r3), .val (.ref r4), .val (.ref r5), .val (.ref r6), .val (.ref r7), .val (.ref r8), .val (.ref r9), .val (.int (6 : Int32))] []))
  refine own_st (fun t_ => XS.goto (own_here Y284) hx rfl (pc0 := 85) (pc' := 62) rfl (hb hby own_d2_85) (by decide) (by decide)) ?_
  show own_Ends _ _ _ _ (T283.setTop (mkF m 62 #[.val (.ref r0), .val (.int (40 : Int32)), .val (.ref r2), .val (.ref r3), .val (.ref r4), .val (.ref r5), .val (.ref r6), .val (.ref r7), .val (.ref r8), .val (.ref r9), .val (.int (6 : Int32))] []))
  refine own_st (fun t_ => XS.iload (own_here Y284) hx rfl (hb hby own_d2_62) rfl) ?_
  show own_Ends _ _ _ _ (T283.setTop (mkF m 64 #[.val (.ref r0), .val (.int (40 : Int32)), .val (.ref r2), .val (.ref r3), .val (.ref r4), .val (.ref r5), .val (.ref r6), .val (.ref r7), .val (.ref r8), .val (.ref r9), .val (.int (6 : Int32))] [(.int (6 : Int32))]))
  refine own_st (fun t_ => XS.aloadN (own_here Y284) hx rfl (hb hby own_d2_64) rfl rfl) ?_
  show own_Ends _ _ _ _ (T283.setTop (mkF m 65 #[.val (.ref r0), .val (.int (40 : Int32)), .val (.ref r2), .val (.ref r3), .val (.ref r4), .val (.ref r5), .val (.ref r6), .val (.ref r7), .val (.ref r8), .val (.ref r9), .val (.int (6 : Int32))] [(.ref r3), (.int (6 : Int32))]))
  have f290 : own_A Z h285 r3 .int [(.int y0), (.int y1), (.int y2), (.int y3), (.int y4), (.int y5), (.int y6), (.int y7), (.int y8)] := f279.other W286 ne180
  refine own_len Y284 hx hZ f290 (z := (9 : Int32)) rfl rfl rfl (hb hby own_d2_65) ?_
  show own_Ends _ _ _ _ (T283.setTop (mkF m 66 #[.val (.ref r0), .val (.int (40 : Int32)), .val (.ref r2), .val (.ref r3), .val (.ref r4), .val (.ref r5), .val (.ref r6), .val (.ref r7), .val (.ref r8), .val (.ref r9), .val (.int (6 : Int32))] [(.int (9 : Int32)), (.int (6 : Int32))]))
  refine own_st (fun t_ => XS.icmpNo (own_here Y284) hx rfl (hb hby own_d2_66) rfl (XT.ii_ge_f (by decide))) ?_
  show own_Ends _ _ _ _ (T283.setTop (mkF m 69 #[.val (.ref r0), .val (.int (40 : Int32)), .val (.ref r2), .val (.ref r3), .val (.ref r4), .val (.ref r5), .val (.ref r6), .val (.ref r7), .val (.ref r8), .val (.ref r9), .val (.int (6 : Int32))] []))
  refine own_st (fun t_ => XS.aloadN (own_here Y284) hx rfl (hb hby own_d2_69) rfl rfl) ?_
  show own_Ends _ _ _ _ (T283.setTop (mkF m 70 #[.val (.ref r0), .val (.int (40 : Int32)), .val (.ref r2), .val (.ref r3), .val (.ref r4), .val (.ref r5), .val (.ref r6), .val (.ref r7), .val (.ref r8), .val (.ref r9), .val (.int (6 : Int32))] [(.ref r0)]))
  have f291 : Fld Z h285 r0 "com/example/tierpath/tierpath/Bounds" "number" "[I" (.ref b168) := f280.other W286 (Or.inl ne171)
  refine own_getF Y284 hx hZ hown (host := "") (Or.inl (hw _ (List.mem_of_getElem? (i := 31) rfl))) Via.refl f291 rfl rfl (hb hby own_d2_70) (fun T292 Y293 => ?_)
  show own_Ends _ _ _ _ (T292.setTop (mkF m 73 #[.val (.ref r0), .val (.int (40 : Int32)), .val (.ref r2), .val (.ref r3), .val (.ref r4), .val (.ref r5), .val (.ref r6), .val (.ref r7), .val (.ref r8), .val (.ref r9), .val (.int (6 : Int32))] [(.ref b168)]))
  refine own_st (fun t_ => XS.aloadN (own_here Y293) hx rfl (hb hby own_d2_73) rfl rfl) ?_
  show own_Ends _ _ _ _ (T292.setTop (mkF m 74 #[.val (.ref r0), .val (.int (40 : Int32)), .val (.ref r2), .val (.ref r3), .val (.ref r4), .val (.ref r5), .val (.ref r6), .val (.ref r7), .val (.ref r8), .val (.ref r9), .val (.int (6 : Int32))] [(.ref r3), (.ref b168)]))
  refine own_st (fun t_ => XS.iload (own_here Y293) hx rfl (hb hby own_d2_74) rfl) ?_
  show own_Ends _ _ _ _ (T292.setTop (mkF m 76 #[.val (.ref r0), .val (.int (40 : Int32)), .val (.ref r2), .val (.ref r3), .val (.ref r4), .val (.ref r5), .val (.ref r6), .val (.ref r7), .val (.ref r8), .val (.ref r9), .val (.int (6 : Int32))] [(.int (6 : Int32)), (.ref r3), (.ref b168)]))
  refine own_ldI Y293 hx hZ f290 (i := 6) (by decide) (by decide) (Nat.le_of_ble_eq_true rfl) (v := (.int y6)) rfl rfl rfl (hb hby own_d2_76) ?_
  show own_Ends _ _ _ _ (T292.setTop (mkF m 77 #[.val (.ref r0), .val (.int (40 : Int32)), .val (.ref r2), .val (.ref r3), .val (.ref r4), .val (.ref r5), .val (.ref r6), .val (.ref r7), .val (.ref r8), .val (.ref r9), .val (.int (6 : Int32))] [(.int y6), (.ref b168)]))
  refine own_st (fun t_ => XS.iload (own_here Y293) hx rfl (hb hby own_d2_77) rfl) ?_
  show own_Ends _ _ _ _ (T292.setTop (mkF m 79 #[.val (.ref r0), .val (.int (40 : Int32)), .val (.ref r2), .val (.ref r3), .val (.ref r4), .val (.ref r5), .val (.ref r6), .val (.ref r7), .val (.ref r8), .val (.ref r9), .val (.int (6 : Int32))] [(.int (6 : Int32)), (.int y6), (.ref b168)]))
  refine own_st (fun t_ => XS.iconst (own_here Y293) hx rfl (hb hby own_d2_79) ) ?_
  show own_Ends _ _ _ _ (T292.setTop (mkF m 80 #[.val (.ref r0), .val (.int (40 : Int32)), .val (.ref r2), .val (.ref r3), .val (.ref r4), .val (.ref r5), .val (.ref r6), .val (.ref r7), .val (.ref r8), .val (.ref r9), .val (.int (6 : Int32))] [(.int (1 : Int32)), (.int (6 : Int32)), (.int y6), (.ref b168)]))
  refine own_st (fun t_ => XS.iadd (own_here Y293) hx rfl (hb hby own_d2_80) rfl) ?_
  show own_Ends _ _ _ _ (T292.setTop (mkF m 81 #[.val (.ref r0), .val (.int (40 : Int32)), .val (.ref r2), .val (.ref r3), .val (.ref r4), .val (.ref r5), .val (.ref r6), .val (.ref r7), .val (.ref r8), .val (.ref r9), .val (.int (6 : Int32))] [(.int (7 : Int32)), (.int y6), (.ref b168)]))
  obtain ⟨q0, q1⟩ := own_nat (j := y6) (i := y6.toInt.toNat) (by omega)
  refine own_stI Y293 hx hZ A289 g199 (i := y6.toInt.toNat) q0 q1 (by first | (rw [hns]; omega) | (simp; omega)) rfl rfl (hb hby own_d2_81) (fun T294 h296 Y295 W297 A298 => ?_)
  show own_Ends _ _ _ _ (T294.setTop (mkF m 82 #[.val (.ref r0), .val (.int (40 : Int32)), .val (.ref r2), .val (.ref r3), .val (.ref r4), .val (.ref r5), .val (.ref r6), .val (.ref r7), .val (.ref r8), .val (.ref r9), .val (.int (6 : Int32))] []))
  obtain ⟨ns299, hns, A300⟩ : ∃ ns : List Value, ns.length = 41 ∧ own_A Z h296 b168 .int ns := ⟨_, by simp [hns], A298⟩
  refine own_st (fun t_ => XS.iinc (own_here Y295) hx rfl (hb hby own_d2_82) rfl (l' := #[.val (.ref r0), .val (.int (40 : Int32)), .val (.ref r2), .val (.ref r3), .val (.ref r4), .val (.ref r5), .val (.ref r6), .val (.ref r7), .val (.ref r8), .val (.ref r9), .val (.int (7 : Int32))]) rfl) ?_
  show own_Ends _ _ _ _ (T294.setTop (mkF m 85 #[.val (.ref r0), .val (.int (40 : Int32)), .val (.ref r2), .val (.ref r3), .val (.ref r4), .val (.ref r5), .val (.ref r6), .val (.ref r7), .val (.ref r8), .val (.ref r9), .val (.int (7 : Int32))] []))
  refine own_st (fun t_ => XS.goto (own_here Y295) hx rfl (pc0 := 85) (pc' := 62) rfl (hb hby own_d2_85) (by decide) (by decide)) ?_
  show own_Ends _ _ _ _ (T294.setTop (mkF m 62 #[.val (.ref r0), .val (.int (40 : Int32)), .val (.ref r2), .val (.ref r3), .val (.ref r4), .val (.ref r5), .val (.ref r6), .val (.ref r7), .val (.ref r8), .val (.ref r9), .val (.int (7 : Int32))] []))
  refine own_st (fun t_ => XS.iload (own_here Y295) hx rfl (hb hby own_d2_62) rfl) ?_
  show own_Ends _ _ _ _ (T294.setTop (mkF m 64 #[.val (.ref r0), .val (.int (40 : Int32)), .val (.ref r2), .val (.ref r3), .val (.ref r4), .val (.ref r5), .val (.ref r6), .val (.ref r7), .val (.ref r8), .val (.ref r9), .val (.int (7 : Int32))] [(.int (7 : Int32))]))
  refine own_st (fun t_ => XS.aloadN (own_here Y295) hx rfl (hb hby own_d2_64) rfl rfl) ?_
  show own_Ends _ _ _ _ (T294.setTop (mkF m 65 #[.val (.ref r0), .val (.int (40 : Int32)), .val (.ref r2), .val (.ref r3), .val (.ref r4), .val (.ref r5), .val (.ref r6), .val (.ref r7), .val (.ref r8), .val (.ref r9), .val (.int (7 : Int32))] [(.ref r3), (.int (7 : Int32))]))
  have f301 : own_A Z h296 r3 .int [(.int y0), (.int y1), (.int y2), (.int y3), (.int y4), (.int y5), (.int y6), (.int y7), (.int y8)] := f290.other W297 ne180
  refine own_len Y295 hx hZ f301 (z := (9 : Int32)) rfl rfl rfl (hb hby own_d2_65) ?_
  show own_Ends _ _ _ _ (T294.setTop (mkF m 66 #[.val (.ref r0), .val (.int (40 : Int32)), .val (.ref r2), .val (.ref r3), .val (.ref r4), .val (.ref r5), .val (.ref r6), .val (.ref r7), .val (.ref r8), .val (.ref r9), .val (.int (7 : Int32))] [(.int (9 : Int32)), (.int (7 : Int32))]))
  refine own_st (fun t_ => XS.icmpNo (own_here Y295) hx rfl (hb hby own_d2_66) rfl (XT.ii_ge_f (by decide))) ?_
  show own_Ends _ _ _ _ (T294.setTop (mkF m 69 #[.val (.ref r0), .val (.int (40 : Int32)), .val (.ref r2), .val (.ref r3), .val (.ref r4), .val (.ref r5), .val (.ref r6), .val (.ref r7), .val (.ref r8), .val (.ref r9), .val (.int (7 : Int32))] []))
  refine own_st (fun t_ => XS.aloadN (own_here Y295) hx rfl (hb hby own_d2_69) rfl rfl) ?_
  show own_Ends _ _ _ _ (T294.setTop (mkF m 70 #[.val (.ref r0), .val (.int (40 : Int32)), .val (.ref r2), .val (.ref r3), .val (.ref r4), .val (.ref r5), .val (.ref r6), .val (.ref r7), .val (.ref r8), .val (.ref r9), .val (.int (7 : Int32))] [(.ref r0)]))
  have f302 : Fld Z h296 r0 "com/example/tierpath/tierpath/Bounds" "number" "[I" (.ref b168) := f291.other W297 (Or.inl ne171)
  refine own_getF Y295 hx hZ hown (host := "") (Or.inl (hw _ (List.mem_of_getElem? (i := 31) rfl))) Via.refl f302 rfl rfl (hb hby own_d2_70) (fun T303 Y304 => ?_)
  show own_Ends _ _ _ _ (T303.setTop (mkF m 73 #[.val (.ref r0), .val (.int (40 : Int32)), .val (.ref r2), .val (.ref r3), .val (.ref r4), .val (.ref r5), .val (.ref r6), .val (.ref r7), .val (.ref r8), .val (.ref r9), .val (.int (7 : Int32))] [(.ref b168)]))
  refine own_st (fun t_ => XS.aloadN (own_here Y304) hx rfl (hb hby own_d2_73) rfl rfl) ?_
  show own_Ends _ _ _ _ (T303.setTop (mkF m 74 #[.val (.ref r0), .val (.int (40 : Int32)), .val (.ref r2), .val (.ref r3), .val (.ref r4), .val (.ref r5), .val (.ref r6), .val (.ref r7), .val (.ref r8), .val (.ref r9), .val (.int (7 : Int32))] [(.ref r3), (.ref b168)]))
  refine own_st (fun t_ => XS.iload (own_here Y304) hx rfl (hb hby own_d2_74) rfl) ?_
  show own_Ends _ _ _ _ (T303.setTop (mkF m 76 #[.val (.ref r0), .val (.int (40 : Int32)), .val (.ref r2), .val (.ref r3), .val (.ref r4), .val (.ref r5), .val (.ref r6), .val (.ref r7), .val (.ref r8), .val (.ref r9), .val (.int (7 : Int32))] [(.int (7 : Int32)), (.ref r3), (.ref b168)]))
  refine own_ldI Y304 hx hZ f301 (i := 7) (by decide) (by decide) (Nat.le_of_ble_eq_true rfl) (v := (.int y7)) rfl rfl rfl (hb hby own_d2_76) ?_
  show own_Ends _ _ _ _ (T303.setTop (mkF m 77 #[.val (.ref r0), .val (.int (40 : Int32)), .val (.ref r2), .val (.ref r3), .val (.ref r4), .val (.ref r5), .val (.ref r6), .val (.ref r7), .val (.ref r8), .val (.ref r9), .val (.int (7 : Int32))] [(.int y7), (.ref b168)]))
  refine own_st (fun t_ => XS.iload (own_here Y304) hx rfl (hb hby own_d2_77) rfl) ?_
  show own_Ends _ _ _ _ (T303.setTop (mkF m 79 #[.val (.ref r0), .val (.int (40 : Int32)), .val (.ref r2), .val (.ref r3), .val (.ref r4), .val (.ref r5), .val (.ref r6), .val (.ref r7), .val (.ref r8), .val (.ref r9), .val (.int (7 : Int32))] [(.int (7 : Int32)), (.int y7), (.ref b168)]))
  refine own_st (fun t_ => XS.iconst (own_here Y304) hx rfl (hb hby own_d2_79) ) ?_
  show own_Ends _ _ _ _ (T303.setTop (mkF m 80 #[.val (.ref r0), .val (.int (40 : Int32)), .val (.ref r2), .val (.ref r3), .val (.ref r4), .val (.ref r5), .val (.ref r6), .val (.ref r7), .val (.ref r8), .val (.ref r9), .val (.int (7 : Int32))] [(.int (1 : Int32)), (.int (7 : Int32)), (.int y7), (.ref b168)]))
  refine own_st (fun t_ => XS.iadd (own_here Y304) hx rfl (hb hby own_d2_80) rfl) ?_
  show own_Ends _ _ _ _ (T303.setTop (mkF m 81 #[.val (.ref r0), .val (.int (40 : Int32)), .val (.ref r2), .val (.ref r3), .val (.ref r4), .val (.ref r5), .val (.ref r6), .val (.ref r7), .val (.ref r8), .val (.ref r9), .val (.int (7 : Int32))] [(.int (8 : Int32)), (.int y7), (.ref b168)]))
  obtain ⟨q0, q1⟩ := own_nat (j := y7) (i := y7.toInt.toNat) (by omega)
  refine own_stI Y304 hx hZ A300 g199 (i := y7.toInt.toNat) q0 q1 (by first | (rw [hns]; omega) | (simp; omega)) rfl rfl (hb hby own_d2_81) (fun T305 h307 Y306 W308 A309 => ?_)
  show own_Ends _ _ _ _ (T305.setTop (mkF m 82 #[.val (.ref r0), .val (.int (40 : Int32)), .val (.ref r2), .val (.ref r3), .val (.ref r4), .val (.ref r5), .val (.ref r6), .val (.ref r7), .val (.ref r8), .val (.ref r9), .val (.int (7 : Int32))] []))
  obtain ⟨ns310, hns, A311⟩ : ∃ ns : List Value, ns.length = 41 ∧ own_A Z h307 b168 .int ns := ⟨_, by simp [hns], A309⟩
  refine own_st (fun t_ => XS.iinc (own_here Y306) hx rfl (hb hby own_d2_82) rfl (l' := #[.val (.ref r0), .val (.int (40 : Int32)), .val (.ref r2), .val (.ref r3), .val (.ref r4), .val (.ref r5), .val (.ref r6), .val (.ref r7), .val (.ref r8), .val (.ref r9), .val (.int (8 : Int32))]) rfl) ?_
  show own_Ends _ _ _ _ (T305.setTop (mkF m 85 #[.val (.ref r0), .val (.int (40 : Int32)), .val (.ref r2), .val (.ref r3), .val (.ref r4), .val (.ref r5), .val (.ref r6), .val (.ref r7), .val (.ref r8), .val (.ref r9), .val (.int (8 : Int32))] []))
  refine own_st (fun t_ => XS.goto (own_here Y306) hx rfl (pc0 := 85) (pc' := 62) rfl (hb hby own_d2_85) (by decide) (by decide)) ?_
  show own_Ends _ _ _ _ (T305.setTop (mkF m 62 #[.val (.ref r0), .val (.int (40 : Int32)), .val (.ref r2), .val (.ref r3), .val (.ref r4), .val (.ref r5), .val (.ref r6), .val (.ref r7), .val (.ref r8), .val (.ref r9), .val (.int (8 : Int32))] []))
  refine own_st (fun t_ => XS.iload (own_here Y306) hx rfl (hb hby own_d2_62) rfl) ?_
  show own_Ends _ _ _ _ (T305.setTop (mkF m 64 #[.val (.ref r0), .val (.int (40 : Int32)), .val (.ref r2), .val (.ref r3), .val (.ref r4), .val (.ref r5), .val (.ref r6), .val (.ref r7), .val (.ref r8), .val (.ref r9), .val (.int (8 : Int32))] [(.int (8 : Int32))]))
  refine own_st (fun t_ => XS.aloadN (own_here Y306) hx rfl (hb hby own_d2_64) rfl rfl) ?_
  show own_Ends _ _ _ _ (T305.setTop (mkF m 65 #[.val (.ref r0), .val (.int (40 : Int32)), .val (.ref r2), .val (.ref r3), .val (.ref r4), .val (.ref r5), .val (.ref r6), .val (.ref r7), .val (.ref r8), .val (.ref r9), .val (.int (8 : Int32))] [(.ref r3), (.int (8 : Int32))]))
  have f312 : own_A Z h307 r3 .int [(.int y0), (.int y1), (.int y2), (.int y3), (.int y4), (.int y5), (.int y6), (.int y7), (.int y8)] := f301.other W308 ne180
  refine own_len Y306 hx hZ f312 (z := (9 : Int32)) rfl rfl rfl (hb hby own_d2_65) ?_
  show own_Ends _ _ _ _ (T305.setTop (mkF m 66 #[.val (.ref r0), .val (.int (40 : Int32)), .val (.ref r2), .val (.ref r3), .val (.ref r4), .val (.ref r5), .val (.ref r6), .val (.ref r7), .val (.ref r8), .val (.ref r9), .val (.int (8 : Int32))] [(.int (9 : Int32)), (.int (8 : Int32))]))
  refine own_st (fun t_ => XS.icmpNo (own_here Y306) hx rfl (hb hby own_d2_66) rfl (XT.ii_ge_f (by decide))) ?_
  show own_Ends _ _ _ _ (T305.setTop (mkF m 69 #[.val (.ref r0), .val (.int (40 : Int32)), .val (.ref r2), .val (.ref r3), .val (.ref r4), .val (.ref r5), .val (.ref r6), .val (.ref r7), .val (.ref r8), .val (.ref r9), .val (.int (8 : Int32))] []))
  refine own_st (fun t_ => XS.aloadN (own_here Y306) hx rfl (hb hby own_d2_69) rfl rfl) ?_
  show own_Ends _ _ _ _ (T305.setTop (mkF m 70 #[.val (.ref r0), .val (.int (40 : Int32)), .val (.ref r2), .val (.ref r3), .val (.ref r4), .val (.ref r5), .val (.ref r6), .val (.ref r7), .val (.ref r8), .val (.ref r9), .val (.int (8 : Int32))] [(.ref r0)]))
  have f313 : Fld Z h307 r0 "com/example/tierpath/tierpath/Bounds" "number" "[I" (.ref b168) := f302.other W308 (Or.inl ne171)
  refine own_getF Y306 hx hZ hown (host := "") (Or.inl (hw _ (List.mem_of_getElem? (i := 31) rfl))) Via.refl f313 rfl rfl (hb hby own_d2_70) (fun T314 Y315 => ?_)
  show own_Ends _ _ _ _ (T314.setTop (mkF m 73 #[.val (.ref r0), .val (.int (40 : Int32)), .val (.ref r2), .val (.ref r3), .val (.ref r4), .val (.ref r5), .val (.ref r6), .val (.ref r7), .val (.ref r8), .val (.ref r9), .val (.int (8 : Int32))] [(.ref b168)]))
  refine own_st (fun t_ => XS.aloadN (own_here Y315) hx rfl (hb hby own_d2_73) rfl rfl) ?_
  show own_Ends _ _ _ _ (T314.setTop (mkF m 74 #[.val (.ref r0), .val (.int (40 : Int32)), .val (.ref r2), .val (.ref r3), .val (.ref r4), .val (.ref r5), .val (.ref r6), .val (.ref r7), .val (.ref r8), .val (.ref r9), .val (.int (8 : Int32))] [(.ref r3), (.ref b168)]))
  refine own_st (fun t_ => XS.iload (own_here Y315) hx rfl (hb hby own_d2_74) rfl) ?_
  show own_Ends _ _ _ _ (T314.setTop (mkF m 76 #[.val (.ref r0), .val (.int (40 : Int32)), .val (.ref r2), .val (.ref r3), .val (.ref r4), .val (.ref r5), .val (.ref r6), .val (.ref r7), .val (.ref r8), .val (.ref r9), .val (.int (8 : Int32))] [(.int (8 : Int32)), (.ref r3), (.ref b168)]))
  refine own_ldI Y315 hx hZ f312 (i := 8) (by decide) (by decide) (Nat.le_of_ble_eq_true rfl) (v := (.int y8)) rfl rfl rfl (hb hby own_d2_76) ?_
  show own_Ends _ _ _ _ (T314.setTop (mkF m 77 #[.val (.ref r0), .val (.int (40 : Int32)), .val (.ref r2), .val (.ref r3), .val (.ref r4), .val (.ref r5), .val (.ref r6), .val (.ref r7), .val (.ref r8), .val (.ref r9), .val (.int (8 : Int32))] [(.int y8), (.ref b168)]))
  refine own_st (fun t_ => XS.iload (own_here Y315) hx rfl (hb hby own_d2_77) rfl) ?_
  show own_Ends _ _ _ _ (T314.setTop (mkF m 79 #[.val (.ref r0), .val (.int (40 : Int32)), .val (.ref r2), .val (.ref r3), .val (.ref r4), .val (.ref r5), .val (.ref r6), .val (.ref r7), .val (.ref r8), .val (.ref r9), .val (.int (8 : Int32))] [(.int (8 : Int32)), (.int y8), (.ref b168)]))
  refine own_st (fun t_ => XS.iconst (own_here Y315) hx rfl (hb hby own_d2_79) ) ?_
  show own_Ends _ _ _ _ (T314.setTop (mkF m 80 #[.val (.ref r0), .val (.int (40 : Int32)), .val (.ref r2), .val (.ref r3), .val (.ref r4), .val (.ref r5), .val (.ref r6), .val (.ref r7), .val (.ref r8), .val (.ref r9), .val (.int (8 : Int32))] [(.int (1 : Int32)), (.int (8 : Int32)), (.int y8), (.ref b168)]))
  refine own_st (fun t_ => XS.iadd (own_here Y315) hx rfl (hb hby own_d2_80) rfl) ?_
  show own_Ends _ _ _ _ (T314.setTop (mkF m 81 #[.val (.ref r0), .val (.int (40 : Int32)), .val (.ref r2), .val (.ref r3), .val (.ref r4), .val (.ref r5), .val (.ref r6), .val (.ref r7), .val (.ref r8), .val (.ref r9), .val (.int (8 : Int32))] [(.int (9 : Int32)), (.int y8), (.ref b168)]))
  obtain ⟨q0, q1⟩ := own_nat (j := y8) (i := y8.toInt.toNat) (by omega)
  refine own_stI Y315 hx hZ A311 g199 (i := y8.toInt.toNat) q0 q1 (by first | (rw [hns]; omega) | (simp; omega)) rfl rfl (hb hby own_d2_81) (fun T316 h318 Y317 W319 A320 => ?_)
  show own_Ends _ _ _ _ (T316.setTop (mkF m 82 #[.val (.ref r0), .val (.int (40 : Int32)), .val (.ref r2), .val (.ref r3), .val (.ref r4), .val (.ref r5), .val (.ref r6), .val (.ref r7), .val (.ref r8), .val (.ref r9), .val (.int (8 : Int32))] []))
  obtain ⟨ns321, hns, A322⟩ : ∃ ns : List Value, ns.length = 41 ∧ own_A Z h318 b168 .int ns := ⟨_, by simp [hns], A320⟩
  refine own_st (fun t_ => XS.iinc (own_here Y317) hx rfl (hb hby own_d2_82) rfl (l' := #[.val (.ref r0), .val (.int (40 : Int32)), .val (.ref r2), .val (.ref r3), .val (.ref r4), .val (.ref r5), .val (.ref r6), .val (.ref r7), .val (.ref r8), .val (.ref r9), .val (.int (9 : Int32))]) rfl) ?_
  show own_Ends _ _ _ _ (T316.setTop (mkF m 85 #[.val (.ref r0), .val (.int (40 : Int32)), .val (.ref r2), .val (.ref r3), .val (.ref r4), .val (.ref r5), .val (.ref r6), .val (.ref r7), .val (.ref r8), .val (.ref r9), .val (.int (9 : Int32))] []))
  refine own_st (fun t_ => XS.goto (own_here Y317) hx rfl (pc0 := 85) (pc' := 62) rfl (hb hby own_d2_85) (by decide) (by decide)) ?_
  show own_Ends _ _ _ _ (T316.setTop (mkF m 62 #[.val (.ref r0), .val (.int (40 : Int32)), .val (.ref r2), .val (.ref r3), .val (.ref r4), .val (.ref r5), .val (.ref r6), .val (.ref r7), .val (.ref r8), .val (.ref r9), .val (.int (9 : Int32))] []))
  refine own_st (fun t_ => XS.iload (own_here Y317) hx rfl (hb hby own_d2_62) rfl) ?_
  show own_Ends _ _ _ _ (T316.setTop (mkF m 64 #[.val (.ref r0), .val (.int (40 : Int32)), .val (.ref r2), .val (.ref r3), .val (.ref r4), .val (.ref r5), .val (.ref r6), .val (.ref r7), .val (.ref r8), .val (.ref r9), .val (.int (9 : Int32))] [(.int (9 : Int32))]))
  refine own_st (fun t_ => XS.aloadN (own_here Y317) hx rfl (hb hby own_d2_64) rfl rfl) ?_
  show own_Ends _ _ _ _ (T316.setTop (mkF m 65 #[.val (.ref r0), .val (.int (40 : Int32)), .val (.ref r2), .val (.ref r3), .val (.ref r4), .val (.ref r5), .val (.ref r6), .val (.ref r7), .val (.ref r8), .val (.ref r9), .val (.int (9 : Int32))] [(.ref r3), (.int (9 : Int32))]))
  have f323 : own_A Z h318 r3 .int [(.int y0), (.int y1), (.int y2), (.int y3), (.int y4), (.int y5), (.int y6), (.int y7), (.int y8)] := f312.other W319 ne180
  refine own_len Y317 hx hZ f323 (z := (9 : Int32)) rfl rfl rfl (hb hby own_d2_65) ?_
  show own_Ends _ _ _ _ (T316.setTop (mkF m 66 #[.val (.ref r0), .val (.int (40 : Int32)), .val (.ref r2), .val (.ref r3), .val (.ref r4), .val (.ref r5), .val (.ref r6), .val (.ref r7), .val (.ref r8), .val (.ref r9), .val (.int (9 : Int32))] [(.int (9 : Int32)), (.int (9 : Int32))]))
  refine own_st (fun t_ => XS.icmpYes (own_here Y317) hx rfl (pc0 := 66) (pc' := 88) rfl (hb hby own_d2_66) rfl (XT.ii_ge_t (by decide)) (by decide) (by decide)) ?_
  show own_Ends _ _ _ _ (T316.setTop (mkF m 88 #[.val (.ref r0), .val (.int (40 : Int32)), .val (.ref r2), .val (.ref r3), .val (.ref r4), .val (.ref r5), .val (.ref r6), .val (.ref r7), .val (.ref r8), .val (.ref r9), .val (.int (9 : Int32))] []))
  refine own_st (fun t_ => XS.aloadN (own_here Y317) hx rfl (hb hby own_d2_88) rfl rfl) ?_
  show own_Ends _ _ _ _ (T316.setTop (mkF m 89 #[.val (.ref r0), .val (.int (40 : Int32)), .val (.ref r2), .val (.ref r3), .val (.ref r4), .val (.ref r5), .val (.ref r6), .val (.ref r7), .val (.ref r8), .val (.ref r9), .val (.int (9 : Int32))] [(.ref r0)]))
  refine own_st (fun t_ => XS.aload (own_here Y317) hx rfl (hb hby own_d2_89) rfl rfl) ?_
  show own_Ends _ _ _ _ (T316.setTop (mkF m 91 #[.val (.ref r0), .val (.int (40 : Int32)), .val (.ref r2), .val (.ref r3), .val (.ref r4), .val (.ref r5), .val (.ref r6), .val (.ref r7), .val (.ref r8), .val (.ref r9), .val (.int (9 : Int32))] [(.ref r5), (.ref r0)]))
  have f324 : own_A Z h165 r5 .int [(.int (1 : Int32)), (.int (0 : Int32)), (.int (2 : Int32)), (.int (1 : Int32))] := f197.ext E166
  have f325 : own_A Z h220 r5 .int [(.int (1 : Int32)), (.int (0 : Int32)), (.int (2 : Int32)), (.int (1 : Int32))] := f324.other W221 n5
  have f326 : own_A Z h230 r5 .int [(.int (1 : Int32)), (.int (0 : Int32)), (.int (2 : Int32)), (.int (1 : Int32))] := f325.other W231 ne198
  have f327 : own_A Z h241 r5 .int [(.int (1 : Int32)), (.int (0 : Int32)), (.int (2 : Int32)), (.int (1 : Int32))] := f326.other W242 ne198
  have f328 : own_A Z h252 r5 .int [(.int (1 : Int32)), (.int (0 : Int32)), (.int (2 : Int32)), (.int (1 : Int32))] := f327.other W253 ne198
  have f329 : own_A Z h263 r5 .int [(.int (1 : Int32)), (.int (0 : Int32)), (.int (2 : Int32)), (.int (1 : Int32))] := f328.other W264 ne198
  have f330 : own_A Z h274 r5 .int [(.int (1 : Int32)), (.int (0 : Int32)), (.int (2 : Int32)), (.int (1 : Int32))] := f329.other W275 ne198
  have f331 : own_A Z h285 r5 .int [(.int (1 : Int32)), (.int (0 : Int32)), (.int (2 : Int32)), (.int (1 : Int32))] := f330.other W286 ne198
  have f332 : own_A Z h296 r5 .int [(.int (1 : Int32)), (.int (0 : Int32)), (.int (2 : Int32)), (.int (1 : Int32))] := f331.other W297 ne198
  have f333 : own_A Z h307 r5 .int [(.int (1 : Int32)), (.int (0 : Int32)), (.int (2 : Int32)), (.int (1 : Int32))] := f332.other W308 ne198
  have f334 : own_A Z h318 r5 .int [(.int (1 : Int32)), (.int (0 : Int32)), (.int (2 : Int32)), (.int (1 : Int32))] := f333.other W319 ne198
  refine own_len Y317 hx hZ f334 (z := (4 : Int32)) rfl rfl rfl (hb hby own_d2_91) ?_
  show own_Ends _ _ _ _ (T316.setTop (mkF m 92 #[.val (.ref r0), .val (.int (40 : Int32)), .val (.ref r2), .val (.ref r3), .val (.ref r4), .val (.ref r5), .val (.ref r6), .val (.ref r7), .val (.ref r8), .val (.ref r9), .val (.int (9 : Int32))] [(.int (4 : Int32)), (.ref r0)]))
  refine own_newP Y317 hx hZ (hw _ (List.mem_of_getElem? (i := 0) rfl)) rfl (hb hby own_d2_92) rfl (by decide) (nz := 4) (cap := 4) (by decide) (by decide) (by decide) (by decide) (by decide) (ty := .int) rfl (fun T335 h337 b340 eb341 Y336 E338 A339 => ?_)
  have f342 : Exa Z h220 r0 "com/example/tierpath/tierpath/Bounds" := f208.wr W221
  have f343 : Exa Z h230 r0 "com/example/tierpath/tierpath/Bounds" := f342.wr W231
  have f344 : Exa Z h241 r0 "com/example/tierpath/tierpath/Bounds" := f343.wr W242
  have f345 : Exa Z h252 r0 "com/example/tierpath/tierpath/Bounds" := f344.wr W253
  have f346 : Exa Z h263 r0 "com/example/tierpath/tierpath/Bounds" := f345.wr W264
  have f347 : Exa Z h274 r0 "com/example/tierpath/tierpath/Bounds" := f346.wr W275
  have f348 : Exa Z h285 r0 "com/example/tierpath/tierpath/Bounds" := f347.wr W286
  have f349 : Exa Z h296 r0 "com/example/tierpath/tierpath/Bounds" := f348.wr W297
  have f350 : Exa Z h307 r0 "com/example/tierpath/tierpath/Bounds" := f349.wr W308
  have f351 : Exa Z h318 r0 "com/example/tierpath/tierpath/Bounds" := f350.wr W319
  have ne352 : r0 ≠ b340 := Nat.ne_of_lt (by rw [eb341]; exact f351.lt)
  have ne353 : r3 ≠ b340 := Nat.ne_of_lt (by rw [eb341]; exact f323.lt)
  have f354 : own_A Z h165 r4 .int [(.int (0 : Int32)), (.int (1 : Int32)), (.int (3 : Int32)), (.int (4 : Int32))] := f188.ext E166
  have f355 : own_A Z h220 r4 .int [(.int (0 : Int32)), (.int (1 : Int32)), (.int (3 : Int32)), (.int (4 : Int32))] := f354.other W221 n4
  have f356 : own_A Z h230 r4 .int [(.int (0 : Int32)), (.int (1 : Int32)), (.int (3 : Int32)), (.int (4 : Int32))] := f355.other W231 ne189
  have f357 : own_A Z h241 r4 .int [(.int (0 : Int32)), (.int (1 : Int32)), (.int (3 : Int32)), (.int (4 : Int32))] := f356.other W242 ne189
  have f358 : own_A Z h252 r4 .int [(.int (0 : Int32)), (.int (1 : Int32)), (.int (3 : Int32)), (.int (4 : Int32))] := f357.other W253 ne189
  have f359 : own_A Z h263 r4 .int [(.int (0 : Int32)), (.int (1 : Int32)), (.int (3 : Int32)), (.int (4 : Int32))] := f358.other W264 ne189
  have f360 : own_A Z h274 r4 .int [(.int (0 : Int32)), (.int (1 : Int32)), (.int (3 : Int32)), (.int (4 : Int32))] := f359.other W275 ne189
  have f361 : own_A Z h285 r4 .int [(.int (0 : Int32)), (.int (1 : Int32)), (.int (3 : Int32)), (.int (4 : Int32))] := f360.other W286 ne189
  have f362 : own_A Z h296 r4 .int [(.int (0 : Int32)), (.int (1 : Int32)), (.int (3 : Int32)), (.int (4 : Int32))] := f361.other W297 ne189
  have f363 : own_A Z h307 r4 .int [(.int (0 : Int32)), (.int (1 : Int32)), (.int (3 : Int32)), (.int (4 : Int32))] := f362.other W308 ne189
  have f364 : own_A Z h318 r4 .int [(.int (0 : Int32)), (.int (1 : Int32)), (.int (3 : Int32)), (.int (4 : Int32))] := f363.other W319 ne189
  have ne365 : r4 ≠ b340 := Nat.ne_of_lt (by rw [eb341]; exact f364.lt)
  have ne366 : r5 ≠ b340 := Nat.ne_of_lt (by rw [eb341]; exact f334.lt)
  have ne367 : b168 ≠ b340 := Nat.ne_of_lt (by rw [eb341]; exact A322.lt)
  have z369 : n0 ≤ h165.size := Nat.le_trans z207 E166.1
  have z370 : n0 ≤ h220.size := Nat.le_trans z369 (Nat.le_of_eq W221.size.symm)
  have z371 : n0 ≤ h230.size := Nat.le_trans z370 (Nat.le_of_eq W231.size.symm)
  have z372 : n0 ≤ h241.size := Nat.le_trans z371 (Nat.le_of_eq W242.size.symm)
  have z373 : n0 ≤ h252.size := Nat.le_trans z372 (Nat.le_of_eq W253.size.symm)
  have z374 : n0 ≤ h263.size := Nat.le_trans z373 (Nat.le_of_eq W264.size.symm)
  have z375 : n0 ≤ h274.size := Nat.le_trans z374 (Nat.le_of_eq W275.size.symm)
  have z376 : n0 ≤ h285.size := Nat.le_trans z375 (Nat.le_of_eq W286.size.symm)
  have z377 : n0 ≤ h296.size := Nat.le_trans z376 (Nat.le_of_eq W297.size.symm)
  have z378 : n0 ≤ h307.size := Nat.le_trans z377 (Nat.le_of_eq W308.size.symm)
  have z379 : n0 ≤ h318.size := Nat.le_trans z378 (Nat.le_of_eq W319.size.symm)
  have g368 : n0 ≤ b340 := by rw [eb341]; exact z379
  replace A339 : own_A Z h337 b340 .int [(.int (0 : Int32)), (.int (0 : Int32)), (.int (0 : Int32)), (.int (0 : Int32))] := A339
  show own_Ends _ _ _ _ (T335.setTop (mkF m 94 #[.val (.ref r0), .val (.int (40 : Int32)), .val (.ref r2), .val (.ref r3), .val (.ref r4), .val (.ref r5), .val (.ref r6), .val (.ref r7), .val (.ref r8), .val (.ref r9), .val (.int (9 : Int32))] [(.ref b340), (.ref r0)]))
  have f380 : Exa Z h337 r0 "com/example/tierpath/tierpath/Bounds" := f351.ext E338
  have f381 : Fld Z h90 r0 "com/example/tierpath/tierpath/Bounds" "setLeaf" "[I" .null := FsetLeaf.other W91 (Or.inr (slot_ne (Or.inr (hw _ (List.mem_of_getElem? (i := 34) rfl))) (Or.inr (hw _ (List.mem_of_getElem? (i := 16) rfl))) (by decide) (t := (.array .int)) (t' := (.array .int)) (by decide) (by decide)))
  have f382 : Fld Z h97 r0 "com/example/tierpath/tierpath/Bounds" "setLeaf" "[I" .null := f381.other W98 (Or.inr (slot_ne (Or.inr (hw _ (List.mem_of_getElem? (i := 34) rfl))) (Or.inr (hw _ (List.mem_of_getElem? (i := 18) rfl))) (by decide) (t := (.array .int)) (t' := (.array .int)) (by decide) (by decide)))
  have f383 : Fld Z h105 r0 "com/example/tierpath/tierpath/Bounds" "setLeaf" "[I" .null := f382.other W106 (Or.inr (slot_ne (Or.inr (hw _ (List.mem_of_getElem? (i := 34) rfl))) (Or.inr (hw _ (List.mem_of_getElem? (i := 20) rfl))) (by decide) (t := (.array .int)) (t' := (.array .int)) (by decide) (by decide)))
  have f384 : Fld Z h114 r0 "com/example/tierpath/tierpath/Bounds" "setLeaf" "[I" .null := f383.other W115 (Or.inr (slot_ne (Or.inr (hw _ (List.mem_of_getElem? (i := 34) rfl))) (Or.inr (hw _ (List.mem_of_getElem? (i := 22) rfl))) (by decide) (t := (.array .int)) (t' := (.array .int)) (by decide) (by decide)))
  have f385 : Fld Z h124 r0 "com/example/tierpath/tierpath/Bounds" "setLeaf" "[I" .null := f384.other W125 (Or.inr (slot_ne (Or.inr (hw _ (List.mem_of_getElem? (i := 34) rfl))) (Or.inr (hw _ (List.mem_of_getElem? (i := 24) rfl))) (by decide) (t := (.array .int)) (t' := (.array .int)) (by decide) (by decide)))
  have f386 : Fld Z h135 r0 "com/example/tierpath/tierpath/Bounds" "setLeaf" "[I" .null := f385.other W136 (Or.inr (slot_ne (Or.inr (hw _ (List.mem_of_getElem? (i := 34) rfl))) (Or.inr (hw _ (List.mem_of_getElem? (i := 26) rfl))) (by decide) (t := (.array .int)) (t' := (.array .int)) (by decide) (by decide)))
  have f387 : Fld Z h147 r0 "com/example/tierpath/tierpath/Bounds" "setLeaf" "[I" .null := f386.other W148 (Or.inr (slot_ne (Or.inr (hw _ (List.mem_of_getElem? (i := 34) rfl))) (Or.inr (hw _ (List.mem_of_getElem? (i := 28) rfl))) (by decide) (t := (.array .int)) (t' := (.array .long)) (by decide) (by decide)))
  have f388 : Fld Z h160 r0 "com/example/tierpath/tierpath/Bounds" "setLeaf" "[I" .null := f387.other W161 (Or.inr (slot_ne (Or.inr (hw _ (List.mem_of_getElem? (i := 34) rfl))) (Or.inr (hw _ (List.mem_of_getElem? (i := 30) rfl))) (by decide) (t := (.array .int)) (t' := (.array .long)) (by decide) (by decide)))
  have f389 : Fld Z h165 r0 "com/example/tierpath/tierpath/Bounds" "setLeaf" "[I" .null := f388.ext E166
  have f390 : Fld Z h220 r0 "com/example/tierpath/tierpath/Bounds" "setLeaf" "[I" .null := f389.other W221 (Or.inr (slot_ne (Or.inr (hw _ (List.mem_of_getElem? (i := 34) rfl))) (Or.inr (hw _ (List.mem_of_getElem? (i := 32) rfl))) (by decide) (t := (.array .int)) (t' := (.array .int)) (by decide) (by decide)))
  have f391 : Fld Z h230 r0 "com/example/tierpath/tierpath/Bounds" "setLeaf" "[I" .null := f390.other W231 (Or.inl ne171)
  have f392 : Fld Z h241 r0 "com/example/tierpath/tierpath/Bounds" "setLeaf" "[I" .null := f391.other W242 (Or.inl ne171)
  have f393 : Fld Z h252 r0 "com/example/tierpath/tierpath/Bounds" "setLeaf" "[I" .null := f392.other W253 (Or.inl ne171)
  have f394 : Fld Z h263 r0 "com/example/tierpath/tierpath/Bounds" "setLeaf" "[I" .null := f393.other W264 (Or.inl ne171)
  have f395 : Fld Z h274 r0 "com/example/tierpath/tierpath/Bounds" "setLeaf" "[I" .null := f394.other W275 (Or.inl ne171)
  have f396 : Fld Z h285 r0 "com/example/tierpath/tierpath/Bounds" "setLeaf" "[I" .null := f395.other W286 (Or.inl ne171)
  have f397 : Fld Z h296 r0 "com/example/tierpath/tierpath/Bounds" "setLeaf" "[I" .null := f396.other W297 (Or.inl ne171)
  have f398 : Fld Z h307 r0 "com/example/tierpath/tierpath/Bounds" "setLeaf" "[I" .null := f397.other W308 (Or.inl ne171)
  have f399 : Fld Z h318 r0 "com/example/tierpath/tierpath/Bounds" "setLeaf" "[I" .null := f398.other W319 (Or.inl ne171)
  have f400 : Fld Z h337 r0 "com/example/tierpath/tierpath/Bounds" "setLeaf" "[I" .null := f399.ext E338
  refine own_putF Y336 hx hZ hown (host := "") (Or.inl (hw _ (List.mem_of_getElem? (i := 33) rfl))) Via.refl f400 f380 (Or.inr ⟨(hw _ (List.mem_of_getElem? (i := 34) rfl)), rfl, hnm⟩) (hw _ (List.mem_of_getElem? (i := 6) rfl)) g (ty := (.array .int)) (by decide) rfl rfl rfl rfl (hb hby own_d2_94) (fun T401 h403 Y402 W404 F405 => ?_)
  show own_Ends _ _ _ _ (T401.setTop (mkF m 97 #[.val (.ref r0), .val (.int (40 : Int32)), .val (.ref r2), .val (.ref r3), .val (.ref r4), .val (.ref r5), .val (.ref r6), .val (.ref r7), .val (.ref r8), .val (.ref r9), .val (.int (9 : Int32))] []))
  refine own_st (fun t_ => XS.iconst (own_here Y402) hx rfl (hb hby own_d2_97) ) ?_
  show own_Ends _ _ _ _ (T401.setTop (mkF m 98 #[.val (.ref r0), .val (.int (40 : Int32)), .val (.ref r2), .val (.ref r3), .val (.ref r4), .val (.ref r5), .val (.ref r6), .val (.ref r7), .val (.ref r8), .val (.ref r9), .val (.int (9 : Int32))] [(.int (0 : Int32))]))
  refine own_st (fun t_ => XS.istore (own_here Y402) hx rfl (hb hby own_d2_98) rfl (l' := #[.val (.ref r0), .val (.int (40 : Int32)), .val (.ref r2), .val (.ref r3), .val (.ref r4), .val (.ref r5), .val (.ref r6), .val (.ref r7), .val (.ref r8), .val (.ref r9), .val (.int (0 : Int32))]) rfl) ?_
  show own_Ends _ _ _ _ (T401.setTop (mkF m 100 #[.val (.ref r0), .val (.int (40 : Int32)), .val (.ref r2), .val (.ref r3), .val (.ref r4), .val (.ref r5), .val (.ref r6), .val (.ref r7), .val (.ref r8), .val (.ref r9), .val (.int (0 : Int32))] []))
  refine own_st (fun t_ => XS.iload (own_here Y402) hx rfl (hb hby own_d2_100) rfl) ?_
  show own_Ends _ _ _ _ (T401.setTop (mkF m 102 #[.val (.ref r0), .val (.int (40 : Int32)), .val (.ref r2), .val (.ref r3), .val (.ref r4), .val (.ref r5), .val (.ref r6), .val (.ref r7), .val (.ref r8), .val (.ref r9), .val (.int (0 : Int32))] [(.int (0 : Int32))]))
  refine own_st (fun t_ => XS.iconst (own_here Y402) hx rfl (hb hby own_d2_102) ) ?_
  show own_Ends _ _ _ _ (T401.setTop (mkF m 103 #[.val (.ref r0), .val (.int (40 : Int32)), .val (.ref r2), .val (.ref r3), .val (.ref r4), .val (.ref r5), .val (.ref r6), .val (.ref r7), .val (.ref r8), .val (.ref r9), .val (.int (0 : Int32))] [(.int (1 : Int32)), (.int (0 : Int32))]))
  refine own_st (fun t_ => XS.iadd (own_here Y402) hx rfl (hb hby own_d2_103) rfl) ?_
  show own_Ends _ _ _ _ (T401.setTop (mkF m 104 #[.val (.ref r0), .val (.int (40 : Int32)), .val (.ref r2), .val (.ref r3), .val (.ref r4), .val (.ref r5), .val (.ref r6), .val (.ref r7), .val (.ref r8), .val (.ref r9), .val (.int (0 : Int32))] [(.int (1 : Int32))]))
  refine own_st (fun t_ => XS.aload (own_here Y402) hx rfl (hb hby own_d2_104) rfl rfl) ?_
  show own_Ends _ _ _ _ (T401.setTop (mkF m 106 #[.val (.ref r0), .val (.int (40 : Int32)), .val (.ref r2), .val (.ref r3), .val (.ref r4), .val (.ref r5), .val (.ref r6), .val (.ref r7), .val (.ref r8), .val (.ref r9), .val (.int (0 : Int32))] [(.ref r4), (.int (1 : Int32))]))
  have f406 : own_A Z h337 r4 .int [(.int (0 : Int32)), (.int (1 : Int32)), (.int (3 : Int32)), (.int (4 : Int32))] := f364.ext E338
  have f407 : own_A Z h403 r4 .int [(.int (0 : Int32)), (.int (1 : Int32)), (.int (3 : Int32)), (.int (4 : Int32))] := f406.other W404 n4
  refine own_len Y402 hx hZ f407 (z := (4 : Int32)) rfl rfl rfl (hb hby own_d2_106) ?_
  show own_Ends _ _ _ _ (T401.setTop (mkF m 107 #[.val (.ref r0), .val (.int (40 : Int32)), .val (.ref r2), .val (.ref r3), .val (.ref r4), .val (.ref r5), .val (.ref r6), .val (.ref r7), .val (.ref r8), .val (.ref r9), .val (.int (0 : Int32))] [(.int (4 : Int32)), (.int (1 : Int32))]))
  refine own_st (fun t_ => XS.icmpNo (own_here Y402) hx rfl (hb hby own_d2_107) rfl (XT.ii_ge_f (by decide))) ?_
  show own_Ends _ _ _ _ (T401.setTop (mkF m 110 #[.val (.ref r0), .val (.int (40 : Int32)), .val (.ref r2), .val (.ref r3), .val (.ref r4), .val (.ref r5), .val (.ref r6), .val (.ref r7), .val (.ref r8), .val (.ref r9), .val (.int (0 : Int32))] []))
  refine own_st (fun t_ => XS.aloadN (own_here Y402) hx rfl (hb hby own_d2_110) rfl rfl) ?_
  show own_Ends _ _ _ _ (T401.setTop (mkF m 111 #[.val (.ref r0), .val (.int (40 : Int32)), .val (.ref r2), .val (.ref r3), .val (.ref r4), .val (.ref r5), .val (.ref r6), .val (.ref r7), .val (.ref r8), .val (.ref r9), .val (.int (0 : Int32))] [(.ref r0)]))
  refine own_getF Y402 hx hZ hown (host := "") (Or.inl (hw _ (List.mem_of_getElem? (i := 33) rfl))) Via.refl F405 rfl rfl (hb hby own_d2_111) (fun T408 Y409 => ?_)
  show own_Ends _ _ _ _ (T408.setTop (mkF m 114 #[.val (.ref r0), .val (.int (40 : Int32)), .val (.ref r2), .val (.ref r3), .val (.ref r4), .val (.ref r5), .val (.ref r6), .val (.ref r7), .val (.ref r8), .val (.ref r9), .val (.int (0 : Int32))] [(.ref b340)]))
  refine own_st (fun t_ => XS.aload (own_here Y409) hx rfl (hb hby own_d2_114) rfl rfl) ?_
  show own_Ends _ _ _ _ (T408.setTop (mkF m 116 #[.val (.ref r0), .val (.int (40 : Int32)), .val (.ref r2), .val (.ref r3), .val (.ref r4), .val (.ref r5), .val (.ref r6), .val (.ref r7), .val (.ref r8), .val (.ref r9), .val (.int (0 : Int32))] [(.ref r4), (.ref b340)]))
  refine own_st (fun t_ => XS.iload (own_here Y409) hx rfl (hb hby own_d2_116) rfl) ?_
  show own_Ends _ _ _ _ (T408.setTop (mkF m 118 #[.val (.ref r0), .val (.int (40 : Int32)), .val (.ref r2), .val (.ref r3), .val (.ref r4), .val (.ref r5), .val (.ref r6), .val (.ref r7), .val (.ref r8), .val (.ref r9), .val (.int (0 : Int32))] [(.int (0 : Int32)), (.ref r4), (.ref b340)]))
  refine own_ldI Y409 hx hZ f407 (i := 0) (by decide) (by decide) (Nat.le_of_ble_eq_true rfl) (v := (.int (0 : Int32))) rfl rfl rfl (hb hby own_d2_118) ?_
  show own_Ends _ _ _ _ (T408.setTop (mkF m 119 #[.val (.ref r0), .val (.int (40 : Int32)), .val (.ref r2), .val (.ref r3), .val (.ref r4), .val (.ref r5), .val (.ref r6), .val (.ref r7), .val (.ref r8), .val (.ref r9), .val (.int (0 : Int32))] [(.int (0 : Int32)), (.ref b340)]))
  refine own_st (fun t_ => XS.aload (own_here Y409) hx rfl (hb hby own_d2_119) rfl rfl) ?_
  show own_Ends _ _ _ _ (T408.setTop (mkF m 121 #[.val (.ref r0), .val (.int (40 : Int32)), .val (.ref r2), .val (.ref r3), .val (.ref r4), .val (.ref r5), .val (.ref r6), .val (.ref r7), .val (.ref r8), .val (.ref r9), .val (.int (0 : Int32))] [(.ref r4), (.int (0 : Int32)), (.ref b340)]))
  refine own_st (fun t_ => XS.iload (own_here Y409) hx rfl (hb hby own_d2_121) rfl) ?_
  show own_Ends _ _ _ _ (T408.setTop (mkF m 123 #[.val (.ref r0), .val (.int (40 : Int32)), .val (.ref r2), .val (.ref r3), .val (.ref r4), .val (.ref r5), .val (.ref r6), .val (.ref r7), .val (.ref r8), .val (.ref r9), .val (.int (0 : Int32))] [(.int (0 : Int32)), (.ref r4), (.int (0 : Int32)), (.ref b340)]))
  refine own_st (fun t_ => XS.iconst (own_here Y409) hx rfl (hb hby own_d2_123) ) ?_
  show own_Ends _ _ _ _ (T408.setTop (mkF m 124 #[.val (.ref r0), .val (.int (40 : Int32)), .val (.ref r2), .val (.ref r3), .val (.ref r4), .val (.ref r5), .val (.ref r6), .val (.ref r7), .val (.ref r8), .val (.ref r9), .val (.int (0 : Int32))] [(.int (1 : Int32)), (.int (0 : Int32)), (.ref r4), (.int (0 : Int32)), (.ref b340)]))
  refine own_st (fun t_ => XS.iadd (own_here Y409) hx rfl (hb hby own_d2_124) rfl) ?_
  show own_Ends _ _ _ _ (T408.setTop (mkF m 125 #[.val (.ref r0), .val (.int (40 : Int32)), .val (.ref r2), .val (.ref r3), .val (.ref r4), .val (.ref r5), .val (.ref r6), .val (.ref r7), .val (.ref r8), .val (.ref r9), .val (.int (0 : Int32))] [(.int (1 : Int32)), (.ref r4), (.int (0 : Int32)), (.ref b340)]))
  refine own_ldI Y409 hx hZ f407 (i := 1) (by decide) (by decide) (Nat.le_of_ble_eq_true rfl) (v := (.int (1 : Int32))) rfl rfl rfl (hb hby own_d2_125) ?_
  show own_Ends _ _ _ _ (T408.setTop (mkF m 126 #[.val (.ref r0), .val (.int (40 : Int32)), .val (.ref r2), .val (.ref r3), .val (.ref r4), .val (.ref r5), .val (.ref r6), .val (.ref r7), .val (.ref r8), .val (.ref r9), .val (.int (0 : Int32))] [(.int (1 : Int32)), (.int (0 : Int32)), (.ref b340)]))
  refine own_st (fun t_ => XS.iload (own_here Y409) hx rfl (hb hby own_d2_126) rfl) ?_
  show own_Ends _ _ _ _ (T408.setTop (mkF m 128 #[.val (.ref r0), .val (.int (40 : Int32)), .val (.ref r2), .val (.ref r3), .val (.ref r4), .val (.ref r5), .val (.ref r6), .val (.ref r7), .val (.ref r8), .val (.ref r9), .val (.int (0 : Int32))] [(.int (0 : Int32)), (.int (1 : Int32)), (.int (0 : Int32)), (.ref b340)]))
  have f410 : own_A Z h403 b340 .int [(.int (0 : Int32)), (.int (0 : Int32)), (.int (0 : Int32)), (.int (0 : Int32))] := A339.other W404 (Ne.symm ne352)
  refine own_callS Y409 hx hZ (y := (⟨"java/util/Arrays", "fill", "([IIII)V"⟩ : MethodName)) hown (hw _ (List.mem_of_getElem? (i := 35) rfl)) (hw _ (List.mem_of_getElem? (i := 36) rfl)) (hw _ (List.mem_of_getElem? (i := 37) rfl)) (hw _ (List.mem_of_getElem? (i := 38) rfl)) (by decide) (argsL := [(.ref b340), (.int (0 : Int32)), (.int (1 : Int32)), (.int (0 : Int32))]) (rest := []) (own_rm4_0_1 l Z a0 hw [] b340  h403 n0  f410 g368) (W := 0) (by decide) (by decide) (by decide) (by decide) rfl (by rw [hml]; rfl) (lenOf own_pd1 rfl) rfl (by show 2 * 0 + _ ≤ _; exact Nat.le_of_eq rfl) (hb hby own_d2_128) (fun T411 h413 v414 Y412 q415 => ?_)
  obtain ⟨rfl, K416, F417⟩ := q415
  show own_Ends _ _ _ _ (T411.setTop (mkF m 131 #[.val (.ref r0), .val (.int (40 : Int32)), .val (.ref r2), .val (.ref r3), .val (.ref r4), .val (.ref r5), .val (.ref r6), .val (.ref r7), .val (.ref r8), .val (.ref r9), .val (.int (0 : Int32))] []))
  refine own_st (fun t_ => XS.iinc (own_here Y412) hx rfl (hb hby own_d2_131) rfl (l' := #[.val (.ref r0), .val (.int (40 : Int32)), .val (.ref r2), .val (.ref r3), .val (.ref r4), .val (.ref r5), .val (.ref r6), .val (.ref r7), .val (.ref r8), .val (.ref r9), .val (.int (1 : Int32))]) rfl) ?_
  show own_Ends _ _ _ _ (T411.setTop (mkF m 134 #[.val (.ref r0), .val (.int (40 : Int32)), .val (.ref r2), .val (.ref r3), .val (.ref r4), .val (.ref r5), .val (.ref r6), .val (.ref r7), .val (.ref r8), .val (.ref r9), .val (.int (1 : Int32))] []))
  refine own_st (fun t_ => XS.goto (own_here Y412) hx rfl (pc0 := 134) (pc' := 100) rfl (hb hby own_d2_134) (by decide) (by decide)) ?_
  show own_Ends _ _ _ _ (T411.setTop (mkF m 100 #[.val (.ref r0), .val (.int (40 : Int32)), .val (.ref r2), .val (.ref r3), .val (.ref r4), .val (.ref r5), .val (.ref r6), .val (.ref r7), .val (.ref r8), .val (.ref r9), .val (.int (1 : Int32))] []))
  refine own_st (fun t_ => XS.iload (own_here Y412) hx rfl (hb hby own_d2_100) rfl) ?_
  show own_Ends _ _ _ _ (T411.setTop (mkF m 102 #[.val (.ref r0), .val (.int (40 : Int32)), .val (.ref r2), .val (.ref r3), .val (.ref r4), .val (.ref r5), .val (.ref r6), .val (.ref r7), .val (.ref r8), .val (.ref r9), .val (.int (1 : Int32))] [(.int (1 : Int32))]))
  refine own_st (fun t_ => XS.iconst (own_here Y412) hx rfl (hb hby own_d2_102) ) ?_
  show own_Ends _ _ _ _ (T411.setTop (mkF m 103 #[.val (.ref r0), .val (.int (40 : Int32)), .val (.ref r2), .val (.ref r3), .val (.ref r4), .val (.ref r5), .val (.ref r6), .val (.ref r7), .val (.ref r8), .val (.ref r9), .val (.int (1 : Int32))] [(.int (1 : Int32)), (.int (1 : Int32))]))
  refine own_st (fun t_ => XS.iadd (own_here Y412) hx rfl (hb hby own_d2_103) rfl) ?_
  show own_Ends _ _ _ _ (T411.setTop (mkF m 104 #[.val (.ref r0), .val (.int (40 : Int32)), .val (.ref r2), .val (.ref r3), .val (.ref r4), .val (.ref r5), .val (.ref r6), .val (.ref r7), .val (.ref r8), .val (.ref r9), .val (.int (1 : Int32))] [(.int (2 : Int32))]))
  refine own_st (fun t_ => XS.aload (own_here Y412) hx rfl (hb hby own_d2_104) rfl rfl) ?_
  show own_Ends _ _ _ _ (T411.setTop (mkF m 106 #[.val (.ref r0), .val (.int (40 : Int32)), .val (.ref r2), .val (.ref r3), .val (.ref r4), .val (.ref r5), .val (.ref r6), .val (.ref r7), .val (.ref r8), .val (.ref r9), .val (.int (1 : Int32))] [(.ref r4), (.int (2 : Int32))]))
  have f418 : own_A Z h413 r4 .int [(.int (0 : Int32)), (.int (1 : Int32)), (.int (3 : Int32)), (.int (4 : Int32))] := f407.keep K416 (ninS ne365 nin0)
  refine own_len Y412 hx hZ f418 (z := (4 : Int32)) rfl rfl rfl (hb hby own_d2_106) ?_
  show own_Ends _ _ _ _ (T411.setTop (mkF m 107 #[.val (.ref r0), .val (.int (40 : Int32)), .val (.ref r2), .val (.ref r3), .val (.ref r4), .val (.ref r5), .val (.ref r6), .val (.ref r7), .val (.ref r8), .val (.ref r9), .val (.int (1 : Int32))] [(.int (4 : Int32)), (.int (2 : Int32))]))
  refine own_st (fun t_ => XS.icmpNo (own_here Y412) hx rfl (hb hby own_d2_107) rfl (XT.ii_ge_f (by decide))) ?_
  show own_Ends _ _ _ _ (T411.setTop (mkF m 110 #[.val (.ref r0), .val (.int (40 : Int32)), .val (.ref r2), .val (.ref r3), .val (.ref r4), .val (.ref r5), .val (.ref r6), .val (.ref r7), .val (.ref r8), .val (.ref r9), .val (.int (1 : Int32))] []))
  refine own_st (fun t_ => XS.aloadN (own_here Y412) hx rfl (hb hby own_d2_110) rfl rfl) ?_
  show own_Ends _ _ _ _ (T411.setTop (mkF m 111 #[.val (.ref r0), .val (.int (40 : Int32)), .val (.ref r2), .val (.ref r3), .val (.ref r4), .val (.ref r5), .val (.ref r6), .val (.ref r7), .val (.ref r8), .val (.ref r9), .val (.int (1 : Int32))] [(.ref r0)]))
  have f419 : Fld Z h413 r0 "com/example/tierpath/tierpath/Bounds" "setLeaf" "[I" (.ref b340) := F405.keep K416 (ninS ne352 nin0)
  refine own_getF Y412 hx hZ hown (host := "") (Or.inl (hw _ (List.mem_of_getElem? (i := 33) rfl))) Via.refl f419 rfl rfl (hb hby own_d2_111) (fun T420 Y421 => ?_)
  show own_Ends _ _ _ _ (T420.setTop (mkF m 114 #[.val (.ref r0), .val (.int (40 : Int32)), .val (.ref r2), .val (.ref r3), .val (.ref r4), .val (.ref r5), .val (.ref r6), .val (.ref r7), .val (.ref r8), .val (.ref r9), .val (.int (1 : Int32))] [(.ref b340)]))
  refine own_st (fun t_ => XS.aload (own_here Y421) hx rfl (hb hby own_d2_114) rfl rfl) ?_
  show own_Ends _ _ _ _ (T420.setTop (mkF m 116 #[.val (.ref r0), .val (.int (40 : Int32)), .val (.ref r2), .val (.ref r3), .val (.ref r4), .val (.ref r5), .val (.ref r6), .val (.ref r7), .val (.ref r8), .val (.ref r9), .val (.int (1 : Int32))] [(.ref r4), (.ref b340)]))
  refine own_st (fun t_ => XS.iload (own_here Y421) hx rfl (hb hby own_d2_116) rfl) ?_
  show own_Ends _ _ _ _ (T420.setTop (mkF m 118 #[.val (.ref r0), .val (.int (40 : Int32)), .val (.ref r2), .val (.ref r3), .val (.ref r4), .val (.ref r5), .val (.ref r6), .val (.ref r7), .val (.ref r8), .val (.ref r9), .val (.int (1 : Int32))] [(.int (1 : Int32)), (.ref r4), (.ref b340)]))
  refine own_ldI Y421 hx hZ f418 (i := 1) (by decide) (by decide) (Nat.le_of_ble_eq_true rfl) (v := (.int (1 : Int32))) rfl rfl rfl (hb hby own_d2_118) ?_
  show own_Ends _ _ _ _ (T420.setTop (mkF m 119 #[.val (.ref r0), .val (.int (40 : Int32)), .val (.ref r2), .val (.ref r3), .val (.ref r4), .val (.ref r5), .val (.ref r6), .val (.ref r7), .val (.ref r8), .val (.ref r9), .val (.int (1 : Int32))] [(.int (1 : Int32)), (.ref b340)]))
  refine own_st (fun t_ => XS.aload (own_here Y421) hx rfl (hb hby own_d2_119) rfl rfl) ?_
  show own_Ends _ _ _ _ (T420.setTop (mkF m 121 #[.val (.ref r0), .val (.int (40 : Int32)), .val (.ref r2), .val (.ref r3), .val (.ref r4), .val (.ref r5), .val (.ref r6), .val (.ref r7), .val (.ref r8), .val (.ref r9), .val (.int (1 : Int32))] [(.ref r4), (.int (1 : Int32)), (.ref b340)]))
  refine own_st (fun t_ => XS.iload (own_here Y421) hx rfl (hb hby own_d2_121) rfl) ?_
  show own_Ends _ _ _ _ (T420.setTop (mkF m 123 #[.val (.ref r0), .val (.int (40 : Int32)), .val (.ref r2), .val (.ref r3), .val (.ref r4), .val (.ref r5), .val (.ref r6), .val (.ref r7), .val (.ref r8), .val (.ref r9), .val (.int (1 : Int32))] [(.int (1 : Int32)), (.ref r4), (.int (1 : Int32)), (.ref b340)]))
  refine own_st (fun t_ => XS.iconst (own_here Y421) hx rfl (hb hby own_d2_123) ) ?_
  show own_Ends _ _ _ _ (T420.setTop (mkF m 124 #[.val (.ref r0), .val (.int (40 : Int32)), .val (.ref r2), .val (.ref r3), .val (.ref r4), .val (.ref r5), .val (.ref r6), .val (.ref r7), .val (.ref r8), .val (.ref r9), .val (.int (1 : Int32))] [(.int (1 : Int32)), (.int (1 : Int32)), (.ref r4), (.int (1 : Int32)), (.ref b340)]))
  refine own_st (fun t_ => XS.iadd (own_here Y421) hx rfl (hb hby own_d2_124) rfl) ?_
  show own_Ends _ _ _ _ (T420.setTop (mkF m 125 #[.val (.ref r0), .val (.int (40 : Int32)), .val (.ref r2), .val (.ref r3), .val (.ref r4), .val (.ref r5), .val (.ref r6), .val (.ref r7), .val (.ref r8), .val (.ref r9), .val (.int (1 : Int32))] [(.int (2 : Int32)), (.ref r4), (.int (1 : Int32)), (.ref b340)]))
  refine own_ldI Y421 hx hZ f418 (i := 2) (by decide) (by decide) (Nat.le_of_ble_eq_true rfl) (v := (.int (3 : Int32))) rfl rfl rfl (hb hby own_d2_125) ?_
  show own_Ends _ _ _ _ (T420.setTop (mkF m 126 #[.val (.ref r0), .val (.int (40 : Int32)), .val (.ref r2), .val (.ref r3), .val (.ref r4), .val (.ref r5), .val (.ref r6), .val (.ref r7), .val (.ref r8), .val (.ref r9), .val (.int (1 : Int32))] [(.int (3 : Int32)), (.int (1 : Int32)), (.ref b340)]))
  refine own_st (fun t_ => XS.iload (own_here Y421) hx rfl (hb hby own_d2_126) rfl) ?_
  show own_Ends _ _ _ _ (T420.setTop (mkF m 128 #[.val (.ref r0), .val (.int (40 : Int32)), .val (.ref r2), .val (.ref r3), .val (.ref r4), .val (.ref r5), .val (.ref r6), .val (.ref r7), .val (.ref r8), .val (.ref r9), .val (.int (1 : Int32))] [(.int (1 : Int32)), (.int (3 : Int32)), (.int (1 : Int32)), (.ref b340)]))
  refine own_callS Y421 hx hZ (y := (⟨"java/util/Arrays", "fill", "([IIII)V"⟩ : MethodName)) hown (hw _ (List.mem_of_getElem? (i := 35) rfl)) (hw _ (List.mem_of_getElem? (i := 36) rfl)) (hw _ (List.mem_of_getElem? (i := 37) rfl)) (hw _ (List.mem_of_getElem? (i := 38) rfl)) (by decide) (argsL := [(.ref b340), (.int (1 : Int32)), (.int (3 : Int32)), (.int (1 : Int32))]) (rest := []) (own_rm4_1_3 l Z a0 hw [] b340  h413 n0  F417 g368) (W := 0) (by decide) (by decide) (by decide) (by decide) rfl (by rw [hml]; rfl) (lenOf own_pd1 rfl) rfl (by show 2 * 0 + _ ≤ _; exact Nat.le_of_eq rfl) (hb hby own_d2_128) (fun T422 h424 v425 Y423 q426 => ?_)
  obtain ⟨rfl, K427, F428⟩ := q426
  show own_Ends _ _ _ _ (T422.setTop (mkF m 131 #[.val (.ref r0), .val (.int (40 : Int32)), .val (.ref r2), .val (.ref r3), .val (.ref r4), .val (.ref r5), .val (.ref r6), .val (.ref r7), .val (.ref r8), .val (.ref r9), .val (.int (1 : Int32))] []))
  refine own_st (fun t_ => XS.iinc (own_here Y423) hx rfl (hb hby own_d2_131) rfl (l' := #[.val (.ref r0), .val (.int (40 : Int32)), .val (.ref r2), .val (.ref r3), .val (.ref r4), .val (.ref r5), .val (.ref r6), .val (.ref r7), .val (.ref r8), .val (.ref r9), .val (.int (2 : Int32))]) rfl) ?_
  show own_Ends _ _ _ _ (T422.setTop (mkF m 134 #[.val (.ref r0), .val (.int (40 : Int32)), .val (.ref r2), .val (.ref r3), .val (.ref r4), .val (.ref r5), .val (.ref r6), .val (.ref r7), .val (.ref r8), .val (.ref r9), .val (.int (2 : Int32))] []))
  refine own_st (fun t_ => XS.goto (own_here Y423) hx rfl (pc0 := 134) (pc' := 100) rfl (hb hby own_d2_134) (by decide) (by decide)) ?_
  show own_Ends _ _ _ _ (T422.setTop (mkF m 100 #[.val (.ref r0), .val (.int (40 : Int32)), .val (.ref r2), .val (.ref r3), .val (.ref r4), .val (.ref r5), .val (.ref r6), .val (.ref r7), .val (.ref r8), .val (.ref r9), .val (.int (2 : Int32))] []))
  refine own_st (fun t_ => XS.iload (own_here Y423) hx rfl (hb hby own_d2_100) rfl) ?_
  show own_Ends _ _ _ _ (T422.setTop (mkF m 102 #[.val (.ref r0), .val (.int (40 : Int32)), .val (.ref r2), .val (.ref r3), .val (.ref r4), .val (.ref r5), .val (.ref r6), .val (.ref r7), .val (.ref r8), .val (.ref r9), .val (.int (2 : Int32))] [(.int (2 : Int32))]))
  refine own_st (fun t_ => XS.iconst (own_here Y423) hx rfl (hb hby own_d2_102) ) ?_
  show own_Ends _ _ _ _ (T422.setTop (mkF m 103 #[.val (.ref r0), .val (.int (40 : Int32)), .val (.ref r2), .val (.ref r3), .val (.ref r4), .val (.ref r5), .val (.ref r6), .val (.ref r7), .val (.ref r8), .val (.ref r9), .val (.int (2 : Int32))] [(.int (1 : Int32)), (.int (2 : Int32))]))
  refine own_st (fun t_ => XS.iadd (own_here Y423) hx rfl (hb hby own_d2_103) rfl) ?_
  show own_Ends _ _ _ _ (T422.setTop (mkF m 104 #[.val (.ref r0), .val (.int (40 : Int32)), .val (.ref r2), .val (.ref r3), .val (.ref r4), .val (.ref r5), .val (.ref r6), .val (.ref r7), .val (.ref r8), .val (.ref r9), .val (.int (2 : Int32))] [(.int (3 : Int32))]))
  refine own_st (fun t_ => XS.aload (own_here Y423) hx rfl (hb hby own_d2_104) rfl rfl) ?_
  show own_Ends _ _ _ _ (T422.setTop (mkF m 106 #[.val (.ref r0), .val (.int (40 : Int32)), .val (.ref r2), .val (.ref r3), .val (.ref r4), .val (.ref r5), .val (.ref r6), .val (.ref r7), .val (.ref r8), .val (.ref r9), .val (.int (2 : Int32))] [(.ref r4), (.int (3 : Int32))]))
  have f429 : own_A Z h424 r4 .int [(.int (0 : Int32)), (.int (1 : Int32)), (.int (3 : Int32)), (.int (4 : Int32))] := f418.keep K427 (ninS ne365 nin0)
  refine own_len Y423 hx hZ f429 (z := (4 : Int32)) rfl rfl rfl (hb hby own_d2_106) ?_
  show own_Ends _ _ _ _ (T422.setTop (mkF m 107 #[.val (.ref r0), .val (.int (40 : Int32)), .val (.ref r2), .val (.ref r3), .val (.ref r4), .val (.ref r5), .val (.ref r6), .val (.ref r7), .val (.ref r8), .val (.ref r9), .val (.int (2 : Int32))] [(.int (4 : Int32)), (.int (3 : Int32))]))
  refine own_st (fun t_ => XS.icmpNo (own_here Y423) hx rfl (hb hby own_d2_107) rfl (XT.ii_ge_f (by decide))) ?_
  show own_Ends _ _ _ _ (T422.setTop (mkF m 110 #[.val (.ref r0), .val (.int (40 : Int32)), .val (.ref r2), .val (.ref r3), .val (.ref r4), .val (.ref r5), .val (.ref r6), .val (.ref r7), .val (.ref r8), .val (.ref r9), .val (.int (2 : Int32))] []))
  refine own_st (fun t_ => XS.aloadN (own_here Y423) hx rfl (hb hby own_d2_110) rfl rfl) ?_
  show own_Ends _ _ _ _ (T422.setTop (mkF m 111 #[.val (.ref r0), .val (.int (40 : Int32)), .val (.ref r2), .val (.ref r3), .val (.ref r4), .val (.ref r5), .val (.ref r6), .val (.ref r7), .val (.ref r8), .val (.ref r9), .val (.int (2 : Int32))] [(.ref r0)]))
  have f430 : Fld Z h424 r0 "com/example/tierpath/tierpath/Bounds" "setLeaf" "[I" (.ref b340) := f419.keep K427 (ninS ne352 nin0)
  refine own_getF Y423 hx hZ hown (host := "") (Or.inl (hw _ (List.mem_of_getElem? (i := 33) rfl))) Via.refl f430 rfl rfl (hb hby own_d2_111) (fun T431 Y432 => ?_)
  show own_Ends _ _ _ _ (T431.setTop (mkF m 114 #[.val (.ref r0), .val (.int (40 : Int32)), .val (.ref r2), .val (.ref r3), .val (.ref r4), .val (.ref r5), .val (.ref r6), .val (.ref r7), .val (.ref r8), .val (.ref r9), .val (.int (2 : Int32))] [(.ref b340)]))
  refine own_st (fun t_ => XS.aload (own_here Y432) hx rfl (hb hby own_d2_114) rfl rfl) ?_
  show own_Ends _ _ _ _ (T431.setTop (mkF m 116 #[.val (.ref r0), .val (.int (40 : Int32)), .val (.ref r2), .val (.ref r3), .val (.ref r4), .val (.ref r5), .val (.ref r6), .val (.ref r7), .val (.ref r8), .val (.ref r9), .val (.int (2 : Int32))] [(.ref r4), (.ref b340)]))
  refine own_st (fun t_ => XS.iload (own_here Y432) hx rfl (hb hby own_d2_116) rfl) ?_
  show own_Ends _ _ _ _ (T431.setTop (mkF m 118 #[.val (.ref r0), .val (.int (40 : Int32)), .val (.ref r2), .val (.ref r3), .val (.ref r4), .val (.ref r5), .val (.ref r6), .val (.ref r7), .val (.ref r8), .val (.ref r9), .val (.int (2 : Int32))] [(.int (2 : Int32)), (.ref r4), (.ref b340)]))
  refine own_ldI Y432 hx hZ f429 (i := 2) (by decide) (by decide) (Nat.le_of_ble_eq_true rfl) (v := (.int (3 : Int32))) rfl rfl rfl (hb hby own_d2_118) ?_
  show own_Ends _ _ _ _ (T431.setTop (mkF m 119 #[.val (.ref r0), .val (.int (40 : Int32)), .val (.ref r2), .val (.ref r3), .val (.ref r4), .val (.ref r5), .val (.ref r6), .val (.ref r7), .val (.ref r8), .val (.ref r9), .val (.int (2 : Int32))] [(.int (3 : Int32)), (.ref b340)]))
  refine own_st (fun t_ => XS.aload (own_here Y432) hx rfl (hb hby own_d2_119) rfl rfl) ?_
  show own_Ends _ _ _ _ (T431.setTop (mkF m 121 #[.val (.ref r0), .val (.int (40 : Int32)), .val (.ref r2), .val (.ref r3), .val (.ref r4), .val (.ref r5), .val (.ref r6), .val (.ref r7), .val (.ref r8), .val (.ref r9), .val (.int (2 : Int32))] [(.ref r4), (.int (3 : Int32)), (.ref b340)]))
  refine own_st (fun t_ => XS.iload (own_here Y432) hx rfl (hb hby own_d2_121) rfl) ?_
  show own_Ends _ _ _ _ (T431.setTop (mkF m 123 #[.val (.ref r0), .val (.int (40 : Int32)), .val (.ref r2), .val (.ref r3), .val (.ref r4), .val (.ref r5), .val (.ref r6), .val (.ref r7), .val (.ref r8), .val (.ref r9), .val (.int (2 : Int32))] [(.int (2 : Int32)), (.ref r4), (.int (3 : Int32)), (.ref b340)]))
  refine own_st (fun t_ => XS.iconst (own_here Y432) hx rfl (hb hby own_d2_123) ) ?_
  show own_Ends _ _ _ _ (T431.setTop (mkF m 124 #[.val (.ref r0), .val (.int (40 : Int32)), .val (.ref r2), .val (.ref r3), .val (.ref r4), .val (.ref r5), .val (.ref r6), .val (.ref r7), .val (.ref r8), .val (.ref r9), .val (.int (2 : Int32))] [(.int (1 : Int32)), (.int (2 : Int32)), (.ref r4), (.int (3 : Int32)), (.ref b340)]))
  refine own_st (fun t_ => XS.iadd (own_here Y432) hx rfl (hb hby own_d2_124) rfl) ?_
  show own_Ends _ _ _ _ (T431.setTop (mkF m 125 #[.val (.ref r0), .val (.int (40 : Int32)), .val (.ref r2), .val (.ref r3), .val (.ref r4), .val (.ref r5), .val (.ref r6), .val (.ref r7), .val (.ref r8), .val (.ref r9), .val (.int (2 : Int32))] [(.int (3 : Int32)), (.ref r4), (.int (3 : Int32)), (.ref b340)]))
  refine own_ldI Y432 hx hZ f429 (i := 3) (by decide) (by decide) (Nat.le_of_ble_eq_true rfl) (v := (.int (4 : Int32))) rfl rfl rfl (hb hby own_d2_125) ?_
  show own_Ends _ _ _ _ (T431.setTop (mkF m 126 #[.val (.ref r0), .val (.int (40 : Int32)), .val (.ref r2), .val (.ref r3), .val (.ref r4), .val (.ref r5), .val (.ref r6), .val (.ref r7), .val (.ref r8), .val (.ref r9), .val (.int (2 : Int32))] [(.int (4 : Int32)), (.int (3 : Int32)), (.ref b340)]))
  refine own_st (fun t_ => XS.iload (own_here Y432) hx rfl (hb hby own_d2_126) rfl) ?_
  show own_Ends _ _ _ _ (T431.setTop (mkF m 128 #[.val (.ref r0), .val (.int (40 : Int32)), .val (.ref r2), .val (.ref r3), .val (.ref r4), .val (.ref r5), .val (.ref r6), .val (.ref r7), .val (.ref r8), .val (.ref r9), .val (.int (2 : Int32))] [(.int (2 : Int32)), (.int (4 : Int32)), (.int (3 : Int32)), (.ref b340)]))
  refine own_callS Y432 hx hZ (y := (⟨"java/util/Arrays", "fill", "([IIII)V"⟩ : MethodName)) hown (hw _ (List.mem_of_getElem? (i := 35) rfl)) (hw _ (List.mem_of_getElem? (i := 36) rfl)) (hw _ (List.mem_of_getElem? (i := 37) rfl)) (hw _ (List.mem_of_getElem? (i := 38) rfl)) (by decide) (argsL := [(.ref b340), (.int (3 : Int32)), (.int (4 : Int32)), (.int (2 : Int32))]) (rest := []) (own_rm4_3_4 l Z a0 hw [] b340  h424 n0  F428 g368) (W := 0) (by decide) (by decide) (by decide) (by decide) rfl (by rw [hml]; rfl) (lenOf own_pd1 rfl) rfl (by show 2 * 0 + _ ≤ _; exact Nat.le_of_eq rfl) (hb hby own_d2_128) (fun T433 h435 v436 Y434 q437 => ?_)
  obtain ⟨rfl, K438, F439⟩ := q437
  show own_Ends _ _ _ _ (T433.setTop (mkF m 131 #[.val (.ref r0), .val (.int (40 : Int32)), .val (.ref r2), .val (.ref r3), .val (.ref r4), .val (.ref r5), .val (.ref r6), .val (.ref r7), .val (.ref r8), .val (.ref r9), .val (.int (2 : Int32))] []))
  refine own_st (fun t_ => XS.iinc (own_here Y434) hx rfl (hb hby own_d2_131) rfl (l' := #[.val (.ref r0), .val (.int (40 : Int32)), .val (.ref r2), .val (.ref r3), .val (.ref r4), .val (.ref r5), .val (.ref r6), .val (.ref r7), .val (.ref r8), .val (.ref r9), .val (.int (3 : Int32))]) rfl) ?_
  show own_Ends _ _ _ _ (T433.setTop (mkF m 134 #[.val (.ref r0), .val (.int (40 : Int32)), .val (.ref r2), .val (.ref r3), .val (.ref r4), .val (.ref r5), .val (.ref r6), .val (.ref r7), .val (.ref r8), .val (.ref r9), .val (.int (3 : Int32))] []))
  refine own_st (fun t_ => XS.goto (own_here Y434) hx rfl (pc0 := 134) (pc' := 100) rfl (hb hby own_d2_134) (by decide) (by decide)) ?_
  show own_Ends _ _ _ _ (T433.setTop (mkF m 100 #[.val (.ref r0), .val (.int (40 : Int32)), .val (.ref r2), .val (.ref r3), .val (.ref r4), .val (.ref r5), .val (.ref r6), .val (.ref r7), .val (.ref r8), .val (.ref r9), .val (.int (3 : Int32))] []))
  refine own_st (fun t_ => XS.iload (own_here Y434) hx rfl (hb hby own_d2_100) rfl) ?_
  show own_Ends _ _ _ _ (T433.setTop (mkF m 102 #[.val (.ref r0), .val (.int (40 : Int32)), .val (.ref r2), .val (.ref r3), .val (.ref r4), .val (.ref r5), .val (.ref r6), .val (.ref r7), .val (.ref r8), .val (.ref r9), .val (.int (3 : Int32))] [(.int (3 : Int32))]))
  refine own_st (fun t_ => XS.iconst (own_here Y434) hx rfl (hb hby own_d2_102) ) ?_
  show own_Ends _ _ _ _ (T433.setTop (mkF m 103 #[.val (.ref r0), .val (.int (40 : Int32)), .val (.ref r2), .val (.ref r3), .val (.ref r4), .val (.ref r5), .val (.ref r6), .val (.ref r7), .val (.ref r8), .val (.ref r9), .val (.int (3 : Int32))] [(.int (1 : Int32)), (.int (3 : Int32))]))
  refine own_st (fun t_ => XS.iadd (own_here Y434) hx rfl (hb hby own_d2_103) rfl) ?_
  show own_Ends _ _ _ _ (T433.setTop (mkF m 104 #[.val (.ref r0), .val (.int (40 : Int32)), .val (.ref r2), .val (.ref r3), .val (.ref r4), .val (.ref r5), .val (.ref r6), .val (.ref r7), .val (.ref r8), .val (.ref r9), .val (.int (3 : Int32))] [(.int (4 : Int32))]))
  refine own_st (fun t_ => XS.aload (own_here Y434) hx rfl (hb hby own_d2_104) rfl rfl) ?_
  show own_Ends _ _ _ _ (T433.setTop (mkF m 106 #[.val (.ref r0), .val (.int (40 : Int32)), .val (.ref r2), .val (.ref r3), .val (.ref r4), .val (.ref r5), .val (.ref r6), .val (.ref r7), .val (.ref r8), .val (.ref r9), .val (.int (3 : Int32))] [(.ref r4), (.int (4 : Int32))]))
  have f440 : own_A Z h435 r4 .int [(.int (0 : Int32)), (.int (1 : Int32)), (.int (3 : Int32)), (.int (4 : Int32))] := f429.keep K438 (ninS ne365 nin0)
  refine own_len Y434 hx hZ f440 (z := (4 : Int32)) rfl rfl rfl (hb hby own_d2_106) ?_
  show own_Ends _ _ _ _ (T433.setTop (mkF m 107 #[.val (.ref r0), .val (.int (40 : Int32)), .val (.ref r2), .val (.ref r3), .val (.ref r4), .val (.ref r5), .val (.ref r6), .val (.ref r7), .val (.ref r8), .val (.ref r9), .val (.int (3 : Int32))] [(.int (4 : Int32)), (.int (4 : Int32))]))
  refine own_st (fun t_ => XS.icmpYes (own_here Y434) hx rfl (pc0 := 107) (pc' := 137) rfl (hb hby own_d2_107) rfl (XT.ii_ge_t (by decide)) (by decide) (by decide)) ?_
  show own_Ends _ _ _ _ (T433.setTop (mkF m 137 #[.val (.ref r0), .val (.int (40 : Int32)), .val (.ref r2), .val (.ref r3), .val (.ref r4), .val (.ref r5), .val (.ref r6), .val (.ref r7), .val (.ref r8), .val (.ref r9), .val (.int (3 : Int32))] []))
  have K441 : Keep h0 h90 [r0] := (Keep.refl h0 [r0]).wr W91 (Or.inl (List.mem_of_getElem? (i := 0) rfl))
  have K442 : Keep h0 h97 [r0] := K441.wr W98 (Or.inl (List.mem_of_getElem? (i := 0) rfl))
  have K443 : Keep h0 h105 [r0] := K442.wr W106 (Or.inl (List.mem_of_getElem? (i := 0) rfl))
  have K444 : Keep h0 h114 [r0] := K443.wr W115 (Or.inl (List.mem_of_getElem? (i := 0) rfl))
  have K445 : Keep h0 h124 [r0] := K444.wr W125 (Or.inl (List.mem_of_getElem? (i := 0) rfl))
  have K446 : Keep h0 h135 [r0] := K445.wr W136 (Or.inl (List.mem_of_getElem? (i := 0) rfl))
  have K447 : Keep h0 h147 [r0] := K446.wr W148 (Or.inl (List.mem_of_getElem? (i := 0) rfl))
  have K448 : Keep h0 h160 [r0] := K447.wr W161 (Or.inl (List.mem_of_getElem? (i := 0) rfl))
  have K449 : Keep h0 h165 [r0] := K448.ext E166
  have K450 : Keep h0 h220 [r0] := K449.wr W221 (Or.inl (List.mem_of_getElem? (i := 0) rfl))
  have K451 : Keep h0 h230 [r0] := K450.wr W231 (Or.inr (by rw [eb169]; exact K448.1))
  have K452 : Keep h0 h241 [r0] := K451.wr W242 (Or.inr (by rw [eb169]; exact K448.1))
  have K453 : Keep h0 h252 [r0] := K452.wr W253 (Or.inr (by rw [eb169]; exact K448.1))
  have K454 : Keep h0 h263 [r0] := K453.wr W264 (Or.inr (by rw [eb169]; exact K448.1))
  have K455 : Keep h0 h274 [r0] := K454.wr W275 (Or.inr (by rw [eb169]; exact K448.1))
  have K456 : Keep h0 h285 [r0] := K455.wr W286 (Or.inr (by rw [eb169]; exact K448.1))
  have K457 : Keep h0 h296 [r0] := K456.wr W297 (Or.inr (by rw [eb169]; exact K448.1))
  have K458 : Keep h0 h307 [r0] := K457.wr W308 (Or.inr (by rw [eb169]; exact K448.1))
  have K459 : Keep h0 h318 [r0] := K458.wr W319 (Or.inr (by rw [eb169]; exact K448.1))
  have K460 : Keep h0 h337 [r0] := K459.ext E338
  have K461 : Keep h0 h403 [r0] := K460.wr W404 (Or.inl (List.mem_of_getElem? (i := 0) rfl))
  have K462 : Keep h0 h413 [r0] := K461.trans K416 (allS (Or.inr (by rw [eb341]; exact K459.1)) all0)
  have K463 : Keep h0 h424 [r0] := K462.trans K427 (allS (Or.inr (by rw [eb341]; exact K459.1)) all0)
  have K464 : Keep h0 h435 [r0] := K463.trans K438 (allS (Or.inr (by rw [eb341]; exact K459.1)) all0)
  have f465 : Fld Z h97 r0 "com/example/tierpath/tierpath/Bounds" "boundaryStart" "[I" (.ref r2) := F92.other W98 (Or.inr (slot_ne (Or.inr (hw _ (List.mem_of_getElem? (i := 16) rfl))) (Or.inr (hw _ (List.mem_of_getElem? (i := 18) rfl))) (by decide) (t := (.array .int)) (t' := (.array .int)) (by decide) (by decide)))
  have f466 : Fld Z h105 r0 "com/example/tierpath/tierpath/Bounds" "boundaryStart" "[I" (.ref r2) := f465.other W106 (Or.inr (slot_ne (Or.inr (hw _ (List.mem_of_getElem? (i := 16) rfl))) (Or.inr (hw _ (List.mem_of_getElem? (i := 20) rfl))) (by decide) (t := (.array .int)) (t' := (.array .int)) (by decide) (by decide)))
  have f467 : Fld Z h114 r0 "com/example/tierpath/tierpath/Bounds" "boundaryStart" "[I" (.ref r2) := f466.other W115 (Or.inr (slot_ne (Or.inr (hw _ (List.mem_of_getElem? (i := 16) rfl))) (Or.inr (hw _ (List.mem_of_getElem? (i := 22) rfl))) (by decide) (t := (.array .int)) (t' := (.array .int)) (by decide) (by decide)))
  have f468 : Fld Z h124 r0 "com/example/tierpath/tierpath/Bounds" "boundaryStart" "[I" (.ref r2) := f467.other W125 (Or.inr (slot_ne (Or.inr (hw _ (List.mem_of_getElem? (i := 16) rfl))) (Or.inr (hw _ (List.mem_of_getElem? (i := 24) rfl))) (by decide) (t := (.array .int)) (t' := (.array .int)) (by decide) (by decide)))
  have f469 : Fld Z h135 r0 "com/example/tierpath/tierpath/Bounds" "boundaryStart" "[I" (.ref r2) := f468.other W136 (Or.inr (slot_ne (Or.inr (hw _ (List.mem_of_getElem? (i := 16) rfl))) (Or.inr (hw _ (List.mem_of_getElem? (i := 26) rfl))) (by decide) (t := (.array .int)) (t' := (.array .int)) (by decide) (by decide)))
  have f470 : Fld Z h147 r0 "com/example/tierpath/tierpath/Bounds" "boundaryStart" "[I" (.ref r2) := f469.other W148 (Or.inr (slot_ne (Or.inr (hw _ (List.mem_of_getElem? (i := 16) rfl))) (Or.inr (hw _ (List.mem_of_getElem? (i := 28) rfl))) (by decide) (t := (.array .int)) (t' := (.array .long)) (by decide) (by decide)))
  have f471 : Fld Z h160 r0 "com/example/tierpath/tierpath/Bounds" "boundaryStart" "[I" (.ref r2) := f470.other W161 (Or.inr (slot_ne (Or.inr (hw _ (List.mem_of_getElem? (i := 16) rfl))) (Or.inr (hw _ (List.mem_of_getElem? (i := 30) rfl))) (by decide) (t := (.array .int)) (t' := (.array .long)) (by decide) (by decide)))
  have f472 : Fld Z h165 r0 "com/example/tierpath/tierpath/Bounds" "boundaryStart" "[I" (.ref r2) := f471.ext E166
  have f473 : Fld Z h220 r0 "com/example/tierpath/tierpath/Bounds" "boundaryStart" "[I" (.ref r2) := f472.other W221 (Or.inr (slot_ne (Or.inr (hw _ (List.mem_of_getElem? (i := 16) rfl))) (Or.inr (hw _ (List.mem_of_getElem? (i := 32) rfl))) (by decide) (t := (.array .int)) (t' := (.array .int)) (by decide) (by decide)))
  have f474 : Fld Z h230 r0 "com/example/tierpath/tierpath/Bounds" "boundaryStart" "[I" (.ref r2) := f473.other W231 (Or.inl ne171)
  have f475 : Fld Z h241 r0 "com/example/tierpath/tierpath/Bounds" "boundaryStart" "[I" (.ref r2) := f474.other W242 (Or.inl ne171)
  have f476 : Fld Z h252 r0 "com/example/tierpath/tierpath/Bounds" "boundaryStart" "[I" (.ref r2) := f475.other W253 (Or.inl ne171)
  have f477 : Fld Z h263 r0 "com/example/tierpath/tierpath/Bounds" "boundaryStart" "[I" (.ref r2) := f476.other W264 (Or.inl ne171)
  have f478 : Fld Z h274 r0 "com/example/tierpath/tierpath/Bounds" "boundaryStart" "[I" (.ref r2) := f477.other W275 (Or.inl ne171)
  have f479 : Fld Z h285 r0 "com/example/tierpath/tierpath/Bounds" "boundaryStart" "[I" (.ref r2) := f478.other W286 (Or.inl ne171)
  have f480 : Fld Z h296 r0 "com/example/tierpath/tierpath/Bounds" "boundaryStart" "[I" (.ref r2) := f479.other W297 (Or.inl ne171)
  have f481 : Fld Z h307 r0 "com/example/tierpath/tierpath/Bounds" "boundaryStart" "[I" (.ref r2) := f480.other W308 (Or.inl ne171)
  have f482 : Fld Z h318 r0 "com/example/tierpath/tierpath/Bounds" "boundaryStart" "[I" (.ref r2) := f481.other W319 (Or.inl ne171)
  have f483 : Fld Z h337 r0 "com/example/tierpath/tierpath/Bounds" "boundaryStart" "[I" (.ref r2) := f482.ext E338
  have f484 : Fld Z h403 r0 "com/example/tierpath/tierpath/Bounds" "boundaryStart" "[I" (.ref r2) := f483.other W404 (Or.inr (slot_ne (Or.inr (hw _ (List.mem_of_getElem? (i := 16) rfl))) (Or.inr (hw _ (List.mem_of_getElem? (i := 34) rfl))) (by decide) (t := (.array .int)) (t' := (.array .int)) (by decide) (by decide)))
  have f485 : Fld Z h413 r0 "com/example/tierpath/tierpath/Bounds" "boundaryStart" "[I" (.ref r2) := f484.keep K416 (ninS ne352 nin0)
  have f486 : Fld Z h424 r0 "com/example/tierpath/tierpath/Bounds" "boundaryStart" "[I" (.ref r2) := f485.keep K427 (ninS ne352 nin0)
  have f487 : Fld Z h435 r0 "com/example/tierpath/tierpath/Bounds" "boundaryStart" "[I" (.ref r2) := f486.keep K438 (ninS ne352 nin0)
  have f488 : Fld Z h105 r0 "com/example/tierpath/tierpath/Bounds" "boundary" "[I" (.ref r3) := F99.other W106 (Or.inr (slot_ne (Or.inr (hw _ (List.mem_of_getElem? (i := 18) rfl))) (Or.inr (hw _ (List.mem_of_getElem? (i := 20) rfl))) (by decide) (t := (.array .int)) (t' := (.array .int)) (by decide) (by decide)))
  have f489 : Fld Z h114 r0 "com/example/tierpath/tierpath/Bounds" "boundary" "[I" (.ref r3) := f488.other W115 (Or.inr (slot_ne (Or.inr (hw _ (List.mem_of_getElem? (i := 18) rfl))) (Or.inr (hw _ (List.mem_of_getElem? (i := 22) rfl))) (by decide) (t := (.array .int)) (t' := (.array .int)) (by decide) (by decide)))
  have f490 : Fld Z h124 r0 "com/example/tierpath/tierpath/Bounds" "boundary" "[I" (.ref r3) := f489.other W125 (Or.inr (slot_ne (Or.inr (hw _ (List.mem_of_getElem? (i := 18) rfl))) (Or.inr (hw _ (List.mem_of_getElem? (i := 24) rfl))) (by decide) (t := (.array .int)) (t' := (.array .int)) (by decide) (by decide)))
  have f491 : Fld Z h135 r0 "com/example/tierpath/tierpath/Bounds" "boundary" "[I" (.ref r3) := f490.other W136 (Or.inr (slot_ne (Or.inr (hw _ (List.mem_of_getElem? (i := 18) rfl))) (Or.inr (hw _ (List.mem_of_getElem? (i := 26) rfl))) (by decide) (t := (.array .int)) (t' := (.array .int)) (by decide) (by decide)))
  have f492 : Fld Z h147 r0 "com/example/tierpath/tierpath/Bounds" "boundary" "[I" (.ref r3) := f491.other W148 (Or.inr (slot_ne (Or.inr (hw _ (List.mem_of_getElem? (i := 18) rfl))) (Or.inr (hw _ (List.mem_of_getElem? (i := 28) rfl))) (by decide) (t := (.array .int)) (t' := (.array .long)) (by decide) (by decide)))
  have f493 : Fld Z h160 r0 "com/example/tierpath/tierpath/Bounds" "boundary" "[I" (.ref r3) := f492.other W161 (Or.inr (slot_ne (Or.inr (hw _ (List.mem_of_getElem? (i := 18) rfl))) (Or.inr (hw _ (List.mem_of_getElem? (i := 30) rfl))) (by decide) (t := (.array .int)) (t' := (.array .long)) (by decide) (by decide)))
  have f494 : Fld Z h165 r0 "com/example/tierpath/tierpath/Bounds" "boundary" "[I" (.ref r3) := f493.ext E166
  have f495 : Fld Z h220 r0 "com/example/tierpath/tierpath/Bounds" "boundary" "[I" (.ref r3) := f494.other W221 (Or.inr (slot_ne (Or.inr (hw _ (List.mem_of_getElem? (i := 18) rfl))) (Or.inr (hw _ (List.mem_of_getElem? (i := 32) rfl))) (by decide) (t := (.array .int)) (t' := (.array .int)) (by decide) (by decide)))
  have f496 : Fld Z h230 r0 "com/example/tierpath/tierpath/Bounds" "boundary" "[I" (.ref r3) := f495.other W231 (Or.inl ne171)
  have f497 : Fld Z h241 r0 "com/example/tierpath/tierpath/Bounds" "boundary" "[I" (.ref r3) := f496.other W242 (Or.inl ne171)
  have f498 : Fld Z h252 r0 "com/example/tierpath/tierpath/Bounds" "boundary" "[I" (.ref r3) := f497.other W253 (Or.inl ne171)
  have f499 : Fld Z h263 r0 "com/example/tierpath/tierpath/Bounds" "boundary" "[I" (.ref r3) := f498.other W264 (Or.inl ne171)
  have f500 : Fld Z h274 r0 "com/example/tierpath/tierpath/Bounds" "boundary" "[I" (.ref r3) := f499.other W275 (Or.inl ne171)
  have f501 : Fld Z h285 r0 "com/example/tierpath/tierpath/Bounds" "boundary" "[I" (.ref r3) := f500.other W286 (Or.inl ne171)
  have f502 : Fld Z h296 r0 "com/example/tierpath/tierpath/Bounds" "boundary" "[I" (.ref r3) := f501.other W297 (Or.inl ne171)
  have f503 : Fld Z h307 r0 "com/example/tierpath/tierpath/Bounds" "boundary" "[I" (.ref r3) := f502.other W308 (Or.inl ne171)
  have f504 : Fld Z h318 r0 "com/example/tierpath/tierpath/Bounds" "boundary" "[I" (.ref r3) := f503.other W319 (Or.inl ne171)
  have f505 : Fld Z h337 r0 "com/example/tierpath/tierpath/Bounds" "boundary" "[I" (.ref r3) := f504.ext E338
  have f506 : Fld Z h403 r0 "com/example/tierpath/tierpath/Bounds" "boundary" "[I" (.ref r3) := f505.other W404 (Or.inr (slot_ne (Or.inr (hw _ (List.mem_of_getElem? (i := 18) rfl))) (Or.inr (hw _ (List.mem_of_getElem? (i := 34) rfl))) (by decide) (t := (.array .int)) (t' := (.array .int)) (by decide) (by decide)))
  have f507 : Fld Z h413 r0 "com/example/tierpath/tierpath/Bounds" "boundary" "[I" (.ref r3) := f506.keep K416 (ninS ne352 nin0)
  have f508 : Fld Z h424 r0 "com/example/tierpath/tierpath/Bounds" "boundary" "[I" (.ref r3) := f507.keep K427 (ninS ne352 nin0)
  have f509 : Fld Z h435 r0 "com/example/tierpath/tierpath/Bounds" "boundary" "[I" (.ref r3) := f508.keep K438 (ninS ne352 nin0)
  have f510 : Fld Z h135 r0 "com/example/tierpath/tierpath/Bounds" "memberStart" "[I" (.ref r6) := F126.other W136 (Or.inr (slot_ne (Or.inr (hw _ (List.mem_of_getElem? (i := 24) rfl))) (Or.inr (hw _ (List.mem_of_getElem? (i := 26) rfl))) (by decide) (t := (.array .int)) (t' := (.array .int)) (by decide) (by decide)))
  have f511 : Fld Z h147 r0 "com/example/tierpath/tierpath/Bounds" "memberStart" "[I" (.ref r6) := f510.other W148 (Or.inr (slot_ne (Or.inr (hw _ (List.mem_of_getElem? (i := 24) rfl))) (Or.inr (hw _ (List.mem_of_getElem? (i := 28) rfl))) (by decide) (t := (.array .int)) (t' := (.array .long)) (by decide) (by decide)))
  have f512 : Fld Z h160 r0 "com/example/tierpath/tierpath/Bounds" "memberStart" "[I" (.ref r6) := f511.other W161 (Or.inr (slot_ne (Or.inr (hw _ (List.mem_of_getElem? (i := 24) rfl))) (Or.inr (hw _ (List.mem_of_getElem? (i := 30) rfl))) (by decide) (t := (.array .int)) (t' := (.array .long)) (by decide) (by decide)))
  have f513 : Fld Z h165 r0 "com/example/tierpath/tierpath/Bounds" "memberStart" "[I" (.ref r6) := f512.ext E166
  have f514 : Fld Z h220 r0 "com/example/tierpath/tierpath/Bounds" "memberStart" "[I" (.ref r6) := f513.other W221 (Or.inr (slot_ne (Or.inr (hw _ (List.mem_of_getElem? (i := 24) rfl))) (Or.inr (hw _ (List.mem_of_getElem? (i := 32) rfl))) (by decide) (t := (.array .int)) (t' := (.array .int)) (by decide) (by decide)))
  have f515 : Fld Z h230 r0 "com/example/tierpath/tierpath/Bounds" "memberStart" "[I" (.ref r6) := f514.other W231 (Or.inl ne171)
  have f516 : Fld Z h241 r0 "com/example/tierpath/tierpath/Bounds" "memberStart" "[I" (.ref r6) := f515.other W242 (Or.inl ne171)
  have f517 : Fld Z h252 r0 "com/example/tierpath/tierpath/Bounds" "memberStart" "[I" (.ref r6) := f516.other W253 (Or.inl ne171)
  have f518 : Fld Z h263 r0 "com/example/tierpath/tierpath/Bounds" "memberStart" "[I" (.ref r6) := f517.other W264 (Or.inl ne171)
  have f519 : Fld Z h274 r0 "com/example/tierpath/tierpath/Bounds" "memberStart" "[I" (.ref r6) := f518.other W275 (Or.inl ne171)
  have f520 : Fld Z h285 r0 "com/example/tierpath/tierpath/Bounds" "memberStart" "[I" (.ref r6) := f519.other W286 (Or.inl ne171)
  have f521 : Fld Z h296 r0 "com/example/tierpath/tierpath/Bounds" "memberStart" "[I" (.ref r6) := f520.other W297 (Or.inl ne171)
  have f522 : Fld Z h307 r0 "com/example/tierpath/tierpath/Bounds" "memberStart" "[I" (.ref r6) := f521.other W308 (Or.inl ne171)
  have f523 : Fld Z h318 r0 "com/example/tierpath/tierpath/Bounds" "memberStart" "[I" (.ref r6) := f522.other W319 (Or.inl ne171)
  have f524 : Fld Z h337 r0 "com/example/tierpath/tierpath/Bounds" "memberStart" "[I" (.ref r6) := f523.ext E338
  have f525 : Fld Z h403 r0 "com/example/tierpath/tierpath/Bounds" "memberStart" "[I" (.ref r6) := f524.other W404 (Or.inr (slot_ne (Or.inr (hw _ (List.mem_of_getElem? (i := 24) rfl))) (Or.inr (hw _ (List.mem_of_getElem? (i := 34) rfl))) (by decide) (t := (.array .int)) (t' := (.array .int)) (by decide) (by decide)))
  have f526 : Fld Z h413 r0 "com/example/tierpath/tierpath/Bounds" "memberStart" "[I" (.ref r6) := f525.keep K416 (ninS ne352 nin0)
  have f527 : Fld Z h424 r0 "com/example/tierpath/tierpath/Bounds" "memberStart" "[I" (.ref r6) := f526.keep K427 (ninS ne352 nin0)
  have f528 : Fld Z h435 r0 "com/example/tierpath/tierpath/Bounds" "memberStart" "[I" (.ref r6) := f527.keep K438 (ninS ne352 nin0)
  have f529 : Fld Z h147 r0 "com/example/tierpath/tierpath/Bounds" "members" "[I" (.ref r7) := F137.other W148 (Or.inr (slot_ne (Or.inr (hw _ (List.mem_of_getElem? (i := 26) rfl))) (Or.inr (hw _ (List.mem_of_getElem? (i := 28) rfl))) (by decide) (t := (.array .int)) (t' := (.array .long)) (by decide) (by decide)))
  have f530 : Fld Z h160 r0 "com/example/tierpath/tierpath/Bounds" "members" "[I" (.ref r7) := f529.other W161 (Or.inr (slot_ne (Or.inr (hw _ (List.mem_of_getElem? (i := 26) rfl))) (Or.inr (hw _ (List.mem_of_getElem? (i := 30) rfl))) (by decide) (t := (.array .int)) (t' := (.array .long)) (by decide) (by decide)))
  have f531 : Fld Z h165 r0 "com/example/tierpath/tierpath/Bounds" "members" "[I" (.ref r7) := f530.ext E166
  have f532 : Fld Z h220 r0 "com/example/tierpath/tierpath/Bounds" "members" "[I" (.ref r7) := f531.other W221 (Or.inr (slot_ne (Or.inr (hw _ (List.mem_of_getElem? (i := 26) rfl))) (Or.inr (hw _ (List.mem_of_getElem? (i := 32) rfl))) (by decide) (t := (.array .int)) (t' := (.array .int)) (by decide) (by decide)))
  have f533 : Fld Z h230 r0 "com/example/tierpath/tierpath/Bounds" "members" "[I" (.ref r7) := f532.other W231 (Or.inl ne171)
  have f534 : Fld Z h241 r0 "com/example/tierpath/tierpath/Bounds" "members" "[I" (.ref r7) := f533.other W242 (Or.inl ne171)
  have f535 : Fld Z h252 r0 "com/example/tierpath/tierpath/Bounds" "members" "[I" (.ref r7) := f534.other W253 (Or.inl ne171)
  have f536 : Fld Z h263 r0 "com/example/tierpath/tierpath/Bounds" "members" "[I" (.ref r7) := f535.other W264 (Or.inl ne171)
  have f537 : Fld Z h274 r0 "com/example/tierpath/tierpath/Bounds" "members" "[I" (.ref r7) := f536.other W275 (Or.inl ne171)
  have f538 : Fld Z h285 r0 "com/example/tierpath/tierpath/Bounds" "members" "[I" (.ref r7) := f537.other W286 (Or.inl ne171)
  have f539 : Fld Z h296 r0 "com/example/tierpath/tierpath/Bounds" "members" "[I" (.ref r7) := f538.other W297 (Or.inl ne171)
  have f540 : Fld Z h307 r0 "com/example/tierpath/tierpath/Bounds" "members" "[I" (.ref r7) := f539.other W308 (Or.inl ne171)
  have f541 : Fld Z h318 r0 "com/example/tierpath/tierpath/Bounds" "members" "[I" (.ref r7) := f540.other W319 (Or.inl ne171)
  have f542 : Fld Z h337 r0 "com/example/tierpath/tierpath/Bounds" "members" "[I" (.ref r7) := f541.ext E338
  have f543 : Fld Z h403 r0 "com/example/tierpath/tierpath/Bounds" "members" "[I" (.ref r7) := f542.other W404 (Or.inr (slot_ne (Or.inr (hw _ (List.mem_of_getElem? (i := 26) rfl))) (Or.inr (hw _ (List.mem_of_getElem? (i := 34) rfl))) (by decide) (t := (.array .int)) (t' := (.array .int)) (by decide) (by decide)))
  have f544 : Fld Z h413 r0 "com/example/tierpath/tierpath/Bounds" "members" "[I" (.ref r7) := f543.keep K416 (ninS ne352 nin0)
  have f545 : Fld Z h424 r0 "com/example/tierpath/tierpath/Bounds" "members" "[I" (.ref r7) := f544.keep K427 (ninS ne352 nin0)
  have f546 : Fld Z h435 r0 "com/example/tierpath/tierpath/Bounds" "members" "[I" (.ref r7) := f545.keep K438 (ninS ne352 nin0)
  have f547 : Fld Z h435 r0 "com/example/tierpath/tierpath/Bounds" "setLeaf" "[I" (.ref b340) := f430.keep K438 (ninS ne352 nin0)
  refine own_retV Y434 hx hlk hret (hb hby own_d2_137) (by decide) (by decide) ?_
  exact ⟨_, rfl, K464, f487, f509, f528, f546, f547, F439⟩
theorem own_d6_0 : decode prog_19_method_14_code 0 = .ok (.aload_n 0, 1) := by decide +kernel
theorem own_d6_1 : decode prog_19_method_14_code 1 = .ok (.getfield 15, 3) := by decide +kernel
theorem own_d6_4 : decode prog_19_method_14_code 4 = .ok (.aload_n 0, 1) := by decide +kernel
theorem own_d6_5 : decode prog_19_method_14_code 5 = .ok (.getfield 9, 3) := by decide +kernel
theorem own_d6_8 : decode prog_19_method_14_code 8 = .ok (.aload_n 0, 1) := by decide +kernel
theorem own_d6_9 : decode prog_19_method_14_code 9 = .ok (.getfield 40, 3) := by decide +kernel
theorem own_d6_12 : decode prog_19_method_14_code 12 = .ok (.iload_n 1, 1) := by decide +kernel
theorem own_d6_13 : decode prog_19_method_14_code 13 = .ok (.iaload, 1) := by decide +kernel
theorem own_d6_14 : decode prog_19_method_14_code 14 = .ok (.iaload, 1) := by decide +kernel
theorem own_d6_15 : decode prog_19_method_14_code 15 = .ok (.aload_n 0, 1) := by decide +kernel
theorem own_d6_16 : decode prog_19_method_14_code 16 = .ok (.getfield 27, 3) := by decide +kernel
theorem own_d6_19 : decode prog_19_method_14_code 19 = .ok (.aload_n 0, 1) := by decide +kernel
theorem own_d6_20 : decode prog_19_method_14_code 20 = .ok (.getfield 24, 3) := by decide +kernel
theorem own_d6_23 : decode prog_19_method_14_code 23 = .ok (.iload_n 1, 1) := by decide +kernel
theorem own_d6_24 : decode prog_19_method_14_code 24 = .ok (.iaload, 1) := by decide +kernel
theorem own_d6_25 : decode prog_19_method_14_code 25 = .ok (.iload_n 2, 1) := by decide +kernel
theorem own_d6_26 : decode prog_19_method_14_code 26 = .ok (.iadd, 1) := by decide +kernel
theorem own_d6_27 : decode prog_19_method_14_code 27 = .ok (.iaload, 1) := by decide +kernel
theorem own_d6_28 : decode prog_19_method_14_code 28 = .ok (.iadd, 1) := by decide +kernel
theorem own_d6_29 : decode prog_19_method_14_code 29 = .ok (.iaload, 1) := by decide +kernel
theorem own_d6_30 : decode prog_19_method_14_code 30 = .ok (.ireturn, 1) := by decide +kernel
theorem own_ef_own_rm6_0 (m : MethodId) (r0 : Addr) (x2 : Int32) : entryFrame m #[(.ref r0), (.int (0 : Int32)), (.int x2)] 3 = mkF m 0 #[.val (.ref r0), .val (.int (0 : Int32)), .val (.int x2)] [] := by first | (simp [entryFrame, mkF, argsToLocals, Value.category]; done) | rfl
def own_Q_own_rm6_0 (Z : State) (ids : List Int32) (j : Nat) (h0 : Heap) (n0 : Nat) (v : Option Value) (h : Heap) : Prop := v = some (.int (own_g ids (0 + j))) ∧ h0 = h
set_option maxRecDepth 65536 in
set_option maxHeartbeats 40000000 in
theorem own_rm6_0 (l : Launch) (Z : State) (a0 : Array Value) (hw : ∀ d ∈ tables_1, d.before a0 Z = true) (ws : List Jvm.Cond) (r0 : Addr) (x2 : Int32) (rb rs rl rm rn : Addr) (ids us : List Int32) (e0 e1 e2 e3 e4 : Int32) (q j : Nat) (h0 : Heap) (n0 : Nat)  (FB : Fld Z h0 r0 "com/example/tierpath/tierpath/Bounds" "boundary" "[I" (.ref rb)) (FS : Fld Z h0 r0 "com/example/tierpath/tierpath/Bounds" "boundaryStart" "[I" (.ref rs)) (FL : Fld Z h0 r0 "com/example/tierpath/tierpath/Bounds" "setLeaf" "[I" (.ref rl)) (FM : Fld Z h0 r0 "com/example/tierpath/tierpath/Bounds" "members" "[I" (.ref rm)) (FN : Fld Z h0 r0 "com/example/tierpath/tierpath/Bounds" "memberStart" "[I" (.ref rn)) (AB : own_A Z h0 rb .int (ids.map Value.int)) (AS : own_A Z h0 rs .int [(.int 0), (.int 3), (.int 6), (.int 9)]) (AL : own_A Z h0 rl .int [(.int 0), (.int 1), (.int 1), (.int 2)]) (AM : own_A Z h0 rm .int (us.map Value.int)) (AN : own_A Z h0 rn .int [(.int e0), (.int e1), (.int e2), (.int e3), (.int e4)]) (hq : (e0 + x2).toInt = (q : Int)) (hql : q < us.length) (hj : (own_g us q).toInt = (j : Int)) (hj2 : j ≤ 2) (hids : ids.length = 9) :
    own_Con l Z (⟨"com/example/tierpath/tierpath/Bounds", "member", "(II)I"⟩ : MethodName) prog_19_method_14_code 3 (some .int) ws ({ frames := 0, cells := 0, slots := 0, locals := 0 } : Room) #[(.ref r0), (.int (0 : Int32)), (.int x2)] h0 n0 (own_Q_own_rm6_0 Z ids j h0 n0) := by
  refine own_body (plainFor_of_name own_pn2) ?_
  intro p e s m below meth c T0 hx hZ hby hml hown hnm hret hlk Y0
  replace hown : s.vm.findClass "com/example/tierpath/tierpath/Bounds" = some m.cls := hown
  replace hnm : meth.name = "member" := hnm
  rw [own_ef_own_rm6_0 m r0 x2]
  show own_Ends _ _ _ _ (T0.setTop (mkF m 0 #[.val (.ref r0), .val (.int (0 : Int32)), .val (.int x2)] []))
  refine own_st (fun t_ => XS.aloadN (own_here Y0) hx rfl (hb hby own_d6_0) rfl rfl) ?_
  show own_Ends _ _ _ _ (T0.setTop (mkF m 1 #[.val (.ref r0), .val (.int (0 : Int32)), .val (.int x2)] [(.ref r0)]))
  refine own_getF Y0 hx hZ hown (host := "") (Or.inl (hw _ (List.mem_of_getElem? (i := 17) rfl))) Via.refl FB rfl rfl (hb hby own_d6_1) (fun T548 Y549 => ?_)
  show own_Ends _ _ _ _ (T548.setTop (mkF m 4 #[.val (.ref r0), .val (.int (0 : Int32)), .val (.int x2)] [(.ref rb)]))
  refine own_st (fun t_ => XS.aloadN (own_here Y549) hx rfl (hb hby own_d6_4) rfl rfl) ?_
  show own_Ends _ _ _ _ (T548.setTop (mkF m 5 #[.val (.ref r0), .val (.int (0 : Int32)), .val (.int x2)] [(.ref r0), (.ref rb)]))
  refine own_getF Y549 hx hZ hown (host := "") (Or.inl (hw _ (List.mem_of_getElem? (i := 15) rfl))) Via.refl FS rfl rfl (hb hby own_d6_5) (fun T550 Y551 => ?_)
  show own_Ends _ _ _ _ (T550.setTop (mkF m 8 #[.val (.ref r0), .val (.int (0 : Int32)), .val (.int x2)] [(.ref rs), (.ref rb)]))
  refine own_st (fun t_ => XS.aloadN (own_here Y551) hx rfl (hb hby own_d6_8) rfl rfl) ?_
  show own_Ends _ _ _ _ (T550.setTop (mkF m 9 #[.val (.ref r0), .val (.int (0 : Int32)), .val (.int x2)] [(.ref r0), (.ref rs), (.ref rb)]))
  refine own_getF Y551 hx hZ hown (host := "") (Or.inl (hw _ (List.mem_of_getElem? (i := 33) rfl))) Via.refl FL rfl rfl (hb hby own_d6_9) (fun T552 Y553 => ?_)
  show own_Ends _ _ _ _ (T552.setTop (mkF m 12 #[.val (.ref r0), .val (.int (0 : Int32)), .val (.int x2)] [(.ref rl), (.ref rs), (.ref rb)]))
  refine own_st (fun t_ => XS.iloadN (own_here Y553) hx rfl (hb hby own_d6_12) rfl) ?_
  show own_Ends _ _ _ _ (T552.setTop (mkF m 13 #[.val (.ref r0), .val (.int (0 : Int32)), .val (.int x2)] [(.int (0 : Int32)), (.ref rl), (.ref rs), (.ref rb)]))
  refine own_ldI Y553 hx hZ AL (i := 0) (by decide) (by decide) (Nat.le_of_ble_eq_true rfl) (v := (.int (0 : Int32))) rfl rfl rfl (hb hby own_d6_13) ?_
  show own_Ends _ _ _ _ (T552.setTop (mkF m 14 #[.val (.ref r0), .val (.int (0 : Int32)), .val (.int x2)] [(.int (0 : Int32)), (.ref rs), (.ref rb)]))
  refine own_ldI Y553 hx hZ AS (i := 0) (by decide) (by decide) (Nat.le_of_ble_eq_true rfl) (v := (.int (0 : Int32))) rfl rfl rfl (hb hby own_d6_14) ?_
  show own_Ends _ _ _ _ (T552.setTop (mkF m 15 #[.val (.ref r0), .val (.int (0 : Int32)), .val (.int x2)] [(.int (0 : Int32)), (.ref rb)]))
  refine own_st (fun t_ => XS.aloadN (own_here Y553) hx rfl (hb hby own_d6_15) rfl rfl) ?_
  show own_Ends _ _ _ _ (T552.setTop (mkF m 16 #[.val (.ref r0), .val (.int (0 : Int32)), .val (.int x2)] [(.ref r0), (.int (0 : Int32)), (.ref rb)]))
  refine own_getF Y553 hx hZ hown (host := "") (Or.inl (hw _ (List.mem_of_getElem? (i := 25) rfl))) Via.refl FM rfl rfl (hb hby own_d6_16) (fun T554 Y555 => ?_)
  show own_Ends _ _ _ _ (T554.setTop (mkF m 19 #[.val (.ref r0), .val (.int (0 : Int32)), .val (.int x2)] [(.ref rm), (.int (0 : Int32)), (.ref rb)]))
  refine own_st (fun t_ => XS.aloadN (own_here Y555) hx rfl (hb hby own_d6_19) rfl rfl) ?_
  show own_Ends _ _ _ _ (T554.setTop (mkF m 20 #[.val (.ref r0), .val (.int (0 : Int32)), .val (.int x2)] [(.ref r0), (.ref rm), (.int (0 : Int32)), (.ref rb)]))
  refine own_getF Y555 hx hZ hown (host := "") (Or.inl (hw _ (List.mem_of_getElem? (i := 23) rfl))) Via.refl FN rfl rfl (hb hby own_d6_20) (fun T556 Y557 => ?_)
  show own_Ends _ _ _ _ (T556.setTop (mkF m 23 #[.val (.ref r0), .val (.int (0 : Int32)), .val (.int x2)] [(.ref rn), (.ref rm), (.int (0 : Int32)), (.ref rb)]))
  refine own_st (fun t_ => XS.iloadN (own_here Y557) hx rfl (hb hby own_d6_23) rfl) ?_
  show own_Ends _ _ _ _ (T556.setTop (mkF m 24 #[.val (.ref r0), .val (.int (0 : Int32)), .val (.int x2)] [(.int (0 : Int32)), (.ref rn), (.ref rm), (.int (0 : Int32)), (.ref rb)]))
  refine own_ldI Y557 hx hZ AN (i := 0) (by decide) (by decide) (Nat.le_of_ble_eq_true rfl) (v := (.int e0)) rfl rfl rfl (hb hby own_d6_24) ?_
  show own_Ends _ _ _ _ (T556.setTop (mkF m 25 #[.val (.ref r0), .val (.int (0 : Int32)), .val (.int x2)] [(.int e0), (.ref rm), (.int (0 : Int32)), (.ref rb)]))
  refine own_st (fun t_ => XS.iloadN (own_here Y557) hx rfl (hb hby own_d6_25) rfl) ?_
  show own_Ends _ _ _ _ (T556.setTop (mkF m 26 #[.val (.ref r0), .val (.int (0 : Int32)), .val (.int x2)] [(.int x2), (.int e0), (.ref rm), (.int (0 : Int32)), (.ref rb)]))
  refine own_st (fun t_ => XS.iadd (own_here Y557) hx rfl (hb hby own_d6_26) rfl) ?_
  show own_Ends _ _ _ _ (T556.setTop (mkF m 27 #[.val (.ref r0), .val (.int (0 : Int32)), .val (.int x2)] [(.int (e0 + x2)), (.ref rm), (.int (0 : Int32)), (.ref rb)]))
  obtain ⟨q0, q1⟩ := own_nat hq
  refine own_ldI Y557 hx hZ AM (i := q) q0 q1 (own_mlen hql) (v := (.int (own_g us q))) (own_mget (own_mlen hql)) rfl rfl (hb hby own_d6_27) ?_
  show own_Ends _ _ _ _ (T556.setTop (mkF m 28 #[.val (.ref r0), .val (.int (0 : Int32)), .val (.int x2)] [(.int (own_g us q)), (.int (0 : Int32)), (.ref rb)]))
  refine own_st (fun t_ => XS.iadd (own_here Y557) hx rfl (hb hby own_d6_28) rfl) ?_
  show own_Ends _ _ _ _ (T556.setTop (mkF m 29 #[.val (.ref r0), .val (.int (0 : Int32)), .val (.int x2)] [(.int ((0 : Int32) + (own_g us q))), (.ref rb)]))
  obtain ⟨b0, b1⟩ := own_nat (own_add own_l0 hj (by omega))
  refine own_ldI Y557 hx hZ AB (i := (0 + j)) b0 b1 (own_mlen (by omega)) (v := (.int (own_g ids (0 + j)))) (own_mget (own_mlen (by omega))) rfl rfl (hb hby own_d6_29) ?_
  show own_Ends _ _ _ _ (T556.setTop (mkF m 30 #[.val (.ref r0), .val (.int (0 : Int32)), .val (.int x2)] [(.int (own_g ids (0 + j)))]))
  refine own_retI Y557 hx hlk hret (hb hby own_d6_30) (by decide) (by decide) ?_
  exact ⟨rfl, rfl⟩
theorem own_ef_own_rm6_1 (m : MethodId) (r0 : Addr) (x2 : Int32) : entryFrame m #[(.ref r0), (.int (1 : Int32)), (.int x2)] 3 = mkF m 0 #[.val (.ref r0), .val (.int (1 : Int32)), .val (.int x2)] [] := by first | (simp [entryFrame, mkF, argsToLocals, Value.category]; done) | rfl
def own_Q_own_rm6_1 (Z : State) (ids : List Int32) (j : Nat) (h0 : Heap) (n0 : Nat) (v : Option Value) (h : Heap) : Prop := v = some (.int (own_g ids (3 + j))) ∧ h0 = h
set_option maxRecDepth 65536 in
set_option maxHeartbeats 40000000 in
theorem own_rm6_1 (l : Launch) (Z : State) (a0 : Array Value) (hw : ∀ d ∈ tables_1, d.before a0 Z = true) (ws : List Jvm.Cond) (r0 : Addr) (x2 : Int32) (rb rs rl rm rn : Addr) (ids us : List Int32) (e0 e1 e2 e3 e4 : Int32) (q j : Nat) (h0 : Heap) (n0 : Nat)  (FB : Fld Z h0 r0 "com/example/tierpath/tierpath/Bounds" "boundary" "[I" (.ref rb)) (FS : Fld Z h0 r0 "com/example/tierpath/tierpath/Bounds" "boundaryStart" "[I" (.ref rs)) (FL : Fld Z h0 r0 "com/example/tierpath/tierpath/Bounds" "setLeaf" "[I" (.ref rl)) (FM : Fld Z h0 r0 "com/example/tierpath/tierpath/Bounds" "members" "[I" (.ref rm)) (FN : Fld Z h0 r0 "com/example/tierpath/tierpath/Bounds" "memberStart" "[I" (.ref rn)) (AB : own_A Z h0 rb .int (ids.map Value.int)) (AS : own_A Z h0 rs .int [(.int 0), (.int 3), (.int 6), (.int 9)]) (AL : own_A Z h0 rl .int [(.int 0), (.int 1), (.int 1), (.int 2)]) (AM : own_A Z h0 rm .int (us.map Value.int)) (AN : own_A Z h0 rn .int [(.int e0), (.int e1), (.int e2), (.int e3), (.int e4)]) (hq : (e1 + x2).toInt = (q : Int)) (hql : q < us.length) (hj : (own_g us q).toInt = (j : Int)) (hj2 : j ≤ 2) (hids : ids.length = 9) :
    own_Con l Z (⟨"com/example/tierpath/tierpath/Bounds", "member", "(II)I"⟩ : MethodName) prog_19_method_14_code 3 (some .int) ws ({ frames := 0, cells := 0, slots := 0, locals := 0 } : Room) #[(.ref r0), (.int (1 : Int32)), (.int x2)] h0 n0 (own_Q_own_rm6_1 Z ids j h0 n0) := by
  refine own_body (plainFor_of_name own_pn2) ?_
  intro p e s m below meth c T0 hx hZ hby hml hown hnm hret hlk Y0
  replace hown : s.vm.findClass "com/example/tierpath/tierpath/Bounds" = some m.cls := hown
  replace hnm : meth.name = "member" := hnm
  rw [own_ef_own_rm6_1 m r0 x2]
  show own_Ends _ _ _ _ (T0.setTop (mkF m 0 #[.val (.ref r0), .val (.int (1 : Int32)), .val (.int x2)] []))
  refine own_st (fun t_ => XS.aloadN (own_here Y0) hx rfl (hb hby own_d6_0) rfl rfl) ?_
  show own_Ends _ _ _ _ (T0.setTop (mkF m 1 #[.val (.ref r0), .val (.int (1 : Int32)), .val (.int x2)] [(.ref r0)]))
  refine own_getF Y0 hx hZ hown (host := "") (Or.inl (hw _ (List.mem_of_getElem? (i := 17) rfl))) Via.refl FB rfl rfl (hb hby own_d6_1) (fun T558 Y559 => ?_)
  show own_Ends _ _ _ _ (T558.setTop (mkF m 4 #[.val (.ref r0), .val (.int (1 : Int32)), .val (.int x2)] [(.ref rb)]))
  refine own_st (fun t_ => XS.aloadN (own_here Y559) hx rfl (hb hby own_d6_4) rfl rfl) ?_
  show own_Ends _ _ _ _ (T558.setTop (mkF m 5 #[.val (.ref r0), .val (.int (1 : Int32)), .val (.int x2)] [(.ref r0), (.ref rb)]))
  refine own_getF Y559 hx hZ hown (host := "") (Or.inl (hw _ (List.mem_of_getElem? (i := 15) rfl))) Via.refl FS rfl rfl (hb hby own_d6_5) (fun T560 Y561 => ?_)
  show own_Ends _ _ _ _ (T560.setTop (mkF m 8 #[.val (.ref r0), .val (.int (1 : Int32)), .val (.int x2)] [(.ref rs), (.ref rb)]))
  refine own_st (fun t_ => XS.aloadN (own_here Y561) hx rfl (hb hby own_d6_8) rfl rfl) ?_
  show own_Ends _ _ _ _ (T560.setTop (mkF m 9 #[.val (.ref r0), .val (.int (1 : Int32)), .val (.int x2)] [(.ref r0), (.ref rs), (.ref rb)]))
  refine own_getF Y561 hx hZ hown (host := "") (Or.inl (hw _ (List.mem_of_getElem? (i := 33) rfl))) Via.refl FL rfl rfl (hb hby own_d6_9) (fun T562 Y563 => ?_)
  show own_Ends _ _ _ _ (T562.setTop (mkF m 12 #[.val (.ref r0), .val (.int (1 : Int32)), .val (.int x2)] [(.ref rl), (.ref rs), (.ref rb)]))
  refine own_st (fun t_ => XS.iloadN (own_here Y563) hx rfl (hb hby own_d6_12) rfl) ?_
  show own_Ends _ _ _ _ (T562.setTop (mkF m 13 #[.val (.ref r0), .val (.int (1 : Int32)), .val (.int x2)] [(.int (1 : Int32)), (.ref rl), (.ref rs), (.ref rb)]))
  refine own_ldI Y563 hx hZ AL (i := 1) (by decide) (by decide) (Nat.le_of_ble_eq_true rfl) (v := (.int (1 : Int32))) rfl rfl rfl (hb hby own_d6_13) ?_
  show own_Ends _ _ _ _ (T562.setTop (mkF m 14 #[.val (.ref r0), .val (.int (1 : Int32)), .val (.int x2)] [(.int (1 : Int32)), (.ref rs), (.ref rb)]))
  refine own_ldI Y563 hx hZ AS (i := 1) (by decide) (by decide) (Nat.le_of_ble_eq_true rfl) (v := (.int (3 : Int32))) rfl rfl rfl (hb hby own_d6_14) ?_
  show own_Ends _ _ _ _ (T562.setTop (mkF m 15 #[.val (.ref r0), .val (.int (1 : Int32)), .val (.int x2)] [(.int (3 : Int32)), (.ref rb)]))
  refine own_st (fun t_ => XS.aloadN (own_here Y563) hx rfl (hb hby own_d6_15) rfl rfl) ?_
  show own_Ends _ _ _ _ (T562.setTop (mkF m 16 #[.val (.ref r0), .val (.int (1 : Int32)), .val (.int x2)] [(.ref r0), (.int (3 : Int32)), (.ref rb)]))
  refine own_getF Y563 hx hZ hown (host := "") (Or.inl (hw _ (List.mem_of_getElem? (i := 25) rfl))) Via.refl FM rfl rfl (hb hby own_d6_16) (fun T564 Y565 => ?_)
  show own_Ends _ _ _ _ (T564.setTop (mkF m 19 #[.val (.ref r0), .val (.int (1 : Int32)), .val (.int x2)] [(.ref rm), (.int (3 : Int32)), (.ref rb)]))
  refine own_st (fun t_ => XS.aloadN (own_here Y565) hx rfl (hb hby own_d6_19) rfl rfl) ?_
  show own_Ends _ _ _ _ (T564.setTop (mkF m 20 #[.val (.ref r0), .val (.int (1 : Int32)), .val (.int x2)] [(.ref r0), (.ref rm), (.int (3 : Int32)), (.ref rb)]))
  refine own_getF Y565 hx hZ hown (host := "") (Or.inl (hw _ (List.mem_of_getElem? (i := 23) rfl))) Via.refl FN rfl rfl (hb hby own_d6_20) (fun T566 Y567 => ?_)
  show own_Ends _ _ _ _ (T566.setTop (mkF m 23 #[.val (.ref r0), .val (.int (1 : Int32)), .val (.int x2)] [(.ref rn), (.ref rm), (.int (3 : Int32)), (.ref rb)]))
  refine own_st (fun t_ => XS.iloadN (own_here Y567) hx rfl (hb hby own_d6_23) rfl) ?_
  show own_Ends _ _ _ _ (T566.setTop (mkF m 24 #[.val (.ref r0), .val (.int (1 : Int32)), .val (.int x2)] [(.int (1 : Int32)), (.ref rn), (.ref rm), (.int (3 : Int32)), (.ref rb)]))
  refine own_ldI Y567 hx hZ AN (i := 1) (by decide) (by decide) (Nat.le_of_ble_eq_true rfl) (v := (.int e1)) rfl rfl rfl (hb hby own_d6_24) ?_
  show own_Ends _ _ _ _ (T566.setTop (mkF m 25 #[.val (.ref r0), .val (.int (1 : Int32)), .val (.int x2)] [(.int e1), (.ref rm), (.int (3 : Int32)), (.ref rb)]))
  refine own_st (fun t_ => XS.iloadN (own_here Y567) hx rfl (hb hby own_d6_25) rfl) ?_
  show own_Ends _ _ _ _ (T566.setTop (mkF m 26 #[.val (.ref r0), .val (.int (1 : Int32)), .val (.int x2)] [(.int x2), (.int e1), (.ref rm), (.int (3 : Int32)), (.ref rb)]))
  refine own_st (fun t_ => XS.iadd (own_here Y567) hx rfl (hb hby own_d6_26) rfl) ?_
  show own_Ends _ _ _ _ (T566.setTop (mkF m 27 #[.val (.ref r0), .val (.int (1 : Int32)), .val (.int x2)] [(.int (e1 + x2)), (.ref rm), (.int (3 : Int32)), (.ref rb)]))
  obtain ⟨q0, q1⟩ := own_nat hq
  refine own_ldI Y567 hx hZ AM (i := q) q0 q1 (own_mlen hql) (v := (.int (own_g us q))) (own_mget (own_mlen hql)) rfl rfl (hb hby own_d6_27) ?_
  show own_Ends _ _ _ _ (T566.setTop (mkF m 28 #[.val (.ref r0), .val (.int (1 : Int32)), .val (.int x2)] [(.int (own_g us q)), (.int (3 : Int32)), (.ref rb)]))
  refine own_st (fun t_ => XS.iadd (own_here Y567) hx rfl (hb hby own_d6_28) rfl) ?_
  show own_Ends _ _ _ _ (T566.setTop (mkF m 29 #[.val (.ref r0), .val (.int (1 : Int32)), .val (.int x2)] [(.int ((3 : Int32) + (own_g us q))), (.ref rb)]))
  obtain ⟨b0, b1⟩ := own_nat (own_add own_l3 hj (by omega))
  refine own_ldI Y567 hx hZ AB (i := (3 + j)) b0 b1 (own_mlen (by omega)) (v := (.int (own_g ids (3 + j)))) (own_mget (own_mlen (by omega))) rfl rfl (hb hby own_d6_29) ?_
  show own_Ends _ _ _ _ (T566.setTop (mkF m 30 #[.val (.ref r0), .val (.int (1 : Int32)), .val (.int x2)] [(.int (own_g ids (3 + j)))]))
  refine own_retI Y567 hx hlk hret (hb hby own_d6_30) (by decide) (by decide) ?_
  exact ⟨rfl, rfl⟩
theorem own_ef_own_rm6_2 (m : MethodId) (r0 : Addr) (x2 : Int32) : entryFrame m #[(.ref r0), (.int (2 : Int32)), (.int x2)] 3 = mkF m 0 #[.val (.ref r0), .val (.int (2 : Int32)), .val (.int x2)] [] := by first | (simp [entryFrame, mkF, argsToLocals, Value.category]; done) | rfl
def own_Q_own_rm6_2 (Z : State) (ids : List Int32) (j : Nat) (h0 : Heap) (n0 : Nat) (v : Option Value) (h : Heap) : Prop := v = some (.int (own_g ids (3 + j))) ∧ h0 = h
set_option maxRecDepth 65536 in
set_option maxHeartbeats 40000000 in
theorem own_rm6_2 (l : Launch) (Z : State) (a0 : Array Value) (hw : ∀ d ∈ tables_1, d.before a0 Z = true) (ws : List Jvm.Cond) (r0 : Addr) (x2 : Int32) (rb rs rl rm rn : Addr) (ids us : List Int32) (e0 e1 e2 e3 e4 : Int32) (q j : Nat) (h0 : Heap) (n0 : Nat)  (FB : Fld Z h0 r0 "com/example/tierpath/tierpath/Bounds" "boundary" "[I" (.ref rb)) (FS : Fld Z h0 r0 "com/example/tierpath/tierpath/Bounds" "boundaryStart" "[I" (.ref rs)) (FL : Fld Z h0 r0 "com/example/tierpath/tierpath/Bounds" "setLeaf" "[I" (.ref rl)) (FM : Fld Z h0 r0 "com/example/tierpath/tierpath/Bounds" "members" "[I" (.ref rm)) (FN : Fld Z h0 r0 "com/example/tierpath/tierpath/Bounds" "memberStart" "[I" (.ref rn)) (AB : own_A Z h0 rb .int (ids.map Value.int)) (AS : own_A Z h0 rs .int [(.int 0), (.int 3), (.int 6), (.int 9)]) (AL : own_A Z h0 rl .int [(.int 0), (.int 1), (.int 1), (.int 2)]) (AM : own_A Z h0 rm .int (us.map Value.int)) (AN : own_A Z h0 rn .int [(.int e0), (.int e1), (.int e2), (.int e3), (.int e4)]) (hq : (e2 + x2).toInt = (q : Int)) (hql : q < us.length) (hj : (own_g us q).toInt = (j : Int)) (hj2 : j ≤ 2) (hids : ids.length = 9) :
    own_Con l Z (⟨"com/example/tierpath/tierpath/Bounds", "member", "(II)I"⟩ : MethodName) prog_19_method_14_code 3 (some .int) ws ({ frames := 0, cells := 0, slots := 0, locals := 0 } : Room) #[(.ref r0), (.int (2 : Int32)), (.int x2)] h0 n0 (own_Q_own_rm6_2 Z ids j h0 n0) := by
  refine own_body (plainFor_of_name own_pn2) ?_
  intro p e s m below meth c T0 hx hZ hby hml hown hnm hret hlk Y0
  replace hown : s.vm.findClass "com/example/tierpath/tierpath/Bounds" = some m.cls := hown
  replace hnm : meth.name = "member" := hnm
  rw [own_ef_own_rm6_2 m r0 x2]
  show own_Ends _ _ _ _ (T0.setTop (mkF m 0 #[.val (.ref r0), .val (.int (2 : Int32)), .val (.int x2)] []))
  refine own_st (fun t_ => XS.aloadN (own_here Y0) hx rfl (hb hby own_d6_0) rfl rfl) ?_
  show own_Ends _ _ _ _ (T0.setTop (mkF m 1 #[.val (.ref r0), .val (.int (2 : Int32)), .val (.int x2)] [(.ref r0)]))
  refine own_getF Y0 hx hZ hown (host := "") (Or.inl (hw _ (List.mem_of_getElem? (i := 17) rfl))) Via.refl FB rfl rfl (hb hby own_d6_1) (fun T568 Y569 => ?_)
  show own_Ends _ _ _ _ (T568.setTop (mkF m 4 #[.val (.ref r0), .val (.int (2 : Int32)), .val (.int x2)] [(.ref rb)]))
  refine own_st (fun t_ => XS.aloadN (own_here Y569) hx rfl (hb hby own_d6_4) rfl rfl) ?_
  show own_Ends _ _ _ _ (T568.setTop (mkF m 5 #[.val (.ref r0), .val (.int (2 : Int32)), .val (.int x2)] [(.ref r0), (.ref rb)]))
  refine own_getF Y569 hx hZ hown (host := "") (Or.inl (hw _ (List.mem_of_getElem? (i := 15) rfl))) Via.refl FS rfl rfl (hb hby own_d6_5) (fun T570 Y571 => ?_)
  show own_Ends _ _ _ _ (T570.setTop (mkF m 8 #[.val (.ref r0), .val (.int (2 : Int32)), .val (.int x2)] [(.ref rs), (.ref rb)]))
  refine own_st (fun t_ => XS.aloadN (own_here Y571) hx rfl (hb hby own_d6_8) rfl rfl) ?_
  show own_Ends _ _ _ _ (T570.setTop (mkF m 9 #[.val (.ref r0), .val (.int (2 : Int32)), .val (.int x2)] [(.ref r0), (.ref rs), (.ref rb)]))
  refine own_getF Y571 hx hZ hown (host := "") (Or.inl (hw _ (List.mem_of_getElem? (i := 33) rfl))) Via.refl FL rfl rfl (hb hby own_d6_9) (fun T572 Y573 => ?_)
  show own_Ends _ _ _ _ (T572.setTop (mkF m 12 #[.val (.ref r0), .val (.int (2 : Int32)), .val (.int x2)] [(.ref rl), (.ref rs), (.ref rb)]))
  refine own_st (fun t_ => XS.iloadN (own_here Y573) hx rfl (hb hby own_d6_12) rfl) ?_
  show own_Ends _ _ _ _ (T572.setTop (mkF m 13 #[.val (.ref r0), .val (.int (2 : Int32)), .val (.int x2)] [(.int (2 : Int32)), (.ref rl), (.ref rs), (.ref rb)]))
  refine own_ldI Y573 hx hZ AL (i := 2) (by decide) (by decide) (Nat.le_of_ble_eq_true rfl) (v := (.int (1 : Int32))) rfl rfl rfl (hb hby own_d6_13) ?_
  show own_Ends _ _ _ _ (T572.setTop (mkF m 14 #[.val (.ref r0), .val (.int (2 : Int32)), .val (.int x2)] [(.int (1 : Int32)), (.ref rs), (.ref rb)]))
  refine own_ldI Y573 hx hZ AS (i := 1) (by decide) (by decide) (Nat.le_of_ble_eq_true rfl) (v := (.int (3 : Int32))) rfl rfl rfl (hb hby own_d6_14) ?_
  show own_Ends _ _ _ _ (T572.setTop (mkF m 15 #[.val (.ref r0), .val (.int (2 : Int32)), .val (.int x2)] [(.int (3 : Int32)), (.ref rb)]))
  refine own_st (fun t_ => XS.aloadN (own_here Y573) hx rfl (hb hby own_d6_15) rfl rfl) ?_
  show own_Ends _ _ _ _ (T572.setTop (mkF m 16 #[.val (.ref r0), .val (.int (2 : Int32)), .val (.int x2)] [(.ref r0), (.int (3 : Int32)), (.ref rb)]))
  refine own_getF Y573 hx hZ hown (host := "") (Or.inl (hw _ (List.mem_of_getElem? (i := 25) rfl))) Via.refl FM rfl rfl (hb hby own_d6_16) (fun T574 Y575 => ?_)
  show own_Ends _ _ _ _ (T574.setTop (mkF m 19 #[.val (.ref r0), .val (.int (2 : Int32)), .val (.int x2)] [(.ref rm), (.int (3 : Int32)), (.ref rb)]))
  refine own_st (fun t_ => XS.aloadN (own_here Y575) hx rfl (hb hby own_d6_19) rfl rfl) ?_
  show own_Ends _ _ _ _ (T574.setTop (mkF m 20 #[.val (.ref r0), .val (.int (2 : Int32)), .val (.int x2)] [(.ref r0), (.ref rm), (.int (3 : Int32)), (.ref rb)]))
  refine own_getF Y575 hx hZ hown (host := "") (Or.inl (hw _ (List.mem_of_getElem? (i := 23) rfl))) Via.refl FN rfl rfl (hb hby own_d6_20) (fun T576 Y577 => ?_)
  show own_Ends _ _ _ _ (T576.setTop (mkF m 23 #[.val (.ref r0), .val (.int (2 : Int32)), .val (.int x2)] [(.ref rn), (.ref rm), (.int (3 : Int32)), (.ref rb)]))
  refine own_st (fun t_ => XS.iloadN (own_here Y577) hx rfl (hb hby own_d6_23) rfl) ?_
  show own_Ends _ _ _ _ (T576.setTop (mkF m 24 #[.val (.ref r0), .val (.int (2 : Int32)), .val (.int x2)] [(.int (2 : Int32)), (.ref rn), (.ref rm), (.int (3 : Int32)), (.ref rb)]))
  refine own_ldI Y577 hx hZ AN (i := 2) (by decide) (by decide) (Nat.le_of_ble_eq_true rfl) (v := (.int e2)) rfl rfl rfl (hb hby own_d6_24) ?_
  show own_Ends _ _ _ _ (T576.setTop (mkF m 25 #[.val (.ref r0), .val (.int (2 : Int32)), .val (.int x2)] [(.int e2), (.ref rm), (.int (3 : Int32)), (.ref rb)]))
  refine own_st (fun t_ => XS.iloadN (own_here Y577) hx rfl (hb hby own_d6_25) rfl) ?_
  show own_Ends _ _ _ _ (T576.setTop (mkF m 26 #[.val (.ref r0), .val (.int (2 : Int32)), .val (.int x2)] [(.int x2), (.int e2), (.ref rm), (.int (3 : Int32)), (.ref rb)]))
  refine own_st (fun t_ => XS.iadd (own_here Y577) hx rfl (hb hby own_d6_26) rfl) ?_
  show own_Ends _ _ _ _ (T576.setTop (mkF m 27 #[.val (.ref r0), .val (.int (2 : Int32)), .val (.int x2)] [(.int (e2 + x2)), (.ref rm), (.int (3 : Int32)), (.ref rb)]))
  obtain ⟨q0, q1⟩ := own_nat hq
  refine own_ldI Y577 hx hZ AM (i := q) q0 q1 (own_mlen hql) (v := (.int (own_g us q))) (own_mget (own_mlen hql)) rfl rfl (hb hby own_d6_27) ?_
  show own_Ends _ _ _ _ (T576.setTop (mkF m 28 #[.val (.ref r0), .val (.int (2 : Int32)), .val (.int x2)] [(.int (own_g us q)), (.int (3 : Int32)), (.ref rb)]))
  refine own_st (fun t_ => XS.iadd (own_here Y577) hx rfl (hb hby own_d6_28) rfl) ?_
  show own_Ends _ _ _ _ (T576.setTop (mkF m 29 #[.val (.ref r0), .val (.int (2 : Int32)), .val (.int x2)] [(.int ((3 : Int32) + (own_g us q))), (.ref rb)]))
  obtain ⟨b0, b1⟩ := own_nat (own_add own_l3 hj (by omega))
  refine own_ldI Y577 hx hZ AB (i := (3 + j)) b0 b1 (own_mlen (by omega)) (v := (.int (own_g ids (3 + j)))) (own_mget (own_mlen (by omega))) rfl rfl (hb hby own_d6_29) ?_
  show own_Ends _ _ _ _ (T576.setTop (mkF m 30 #[.val (.ref r0), .val (.int (2 : Int32)), .val (.int x2)] [(.int (own_g ids (3 + j)))]))
  refine own_retI Y577 hx hlk hret (hb hby own_d6_30) (by decide) (by decide) ?_
  exact ⟨rfl, rfl⟩
theorem own_ef_own_rm6_3 (m : MethodId) (r0 : Addr) (x2 : Int32) : entryFrame m #[(.ref r0), (.int (3 : Int32)), (.int x2)] 3 = mkF m 0 #[.val (.ref r0), .val (.int (3 : Int32)), .val (.int x2)] [] := by first | (simp [entryFrame, mkF, argsToLocals, Value.category]; done) | rfl
def own_Q_own_rm6_3 (Z : State) (ids : List Int32) (j : Nat) (h0 : Heap) (n0 : Nat) (v : Option Value) (h : Heap) : Prop := v = some (.int (own_g ids (6 + j))) ∧ h0 = h
set_option maxRecDepth 65536 in
set_option maxHeartbeats 40000000 in
theorem own_rm6_3 (l : Launch) (Z : State) (a0 : Array Value) (hw : ∀ d ∈ tables_1, d.before a0 Z = true) (ws : List Jvm.Cond) (r0 : Addr) (x2 : Int32) (rb rs rl rm rn : Addr) (ids us : List Int32) (e0 e1 e2 e3 e4 : Int32) (q j : Nat) (h0 : Heap) (n0 : Nat)  (FB : Fld Z h0 r0 "com/example/tierpath/tierpath/Bounds" "boundary" "[I" (.ref rb)) (FS : Fld Z h0 r0 "com/example/tierpath/tierpath/Bounds" "boundaryStart" "[I" (.ref rs)) (FL : Fld Z h0 r0 "com/example/tierpath/tierpath/Bounds" "setLeaf" "[I" (.ref rl)) (FM : Fld Z h0 r0 "com/example/tierpath/tierpath/Bounds" "members" "[I" (.ref rm)) (FN : Fld Z h0 r0 "com/example/tierpath/tierpath/Bounds" "memberStart" "[I" (.ref rn)) (AB : own_A Z h0 rb .int (ids.map Value.int)) (AS : own_A Z h0 rs .int [(.int 0), (.int 3), (.int 6), (.int 9)]) (AL : own_A Z h0 rl .int [(.int 0), (.int 1), (.int 1), (.int 2)]) (AM : own_A Z h0 rm .int (us.map Value.int)) (AN : own_A Z h0 rn .int [(.int e0), (.int e1), (.int e2), (.int e3), (.int e4)]) (hq : (e3 + x2).toInt = (q : Int)) (hql : q < us.length) (hj : (own_g us q).toInt = (j : Int)) (hj2 : j ≤ 2) (hids : ids.length = 9) :
    own_Con l Z (⟨"com/example/tierpath/tierpath/Bounds", "member", "(II)I"⟩ : MethodName) prog_19_method_14_code 3 (some .int) ws ({ frames := 0, cells := 0, slots := 0, locals := 0 } : Room) #[(.ref r0), (.int (3 : Int32)), (.int x2)] h0 n0 (own_Q_own_rm6_3 Z ids j h0 n0) := by
  refine own_body (plainFor_of_name own_pn2) ?_
  intro p e s m below meth c T0 hx hZ hby hml hown hnm hret hlk Y0
  replace hown : s.vm.findClass "com/example/tierpath/tierpath/Bounds" = some m.cls := hown
  replace hnm : meth.name = "member" := hnm
  rw [own_ef_own_rm6_3 m r0 x2]
  show own_Ends _ _ _ _ (T0.setTop (mkF m 0 #[.val (.ref r0), .val (.int (3 : Int32)), .val (.int x2)] []))
  refine own_st (fun t_ => XS.aloadN (own_here Y0) hx rfl (hb hby own_d6_0) rfl rfl) ?_
  show own_Ends _ _ _ _ (T0.setTop (mkF m 1 #[.val (.ref r0), .val (.int (3 : Int32)), .val (.int x2)] [(.ref r0)]))
  refine own_getF Y0 hx hZ hown (host := "") (Or.inl (hw _ (List.mem_of_getElem? (i := 17) rfl))) Via.refl FB rfl rfl (hb hby own_d6_1) (fun T578 Y579 => ?_)
  show own_Ends _ _ _ _ (T578.setTop (mkF m 4 #[.val (.ref r0), .val (.int (3 : Int32)), .val (.int x2)] [(.ref rb)]))
  refine own_st (fun t_ => XS.aloadN (own_here Y579) hx rfl (hb hby own_d6_4) rfl rfl) ?_
  show own_Ends _ _ _ _ (T578.setTop (mkF m 5 #[.val (.ref r0), .val (.int (3 : Int32)), .val (.int x2)] [(.ref r0), (.ref rb)]))
  refine own_getF Y579 hx hZ hown (host := "") (Or.inl (hw _ (List.mem_of_getElem? (i := 15) rfl))) Via.refl FS rfl rfl (hb hby own_d6_5) (fun T580 Y581 => ?_)
  show own_Ends _ _ _ _ (T580.setTop (mkF m 8 #[.val (.ref r0), .val (.int (3 : Int32)), .val (.int x2)] [(.ref rs), (.ref rb)]))
  refine own_st (fun t_ => XS.aloadN (own_here Y581) hx rfl (hb hby own_d6_8) rfl rfl) ?_
  show own_Ends _ _ _ _ (T580.setTop (mkF m 9 #[.val (.ref r0), .val (.int (3 : Int32)), .val (.int x2)] [(.ref r0), (.ref rs), (.ref rb)]))
  refine own_getF Y581 hx hZ hown (host := "") (Or.inl (hw _ (List.mem_of_getElem? (i := 33) rfl))) Via.refl FL rfl rfl (hb hby own_d6_9) (fun T582 Y583 => ?_)
  show own_Ends _ _ _ _ (T582.setTop (mkF m 12 #[.val (.ref r0), .val (.int (3 : Int32)), .val (.int x2)] [(.ref rl), (.ref rs), (.ref rb)]))
  refine own_st (fun t_ => XS.iloadN (own_here Y583) hx rfl (hb hby own_d6_12) rfl) ?_
  show own_Ends _ _ _ _ (T582.setTop (mkF m 13 #[.val (.ref r0), .val (.int (3 : Int32)), .val (.int x2)] [(.int (3 : Int32)), (.ref rl), (.ref rs), (.ref rb)]))
  refine own_ldI Y583 hx hZ AL (i := 3) (by decide) (by decide) (Nat.le_of_ble_eq_true rfl) (v := (.int (2 : Int32))) rfl rfl rfl (hb hby own_d6_13) ?_
  show own_Ends _ _ _ _ (T582.setTop (mkF m 14 #[.val (.ref r0), .val (.int (3 : Int32)), .val (.int x2)] [(.int (2 : Int32)), (.ref rs), (.ref rb)]))
  refine own_ldI Y583 hx hZ AS (i := 2) (by decide) (by decide) (Nat.le_of_ble_eq_true rfl) (v := (.int (6 : Int32))) rfl rfl rfl (hb hby own_d6_14) ?_
  show own_Ends _ _ _ _ (T582.setTop (mkF m 15 #[.val (.ref r0), .val (.int (3 : Int32)), .val (.int x2)] [(.int (6 : Int32)), (.ref rb)]))
  refine own_st (fun t_ => XS.aloadN (own_here Y583) hx rfl (hb hby own_d6_15) rfl rfl) ?_
  show own_Ends _ _ _ _ (T582.setTop (mkF m 16 #[.val (.ref r0), .val (.int (3 : Int32)), .val (.int x2)] [(.ref r0), (.int (6 : Int32)), (.ref rb)]))
  refine own_getF Y583 hx hZ hown (host := "") (Or.inl (hw _ (List.mem_of_getElem? (i := 25) rfl))) Via.refl FM rfl rfl (hb hby own_d6_16) (fun T584 Y585 => ?_)
  show own_Ends _ _ _ _ (T584.setTop (mkF m 19 #[.val (.ref r0), .val (.int (3 : Int32)), .val (.int x2)] [(.ref rm), (.int (6 : Int32)), (.ref rb)]))
  refine own_st (fun t_ => XS.aloadN (own_here Y585) hx rfl (hb hby own_d6_19) rfl rfl) ?_
  show own_Ends _ _ _ _ (T584.setTop (mkF m 20 #[.val (.ref r0), .val (.int (3 : Int32)), .val (.int x2)] [(.ref r0), (.ref rm), (.int (6 : Int32)), (.ref rb)]))
  refine own_getF Y585 hx hZ hown (host := "") (Or.inl (hw _ (List.mem_of_getElem? (i := 23) rfl))) Via.refl FN rfl rfl (hb hby own_d6_20) (fun T586 Y587 => ?_)
  show own_Ends _ _ _ _ (T586.setTop (mkF m 23 #[.val (.ref r0), .val (.int (3 : Int32)), .val (.int x2)] [(.ref rn), (.ref rm), (.int (6 : Int32)), (.ref rb)]))
  refine own_st (fun t_ => XS.iloadN (own_here Y587) hx rfl (hb hby own_d6_23) rfl) ?_
  show own_Ends _ _ _ _ (T586.setTop (mkF m 24 #[.val (.ref r0), .val (.int (3 : Int32)), .val (.int x2)] [(.int (3 : Int32)), (.ref rn), (.ref rm), (.int (6 : Int32)), (.ref rb)]))
  refine own_ldI Y587 hx hZ AN (i := 3) (by decide) (by decide) (Nat.le_of_ble_eq_true rfl) (v := (.int e3)) rfl rfl rfl (hb hby own_d6_24) ?_
  show own_Ends _ _ _ _ (T586.setTop (mkF m 25 #[.val (.ref r0), .val (.int (3 : Int32)), .val (.int x2)] [(.int e3), (.ref rm), (.int (6 : Int32)), (.ref rb)]))
  refine own_st (fun t_ => XS.iloadN (own_here Y587) hx rfl (hb hby own_d6_25) rfl) ?_
  show own_Ends _ _ _ _ (T586.setTop (mkF m 26 #[.val (.ref r0), .val (.int (3 : Int32)), .val (.int x2)] [(.int x2), (.int e3), (.ref rm), (.int (6 : Int32)), (.ref rb)]))
  refine own_st (fun t_ => XS.iadd (own_here Y587) hx rfl (hb hby own_d6_26) rfl) ?_
  show own_Ends _ _ _ _ (T586.setTop (mkF m 27 #[.val (.ref r0), .val (.int (3 : Int32)), .val (.int x2)] [(.int (e3 + x2)), (.ref rm), (.int (6 : Int32)), (.ref rb)]))
  obtain ⟨q0, q1⟩ := own_nat hq
  refine own_ldI Y587 hx hZ AM (i := q) q0 q1 (own_mlen hql) (v := (.int (own_g us q))) (own_mget (own_mlen hql)) rfl rfl (hb hby own_d6_27) ?_
  show own_Ends _ _ _ _ (T586.setTop (mkF m 28 #[.val (.ref r0), .val (.int (3 : Int32)), .val (.int x2)] [(.int (own_g us q)), (.int (6 : Int32)), (.ref rb)]))
  refine own_st (fun t_ => XS.iadd (own_here Y587) hx rfl (hb hby own_d6_28) rfl) ?_
  show own_Ends _ _ _ _ (T586.setTop (mkF m 29 #[.val (.ref r0), .val (.int (3 : Int32)), .val (.int x2)] [(.int ((6 : Int32) + (own_g us q))), (.ref rb)]))
  obtain ⟨b0, b1⟩ := own_nat (own_add own_l6 hj (by omega))
  refine own_ldI Y587 hx hZ AB (i := (6 + j)) b0 b1 (own_mlen (by omega)) (v := (.int (own_g ids (6 + j)))) (own_mget (own_mlen (by omega))) rfl rfl (hb hby own_d6_29) ?_
  show own_Ends _ _ _ _ (T586.setTop (mkF m 30 #[.val (.ref r0), .val (.int (3 : Int32)), .val (.int x2)] [(.int (own_g ids (6 + j)))]))
  refine own_retI Y587 hx hlk hret (hb hby own_d6_30) (by decide) (by decide) ?_
  exact ⟨rfl, rfl⟩
theorem own_pd2 : parseMethodDescriptor "(I[I[I[I[I[I[I[J[J)V" = some ⟨[.int, (.array .int), (.array .int), (.array .int), (.array .int), (.array .int), (.array .int), (.array .long), (.array .long)], none⟩ := by decide +kernel
theorem own_pd3 : parseMethodDescriptor "(II)I" = some ⟨[.int, .int], some .int⟩ := by decide +kernel
theorem own_ef_own_rm0 (m : MethodId) (x0 : Int32) (x1 : Int32) (x2 : Int32) : entryFrame m #[(.int x0), (.int x1), (.int x2)] maxLocals = mkF m 0 #[.val (.int x0), .val (.int x1), .val (.int x2), .unset, .unset, .unset, .unset, .unset, .unset, .unset, .unset, .unset, .unset, .unset, .unset, .unset, .unset, .unset] [] := by first | (simp [entryFrame, mkF, argsToLocals, Value.category, maxLocals]; done) | rfl
def own_Q_own_rm0 (Z : State) (x0 : Int32) (x1 : Int32) (x2 : Int32) (h0 : Heap) (n0 : Nat) (v : Option Value) (h : Heap) : Prop := v = some (.int 1)
set_option maxRecDepth 65536 in
set_option maxHeartbeats 40000000 in
theorem own_rm0 (l : Launch) (Z : State) (a0 : Array Value) (hw : ∀ d ∈ tables_1, d.before a0 Z = true) (ws : List Jvm.Cond) (x0 : Int32) (x1 : Int32) (x2 : Int32)  (h0 : Heap) (n0 : Nat) (Z0 : n0 ≤ h0.size)  :
    own_Con l Z x code maxLocals ret ws room_1 #[(.int x0), (.int x1), (.int x2)] h0 n0 (own_Q_own_rm0 Z x0 x1 x2 h0 n0) := by
  refine own_body (plainFor_of_name own_pn0) ?_
  intro p e s m below meth c T0 hx hZ hby hml hown hnm hret hlk Y0
  replace hown : s.vm.findClass "com/example/tierpath/tierpath/BoundsMemberPinLaw" = some m.cls := hown
  replace hml : c.maxLocals = 18 := hml
  replace hret : meth.sig.returnType = some .boolean := hret
  rw [own_ef_own_rm0 m x0 x1 x2]
  show own_Ends _ _ _ _ (T0.setTop (mkF m 0 #[.val (.int x0), .val (.int x1), .val (.int x2), .unset, .unset, .unset, .unset, .unset, .unset, .unset, .unset, .unset, .unset, .unset, .unset, .unset, .unset, .unset] []))
  refine own_st (fun t_ => XS.bipush (own_here Y0) hx rfl (hb hby at_0) ) ?_
  show own_Ends _ _ _ _ (T0.setTop (mkF m 2 #[.val (.int x0), .val (.int x1), .val (.int x2), .unset, .unset, .unset, .unset, .unset, .unset, .unset, .unset, .unset, .unset, .unset, .unset, .unset, .unset, .unset] [(.int (9 : Int32))]))
  refine own_newP Y0 hx hZ (hw _ (List.mem_of_getElem? (i := 0) rfl)) rfl (hb hby at_2) rfl (by decide) (nz := 9) (cap := 9) (by decide) (by decide) (by decide) (by decide) (by decide) (ty := .int) rfl (fun T588 h590 b593 eb594 Y589 E591 A592 => ?_)
  have g595 : n0 ≤ b593 := by rw [eb594]; exact Z0
  replace A592 : own_A Z h590 b593 .int [(.int (0 : Int32)), (.int (0 : Int32)), (.int (0 : Int32)), (.int (0 : Int32)), (.int (0 : Int32)), (.int (0 : Int32)), (.int (0 : Int32)), (.int (0 : Int32)), (.int (0 : Int32))] := A592
  show own_Ends _ _ _ _ (T588.setTop (mkF m 4 #[.val (.int x0), .val (.int x1), .val (.int x2), .unset, .unset, .unset, .unset, .unset, .unset, .unset, .unset, .unset, .unset, .unset, .unset, .unset, .unset, .unset] [(.ref b593)]))
  refine own_st (fun t_ => XS.astoreN (own_here Y589) hx rfl (hb hby at_4) rfl rfl (l' := #[.val (.int x0), .val (.int x1), .val (.int x2), .val (.ref b593), .unset, .unset, .unset, .unset, .unset, .unset, .unset, .unset, .unset, .unset, .unset, .unset, .unset, .unset]) rfl) ?_
  show own_Ends _ _ _ _ (T588.setTop (mkF m 5 #[.val (.int x0), .val (.int x1), .val (.int x2), .val (.ref b593), .unset, .unset, .unset, .unset, .unset, .unset, .unset, .unset, .unset, .unset, .unset, .unset, .unset, .unset] []))
  refine own_st (fun t_ => XS.aloadN (own_here Y589) hx rfl (hb hby at_5) rfl rfl) ?_
  show own_Ends _ _ _ _ (T588.setTop (mkF m 6 #[.val (.int x0), .val (.int x1), .val (.int x2), .val (.ref b593), .unset, .unset, .unset, .unset, .unset, .unset, .unset, .unset, .unset, .unset, .unset, .unset, .unset, .unset] [(.ref b593)]))
  refine own_st (fun t_ => XS.iconst (own_here Y589) hx rfl (hb hby at_6) ) ?_
  show own_Ends _ _ _ _ (T588.setTop (mkF m 7 #[.val (.int x0), .val (.int x1), .val (.int x2), .val (.ref b593), .unset, .unset, .unset, .unset, .unset, .unset, .unset, .unset, .unset, .unset, .unset, .unset, .unset, .unset] [(.int (0 : Int32)), (.ref b593)]))
  refine own_st (fun t_ => XS.iconst (own_here Y589) hx rfl (hb hby at_7) ) ?_
  show own_Ends _ _ _ _ (T588.setTop (mkF m 8 #[.val (.int x0), .val (.int x1), .val (.int x2), .val (.ref b593), .unset, .unset, .unset, .unset, .unset, .unset, .unset, .unset, .unset, .unset, .unset, .unset, .unset, .unset] [(.int (1 : Int32)), (.int (0 : Int32)), (.ref b593)]))
  refine own_st (fun t_ => XS.iloadN (own_here Y589) hx rfl (hb hby at_8) rfl) ?_
  show own_Ends _ _ _ _ (T588.setTop (mkF m 9 #[.val (.int x0), .val (.int x1), .val (.int x2), .val (.ref b593), .unset, .unset, .unset, .unset, .unset, .unset, .unset, .unset, .unset, .unset, .unset, .unset, .unset, .unset] [(.int x0), (.int (1 : Int32)), (.int (0 : Int32)), (.ref b593)]))
  refine own_st (fun t_ => XS.iconst (own_here Y589) hx rfl (hb hby at_9) ) ?_
  show own_Ends _ _ _ _ (T588.setTop (mkF m 10 #[.val (.int x0), .val (.int x1), .val (.int x2), .val (.ref b593), .unset, .unset, .unset, .unset, .unset, .unset, .unset, .unset, .unset, .unset, .unset, .unset, .unset, .unset] [(.int (3 : Int32)), (.int x0), (.int (1 : Int32)), (.int (0 : Int32)), (.ref b593)]))
  refine own_st (fun t_ => XS.iand (own_here Y589) hx rfl (hb hby at_10) rfl) ?_
  show own_Ends _ _ _ _ (T588.setTop (mkF m 11 #[.val (.int x0), .val (.int x1), .val (.int x2), .val (.ref b593), .unset, .unset, .unset, .unset, .unset, .unset, .unset, .unset, .unset, .unset, .unset, .unset, .unset, .unset] [(.int (x0 &&& (3 : Int32))), (.int (1 : Int32)), (.int (0 : Int32)), (.ref b593)]))
  refine own_st (fun t_ => XS.iadd (own_here Y589) hx rfl (hb hby at_11) rfl) ?_
  show own_Ends _ _ _ _ (T588.setTop (mkF m 12 #[.val (.int x0), .val (.int x1), .val (.int x2), .val (.ref b593), .unset, .unset, .unset, .unset, .unset, .unset, .unset, .unset, .unset, .unset, .unset, .unset, .unset, .unset] [(.int ((1 : Int32) + (x0 &&& (3 : Int32)))), (.int (0 : Int32)), (.ref b593)]))
  generalize hy0 : ((1 : Int32) + (x0 &&& (3 : Int32))) = y0
  have gy0 : 1 ≤ y0.toInt ∧ y0.toInt ≤ 4 := by
    rw [← hy0]; have l1 : (1 : Int32).toInt = 1 := rfl; have l3 : (3 : Int32).toInt = 3 := rfl
    have a := c_and x0 3 (by decide)
    have c := c_iadd 1 (x0 &&& 3)
    have d := rng32 (1 + (x0 &&& 3))
    omega
  refine own_stI Y589 hx hZ A592 g595 (i := 0) (by decide) (by decide) (Nat.le_of_ble_eq_true rfl) rfl rfl (hb hby at_12) (fun T596 h598 Y597 W599 A600 => ?_)
  replace A600 : own_A Z h598 b593 .int [(.int y0), (.int (0 : Int32)), (.int (0 : Int32)), (.int (0 : Int32)), (.int (0 : Int32)), (.int (0 : Int32)), (.int (0 : Int32)), (.int (0 : Int32)), (.int (0 : Int32))] := A600
  show own_Ends _ _ _ _ (T596.setTop (mkF m 13 #[.val (.int x0), .val (.int x1), .val (.int x2), .val (.ref b593), .unset, .unset, .unset, .unset, .unset, .unset, .unset, .unset, .unset, .unset, .unset, .unset, .unset, .unset] []))
  refine own_st (fun t_ => XS.aloadN (own_here Y597) hx rfl (hb hby at_13) rfl rfl) ?_
  show own_Ends _ _ _ _ (T596.setTop (mkF m 14 #[.val (.int x0), .val (.int x1), .val (.int x2), .val (.ref b593), .unset, .unset, .unset, .unset, .unset, .unset, .unset, .unset, .unset, .unset, .unset, .unset, .unset, .unset] [(.ref b593)]))
  refine own_st (fun t_ => XS.iconst (own_here Y597) hx rfl (hb hby at_14) ) ?_
  show own_Ends _ _ _ _ (T596.setTop (mkF m 15 #[.val (.int x0), .val (.int x1), .val (.int x2), .val (.ref b593), .unset, .unset, .unset, .unset, .unset, .unset, .unset, .unset, .unset, .unset, .unset, .unset, .unset, .unset] [(.int (1 : Int32)), (.ref b593)]))
  refine own_st (fun t_ => XS.aloadN (own_here Y597) hx rfl (hb hby at_15) rfl rfl) ?_
  show own_Ends _ _ _ _ (T596.setTop (mkF m 16 #[.val (.int x0), .val (.int x1), .val (.int x2), .val (.ref b593), .unset, .unset, .unset, .unset, .unset, .unset, .unset, .unset, .unset, .unset, .unset, .unset, .unset, .unset] [(.ref b593), (.int (1 : Int32)), (.ref b593)]))
  refine own_st (fun t_ => XS.iconst (own_here Y597) hx rfl (hb hby at_16) ) ?_
  show own_Ends _ _ _ _ (T596.setTop (mkF m 17 #[.val (.int x0), .val (.int x1), .val (.int x2), .val (.ref b593), .unset, .unset, .unset, .unset, .unset, .unset, .unset, .unset, .unset, .unset, .unset, .unset, .unset, .unset] [(.int (0 : Int32)), (.ref b593), (.int (1 : Int32)), (.ref b593)]))
  refine own_ldI Y597 hx hZ A600 (i := 0) (by decide) (by decide) (Nat.le_of_ble_eq_true rfl) (v := (.int y0)) rfl rfl rfl (hb hby at_17) ?_
  show own_Ends _ _ _ _ (T596.setTop (mkF m 18 #[.val (.int x0), .val (.int x1), .val (.int x2), .val (.ref b593), .unset, .unset, .unset, .unset, .unset, .unset, .unset, .unset, .unset, .unset, .unset, .unset, .unset, .unset] [(.int y0), (.int (1 : Int32)), (.ref b593)]))
  refine own_st (fun t_ => XS.iconst (own_here Y597) hx rfl (hb hby at_18) ) ?_
  show own_Ends _ _ _ _ (T596.setTop (mkF m 19 #[.val (.int x0), .val (.int x1), .val (.int x2), .val (.ref b593), .unset, .unset, .unset, .unset, .unset, .unset, .unset, .unset, .unset, .unset, .unset, .unset, .unset, .unset] [(.int (1 : Int32)), (.int y0), (.int (1 : Int32)), (.ref b593)]))
  refine own_st (fun t_ => XS.iadd (own_here Y597) hx rfl (hb hby at_19) rfl) ?_
  show own_Ends _ _ _ _ (T596.setTop (mkF m 20 #[.val (.int x0), .val (.int x1), .val (.int x2), .val (.ref b593), .unset, .unset, .unset, .unset, .unset, .unset, .unset, .unset, .unset, .unset, .unset, .unset, .unset, .unset] [(.int (y0 + (1 : Int32))), (.int (1 : Int32)), (.ref b593)]))
  refine own_st (fun t_ => XS.iloadN (own_here Y597) hx rfl (hb hby at_20) rfl) ?_
  show own_Ends _ _ _ _ (T596.setTop (mkF m 21 #[.val (.int x0), .val (.int x1), .val (.int x2), .val (.ref b593), .unset, .unset, .unset, .unset, .unset, .unset, .unset, .unset, .unset, .unset, .unset, .unset, .unset, .unset] [(.int x0), (.int (y0 + (1 : Int32))), (.int (1 : Int32)), (.ref b593)]))
  refine own_st (fun t_ => XS.iconst (own_here Y597) hx rfl (hb hby at_21) ) ?_
  show own_Ends _ _ _ _ (T596.setTop (mkF m 22 #[.val (.int x0), .val (.int x1), .val (.int x2), .val (.ref b593), .unset, .unset, .unset, .unset, .unset, .unset, .unset, .unset, .unset, .unset, .unset, .unset, .unset, .unset] [(.int (2 : Int32)), (.int x0), (.int (y0 + (1 : Int32))), (.int (1 : Int32)), (.ref b593)]))
  refine own_st (fun t_ => XS.iushr (own_here Y597) hx rfl (hb hby at_22) rfl) ?_
  show own_Ends _ _ _ _ (T596.setTop (mkF m 23 #[.val (.int x0), .val (.int x1), .val (.int x2), .val (.ref b593), .unset, .unset, .unset, .unset, .unset, .unset, .unset, .unset, .unset, .unset, .unset, .unset, .unset, .unset] [(.int ((x0.toUInt32 >>> ((2 : Int32) &&& 31).toUInt32).toInt32)), (.int (y0 + (1 : Int32))), (.int (1 : Int32)), (.ref b593)]))
  refine own_st (fun t_ => XS.iconst (own_here Y597) hx rfl (hb hby at_23) ) ?_
  show own_Ends _ _ _ _ (T596.setTop (mkF m 24 #[.val (.int x0), .val (.int x1), .val (.int x2), .val (.ref b593), .unset, .unset, .unset, .unset, .unset, .unset, .unset, .unset, .unset, .unset, .unset, .unset, .unset, .unset] [(.int (3 : Int32)), (.int ((x0.toUInt32 >>> ((2 : Int32) &&& 31).toUInt32).toInt32)), (.int (y0 + (1 : Int32))), (.int (1 : Int32)), (.ref b593)]))
  refine own_st (fun t_ => XS.iand (own_here Y597) hx rfl (hb hby at_24) rfl) ?_
  show own_Ends _ _ _ _ (T596.setTop (mkF m 25 #[.val (.int x0), .val (.int x1), .val (.int x2), .val (.ref b593), .unset, .unset, .unset, .unset, .unset, .unset, .unset, .unset, .unset, .unset, .unset, .unset, .unset, .unset] [(.int (((x0.toUInt32 >>> ((2 : Int32) &&& 31).toUInt32).toInt32) &&& (3 : Int32))), (.int (y0 + (1 : Int32))), (.int (1 : Int32)), (.ref b593)]))
  refine own_st (fun t_ => XS.iadd (own_here Y597) hx rfl (hb hby at_25) rfl) ?_
  show own_Ends _ _ _ _ (T596.setTop (mkF m 26 #[.val (.int x0), .val (.int x1), .val (.int x2), .val (.ref b593), .unset, .unset, .unset, .unset, .unset, .unset, .unset, .unset, .unset, .unset, .unset, .unset, .unset, .unset] [(.int ((y0 + (1 : Int32)) + (((x0.toUInt32 >>> ((2 : Int32) &&& 31).toUInt32).toInt32) &&& (3 : Int32)))), (.int (1 : Int32)), (.ref b593)]))
  generalize hy1 : ((y0 + (1 : Int32)) + (((x0.toUInt32 >>> ((2 : Int32) &&& 31).toUInt32).toInt32) &&& (3 : Int32))) = y1
  have gy1 : 1 ≤ y1.toInt ∧ y1.toInt ≤ 8 := by
    rw [← hy1]; have l1 : (1 : Int32).toInt = 1 := rfl; have l3 : (3 : Int32).toInt = 3 := rfl
    have a := c_and ((x0.toUInt32 >>> ((2 : Int32) &&& 31).toUInt32).toInt32) 3 (by decide)
    have b := c_iadd y0 1; have b2 := rng32 (y0 + 1)
    have c := c_iadd (y0 + 1) (((x0.toUInt32 >>> ((2 : Int32) &&& 31).toUInt32).toInt32) &&& 3)
    have d := rng32 ((y0 + 1) + (((x0.toUInt32 >>> ((2 : Int32) &&& 31).toUInt32).toInt32) &&& 3))
    omega
  refine own_stI Y597 hx hZ A600 g595 (i := 1) (by decide) (by decide) (Nat.le_of_ble_eq_true rfl) rfl rfl (hb hby at_26) (fun T601 h603 Y602 W604 A605 => ?_)
  replace A605 : own_A Z h603 b593 .int [(.int y0), (.int y1), (.int (0 : Int32)), (.int (0 : Int32)), (.int (0 : Int32)), (.int (0 : Int32)), (.int (0 : Int32)), (.int (0 : Int32)), (.int (0 : Int32))] := A605
  show own_Ends _ _ _ _ (T601.setTop (mkF m 27 #[.val (.int x0), .val (.int x1), .val (.int x2), .val (.ref b593), .unset, .unset, .unset, .unset, .unset, .unset, .unset, .unset, .unset, .unset, .unset, .unset, .unset, .unset] []))
  refine own_st (fun t_ => XS.aloadN (own_here Y602) hx rfl (hb hby at_27) rfl rfl) ?_
  show own_Ends _ _ _ _ (T601.setTop (mkF m 28 #[.val (.int x0), .val (.int x1), .val (.int x2), .val (.ref b593), .unset, .unset, .unset, .unset, .unset, .unset, .unset, .unset, .unset, .unset, .unset, .unset, .unset, .unset] [(.ref b593)]))
  refine own_st (fun t_ => XS.iconst (own_here Y602) hx rfl (hb hby at_28) ) ?_
  show own_Ends _ _ _ _ (T601.setTop (mkF m 29 #[.val (.int x0), .val (.int x1), .val (.int x2), .val (.ref b593), .unset, .unset, .unset, .unset, .unset, .unset, .unset, .unset, .unset, .unset, .unset, .unset, .unset, .unset] [(.int (2 : Int32)), (.ref b593)]))
  refine own_st (fun t_ => XS.aloadN (own_here Y602) hx rfl (hb hby at_29) rfl rfl) ?_
  show own_Ends _ _ _ _ (T601.setTop (mkF m 30 #[.val (.int x0), .val (.int x1), .val (.int x2), .val (.ref b593), .unset, .unset, .unset, .unset, .unset, .unset, .unset, .unset, .unset, .unset, .unset, .unset, .unset, .unset] [(.ref b593), (.int (2 : Int32)), (.ref b593)]))
  refine own_st (fun t_ => XS.iconst (own_here Y602) hx rfl (hb hby at_30) ) ?_
  show own_Ends _ _ _ _ (T601.setTop (mkF m 31 #[.val (.int x0), .val (.int x1), .val (.int x2), .val (.ref b593), .unset, .unset, .unset, .unset, .unset, .unset, .unset, .unset, .unset, .unset, .unset, .unset, .unset, .unset] [(.int (1 : Int32)), (.ref b593), (.int (2 : Int32)), (.ref b593)]))
  refine own_ldI Y602 hx hZ A605 (i := 1) (by decide) (by decide) (Nat.le_of_ble_eq_true rfl) (v := (.int y1)) rfl rfl rfl (hb hby at_31) ?_
  show own_Ends _ _ _ _ (T601.setTop (mkF m 32 #[.val (.int x0), .val (.int x1), .val (.int x2), .val (.ref b593), .unset, .unset, .unset, .unset, .unset, .unset, .unset, .unset, .unset, .unset, .unset, .unset, .unset, .unset] [(.int y1), (.int (2 : Int32)), (.ref b593)]))
  refine own_st (fun t_ => XS.iconst (own_here Y602) hx rfl (hb hby at_32) ) ?_
  show own_Ends _ _ _ _ (T601.setTop (mkF m 33 #[.val (.int x0), .val (.int x1), .val (.int x2), .val (.ref b593), .unset, .unset, .unset, .unset, .unset, .unset, .unset, .unset, .unset, .unset, .unset, .unset, .unset, .unset] [(.int (1 : Int32)), (.int y1), (.int (2 : Int32)), (.ref b593)]))
  refine own_st (fun t_ => XS.iadd (own_here Y602) hx rfl (hb hby at_33) rfl) ?_
  show own_Ends _ _ _ _ (T601.setTop (mkF m 34 #[.val (.int x0), .val (.int x1), .val (.int x2), .val (.ref b593), .unset, .unset, .unset, .unset, .unset, .unset, .unset, .unset, .unset, .unset, .unset, .unset, .unset, .unset] [(.int (y1 + (1 : Int32))), (.int (2 : Int32)), (.ref b593)]))
  refine own_st (fun t_ => XS.iloadN (own_here Y602) hx rfl (hb hby at_34) rfl) ?_
  show own_Ends _ _ _ _ (T601.setTop (mkF m 35 #[.val (.int x0), .val (.int x1), .val (.int x2), .val (.ref b593), .unset, .unset, .unset, .unset, .unset, .unset, .unset, .unset, .unset, .unset, .unset, .unset, .unset, .unset] [(.int x0), (.int (y1 + (1 : Int32))), (.int (2 : Int32)), (.ref b593)]))
  refine own_st (fun t_ => XS.iconst (own_here Y602) hx rfl (hb hby at_35) ) ?_
  show own_Ends _ _ _ _ (T601.setTop (mkF m 36 #[.val (.int x0), .val (.int x1), .val (.int x2), .val (.ref b593), .unset, .unset, .unset, .unset, .unset, .unset, .unset, .unset, .unset, .unset, .unset, .unset, .unset, .unset] [(.int (4 : Int32)), (.int x0), (.int (y1 + (1 : Int32))), (.int (2 : Int32)), (.ref b593)]))
  refine own_st (fun t_ => XS.iushr (own_here Y602) hx rfl (hb hby at_36) rfl) ?_
  show own_Ends _ _ _ _ (T601.setTop (mkF m 37 #[.val (.int x0), .val (.int x1), .val (.int x2), .val (.ref b593), .unset, .unset, .unset, .unset, .unset, .unset, .unset, .unset, .unset, .unset, .unset, .unset, .unset, .unset] [(.int ((x0.toUInt32 >>> ((4 : Int32) &&& 31).toUInt32).toInt32)), (.int (y1 + (1 : Int32))), (.int (2 : Int32)), (.ref b593)]))
  refine own_st (fun t_ => XS.iconst (own_here Y602) hx rfl (hb hby at_37) ) ?_
  show own_Ends _ _ _ _ (T601.setTop (mkF m 38 #[.val (.int x0), .val (.int x1), .val (.int x2), .val (.ref b593), .unset, .unset, .unset, .unset, .unset, .unset, .unset, .unset, .unset, .unset, .unset, .unset, .unset, .unset] [(.int (3 : Int32)), (.int ((x0.toUInt32 >>> ((4 : Int32) &&& 31).toUInt32).toInt32)), (.int (y1 + (1 : Int32))), (.int (2 : Int32)), (.ref b593)]))
  refine own_st (fun t_ => XS.iand (own_here Y602) hx rfl (hb hby at_38) rfl) ?_
  show own_Ends _ _ _ _ (T601.setTop (mkF m 39 #[.val (.int x0), .val (.int x1), .val (.int x2), .val (.ref b593), .unset, .unset, .unset, .unset, .unset, .unset, .unset, .unset, .unset, .unset, .unset, .unset, .unset, .unset] [(.int (((x0.toUInt32 >>> ((4 : Int32) &&& 31).toUInt32).toInt32) &&& (3 : Int32))), (.int (y1 + (1 : Int32))), (.int (2 : Int32)), (.ref b593)]))
  refine own_st (fun t_ => XS.iadd (own_here Y602) hx rfl (hb hby at_39) rfl) ?_
  show own_Ends _ _ _ _ (T601.setTop (mkF m 40 #[.val (.int x0), .val (.int x1), .val (.int x2), .val (.ref b593), .unset, .unset, .unset, .unset, .unset, .unset, .unset, .unset, .unset, .unset, .unset, .unset, .unset, .unset] [(.int ((y1 + (1 : Int32)) + (((x0.toUInt32 >>> ((4 : Int32) &&& 31).toUInt32).toInt32) &&& (3 : Int32)))), (.int (2 : Int32)), (.ref b593)]))
  generalize hy2 : ((y1 + (1 : Int32)) + (((x0.toUInt32 >>> ((4 : Int32) &&& 31).toUInt32).toInt32) &&& (3 : Int32))) = y2
  have gy2 : 1 ≤ y2.toInt ∧ y2.toInt ≤ 12 := by
    rw [← hy2]; have l1 : (1 : Int32).toInt = 1 := rfl; have l3 : (3 : Int32).toInt = 3 := rfl
    have a := c_and ((x0.toUInt32 >>> ((4 : Int32) &&& 31).toUInt32).toInt32) 3 (by decide)
    have b := c_iadd y1 1; have b2 := rng32 (y1 + 1)
    have c := c_iadd (y1 + 1) (((x0.toUInt32 >>> ((4 : Int32) &&& 31).toUInt32).toInt32) &&& 3)
    have d := rng32 ((y1 + 1) + (((x0.toUInt32 >>> ((4 : Int32) &&& 31).toUInt32).toInt32) &&& 3))
    omega
  refine own_stI Y602 hx hZ A605 g595 (i := 2) (by decide) (by decide) (Nat.le_of_ble_eq_true rfl) rfl rfl (hb hby at_40) (fun T606 h608 Y607 W609 A610 => ?_)
  replace A610 : own_A Z h608 b593 .int [(.int y0), (.int y1), (.int y2), (.int (0 : Int32)), (.int (0 : Int32)), (.int (0 : Int32)), (.int (0 : Int32)), (.int (0 : Int32)), (.int (0 : Int32))] := A610
  show own_Ends _ _ _ _ (T606.setTop (mkF m 41 #[.val (.int x0), .val (.int x1), .val (.int x2), .val (.ref b593), .unset, .unset, .unset, .unset, .unset, .unset, .unset, .unset, .unset, .unset, .unset, .unset, .unset, .unset] []))
  refine own_st (fun t_ => XS.aloadN (own_here Y607) hx rfl (hb hby at_41) rfl rfl) ?_
  show own_Ends _ _ _ _ (T606.setTop (mkF m 42 #[.val (.int x0), .val (.int x1), .val (.int x2), .val (.ref b593), .unset, .unset, .unset, .unset, .unset, .unset, .unset, .unset, .unset, .unset, .unset, .unset, .unset, .unset] [(.ref b593)]))
  refine own_st (fun t_ => XS.iconst (own_here Y607) hx rfl (hb hby at_42) ) ?_
  show own_Ends _ _ _ _ (T606.setTop (mkF m 43 #[.val (.int x0), .val (.int x1), .val (.int x2), .val (.ref b593), .unset, .unset, .unset, .unset, .unset, .unset, .unset, .unset, .unset, .unset, .unset, .unset, .unset, .unset] [(.int (3 : Int32)), (.ref b593)]))
  refine own_st (fun t_ => XS.aloadN (own_here Y607) hx rfl (hb hby at_43) rfl rfl) ?_
  show own_Ends _ _ _ _ (T606.setTop (mkF m 44 #[.val (.int x0), .val (.int x1), .val (.int x2), .val (.ref b593), .unset, .unset, .unset, .unset, .unset, .unset, .unset, .unset, .unset, .unset, .unset, .unset, .unset, .unset] [(.ref b593), (.int (3 : Int32)), (.ref b593)]))
  refine own_st (fun t_ => XS.iconst (own_here Y607) hx rfl (hb hby at_44) ) ?_
  show own_Ends _ _ _ _ (T606.setTop (mkF m 45 #[.val (.int x0), .val (.int x1), .val (.int x2), .val (.ref b593), .unset, .unset, .unset, .unset, .unset, .unset, .unset, .unset, .unset, .unset, .unset, .unset, .unset, .unset] [(.int (2 : Int32)), (.ref b593), (.int (3 : Int32)), (.ref b593)]))
  refine own_ldI Y607 hx hZ A610 (i := 2) (by decide) (by decide) (Nat.le_of_ble_eq_true rfl) (v := (.int y2)) rfl rfl rfl (hb hby at_45) ?_
  show own_Ends _ _ _ _ (T606.setTop (mkF m 46 #[.val (.int x0), .val (.int x1), .val (.int x2), .val (.ref b593), .unset, .unset, .unset, .unset, .unset, .unset, .unset, .unset, .unset, .unset, .unset, .unset, .unset, .unset] [(.int y2), (.int (3 : Int32)), (.ref b593)]))
  refine own_st (fun t_ => XS.iconst (own_here Y607) hx rfl (hb hby at_46) ) ?_
  show own_Ends _ _ _ _ (T606.setTop (mkF m 47 #[.val (.int x0), .val (.int x1), .val (.int x2), .val (.ref b593), .unset, .unset, .unset, .unset, .unset, .unset, .unset, .unset, .unset, .unset, .unset, .unset, .unset, .unset] [(.int (1 : Int32)), (.int y2), (.int (3 : Int32)), (.ref b593)]))
  refine own_st (fun t_ => XS.iadd (own_here Y607) hx rfl (hb hby at_47) rfl) ?_
  show own_Ends _ _ _ _ (T606.setTop (mkF m 48 #[.val (.int x0), .val (.int x1), .val (.int x2), .val (.ref b593), .unset, .unset, .unset, .unset, .unset, .unset, .unset, .unset, .unset, .unset, .unset, .unset, .unset, .unset] [(.int (y2 + (1 : Int32))), (.int (3 : Int32)), (.ref b593)]))
  refine own_st (fun t_ => XS.iloadN (own_here Y607) hx rfl (hb hby at_48) rfl) ?_
  show own_Ends _ _ _ _ (T606.setTop (mkF m 49 #[.val (.int x0), .val (.int x1), .val (.int x2), .val (.ref b593), .unset, .unset, .unset, .unset, .unset, .unset, .unset, .unset, .unset, .unset, .unset, .unset, .unset, .unset] [(.int x0), (.int (y2 + (1 : Int32))), (.int (3 : Int32)), (.ref b593)]))
  refine own_st (fun t_ => XS.bipush (own_here Y607) hx rfl (hb hby at_49) ) ?_
  show own_Ends _ _ _ _ (T606.setTop (mkF m 51 #[.val (.int x0), .val (.int x1), .val (.int x2), .val (.ref b593), .unset, .unset, .unset, .unset, .unset, .unset, .unset, .unset, .unset, .unset, .unset, .unset, .unset, .unset] [(.int (6 : Int32)), (.int x0), (.int (y2 + (1 : Int32))), (.int (3 : Int32)), (.ref b593)]))
  refine own_st (fun t_ => XS.iushr (own_here Y607) hx rfl (hb hby at_51) rfl) ?_
  show own_Ends _ _ _ _ (T606.setTop (mkF m 52 #[.val (.int x0), .val (.int x1), .val (.int x2), .val (.ref b593), .unset, .unset, .unset, .unset, .unset, .unset, .unset, .unset, .unset, .unset, .unset, .unset, .unset, .unset] [(.int ((x0.toUInt32 >>> ((6 : Int32) &&& 31).toUInt32).toInt32)), (.int (y2 + (1 : Int32))), (.int (3 : Int32)), (.ref b593)]))
  refine own_st (fun t_ => XS.iconst (own_here Y607) hx rfl (hb hby at_52) ) ?_
  show own_Ends _ _ _ _ (T606.setTop (mkF m 53 #[.val (.int x0), .val (.int x1), .val (.int x2), .val (.ref b593), .unset, .unset, .unset, .unset, .unset, .unset, .unset, .unset, .unset, .unset, .unset, .unset, .unset, .unset] [(.int (3 : Int32)), (.int ((x0.toUInt32 >>> ((6 : Int32) &&& 31).toUInt32).toInt32)), (.int (y2 + (1 : Int32))), (.int (3 : Int32)), (.ref b593)]))
  refine own_st (fun t_ => XS.iand (own_here Y607) hx rfl (hb hby at_53) rfl) ?_
  show own_Ends _ _ _ _ (T606.setTop (mkF m 54 #[.val (.int x0), .val (.int x1), .val (.int x2), .val (.ref b593), .unset, .unset, .unset, .unset, .unset, .unset, .unset, .unset, .unset, .unset, .unset, .unset, .unset, .unset] [(.int (((x0.toUInt32 >>> ((6 : Int32) &&& 31).toUInt32).toInt32) &&& (3 : Int32))), (.int (y2 + (1 : Int32))), (.int (3 : Int32)), (.ref b593)]))
  refine own_st (fun t_ => XS.iadd (own_here Y607) hx rfl (hb hby at_54) rfl) ?_
  show own_Ends _ _ _ _ (T606.setTop (mkF m 55 #[.val (.int x0), .val (.int x1), .val (.int x2), .val (.ref b593), .unset, .unset, .unset, .unset, .unset, .unset, .unset, .unset, .unset, .unset, .unset, .unset, .unset, .unset] [(.int ((y2 + (1 : Int32)) + (((x0.toUInt32 >>> ((6 : Int32) &&& 31).toUInt32).toInt32) &&& (3 : Int32)))), (.int (3 : Int32)), (.ref b593)]))
  generalize hy3 : ((y2 + (1 : Int32)) + (((x0.toUInt32 >>> ((6 : Int32) &&& 31).toUInt32).toInt32) &&& (3 : Int32))) = y3
  have gy3 : 1 ≤ y3.toInt ∧ y3.toInt ≤ 16 := by
    rw [← hy3]; have l1 : (1 : Int32).toInt = 1 := rfl; have l3 : (3 : Int32).toInt = 3 := rfl
    have a := c_and ((x0.toUInt32 >>> ((6 : Int32) &&& 31).toUInt32).toInt32) 3 (by decide)
    have b := c_iadd y2 1; have b2 := rng32 (y2 + 1)
    have c := c_iadd (y2 + 1) (((x0.toUInt32 >>> ((6 : Int32) &&& 31).toUInt32).toInt32) &&& 3)
    have d := rng32 ((y2 + 1) + (((x0.toUInt32 >>> ((6 : Int32) &&& 31).toUInt32).toInt32) &&& 3))
    omega
  refine own_stI Y607 hx hZ A610 g595 (i := 3) (by decide) (by decide) (Nat.le_of_ble_eq_true rfl) rfl rfl (hb hby at_55) (fun T611 h613 Y612 W614 A615 => ?_)
  replace A615 : own_A Z h613 b593 .int [(.int y0), (.int y1), (.int y2), (.int y3), (.int (0 : Int32)), (.int (0 : Int32)), (.int (0 : Int32)), (.int (0 : Int32)), (.int (0 : Int32))] := A615
  show own_Ends _ _ _ _ (T611.setTop (mkF m 56 #[.val (.int x0), .val (.int x1), .val (.int x2), .val (.ref b593), .unset, .unset, .unset, .unset, .unset, .unset, .unset, .unset, .unset, .unset, .unset, .unset, .unset, .unset] []))
  refine own_st (fun t_ => XS.aloadN (own_here Y612) hx rfl (hb hby at_56) rfl rfl) ?_
  show own_Ends _ _ _ _ (T611.setTop (mkF m 57 #[.val (.int x0), .val (.int x1), .val (.int x2), .val (.ref b593), .unset, .unset, .unset, .unset, .unset, .unset, .unset, .unset, .unset, .unset, .unset, .unset, .unset, .unset] [(.ref b593)]))
  refine own_st (fun t_ => XS.iconst (own_here Y612) hx rfl (hb hby at_57) ) ?_
  show own_Ends _ _ _ _ (T611.setTop (mkF m 58 #[.val (.int x0), .val (.int x1), .val (.int x2), .val (.ref b593), .unset, .unset, .unset, .unset, .unset, .unset, .unset, .unset, .unset, .unset, .unset, .unset, .unset, .unset] [(.int (4 : Int32)), (.ref b593)]))
  refine own_st (fun t_ => XS.aloadN (own_here Y612) hx rfl (hb hby at_58) rfl rfl) ?_
  show own_Ends _ _ _ _ (T611.setTop (mkF m 59 #[.val (.int x0), .val (.int x1), .val (.int x2), .val (.ref b593), .unset, .unset, .unset, .unset, .unset, .unset, .unset, .unset, .unset, .unset, .unset, .unset, .unset, .unset] [(.ref b593), (.int (4 : Int32)), (.ref b593)]))
  refine own_st (fun t_ => XS.iconst (own_here Y612) hx rfl (hb hby at_59) ) ?_
  show own_Ends _ _ _ _ (T611.setTop (mkF m 60 #[.val (.int x0), .val (.int x1), .val (.int x2), .val (.ref b593), .unset, .unset, .unset, .unset, .unset, .unset, .unset, .unset, .unset, .unset, .unset, .unset, .unset, .unset] [(.int (3 : Int32)), (.ref b593), (.int (4 : Int32)), (.ref b593)]))
  refine own_ldI Y612 hx hZ A615 (i := 3) (by decide) (by decide) (Nat.le_of_ble_eq_true rfl) (v := (.int y3)) rfl rfl rfl (hb hby at_60) ?_
  show own_Ends _ _ _ _ (T611.setTop (mkF m 61 #[.val (.int x0), .val (.int x1), .val (.int x2), .val (.ref b593), .unset, .unset, .unset, .unset, .unset, .unset, .unset, .unset, .unset, .unset, .unset, .unset, .unset, .unset] [(.int y3), (.int (4 : Int32)), (.ref b593)]))
  refine own_st (fun t_ => XS.iconst (own_here Y612) hx rfl (hb hby at_61) ) ?_
  show own_Ends _ _ _ _ (T611.setTop (mkF m 62 #[.val (.int x0), .val (.int x1), .val (.int x2), .val (.ref b593), .unset, .unset, .unset, .unset, .unset, .unset, .unset, .unset, .unset, .unset, .unset, .unset, .unset, .unset] [(.int (1 : Int32)), (.int y3), (.int (4 : Int32)), (.ref b593)]))
  refine own_st (fun t_ => XS.iadd (own_here Y612) hx rfl (hb hby at_62) rfl) ?_
  show own_Ends _ _ _ _ (T611.setTop (mkF m 63 #[.val (.int x0), .val (.int x1), .val (.int x2), .val (.ref b593), .unset, .unset, .unset, .unset, .unset, .unset, .unset, .unset, .unset, .unset, .unset, .unset, .unset, .unset] [(.int (y3 + (1 : Int32))), (.int (4 : Int32)), (.ref b593)]))
  refine own_st (fun t_ => XS.iloadN (own_here Y612) hx rfl (hb hby at_63) rfl) ?_
  show own_Ends _ _ _ _ (T611.setTop (mkF m 64 #[.val (.int x0), .val (.int x1), .val (.int x2), .val (.ref b593), .unset, .unset, .unset, .unset, .unset, .unset, .unset, .unset, .unset, .unset, .unset, .unset, .unset, .unset] [(.int x0), (.int (y3 + (1 : Int32))), (.int (4 : Int32)), (.ref b593)]))
  refine own_st (fun t_ => XS.bipush (own_here Y612) hx rfl (hb hby at_64) ) ?_
  show own_Ends _ _ _ _ (T611.setTop (mkF m 66 #[.val (.int x0), .val (.int x1), .val (.int x2), .val (.ref b593), .unset, .unset, .unset, .unset, .unset, .unset, .unset, .unset, .unset, .unset, .unset, .unset, .unset, .unset] [(.int (8 : Int32)), (.int x0), (.int (y3 + (1 : Int32))), (.int (4 : Int32)), (.ref b593)]))
  refine own_st (fun t_ => XS.iushr (own_here Y612) hx rfl (hb hby at_66) rfl) ?_
  show own_Ends _ _ _ _ (T611.setTop (mkF m 67 #[.val (.int x0), .val (.int x1), .val (.int x2), .val (.ref b593), .unset, .unset, .unset, .unset, .unset, .unset, .unset, .unset, .unset, .unset, .unset, .unset, .unset, .unset] [(.int ((x0.toUInt32 >>> ((8 : Int32) &&& 31).toUInt32).toInt32)), (.int (y3 + (1 : Int32))), (.int (4 : Int32)), (.ref b593)]))
  refine own_st (fun t_ => XS.iconst (own_here Y612) hx rfl (hb hby at_67) ) ?_
  show own_Ends _ _ _ _ (T611.setTop (mkF m 68 #[.val (.int x0), .val (.int x1), .val (.int x2), .val (.ref b593), .unset, .unset, .unset, .unset, .unset, .unset, .unset, .unset, .unset, .unset, .unset, .unset, .unset, .unset] [(.int (3 : Int32)), (.int ((x0.toUInt32 >>> ((8 : Int32) &&& 31).toUInt32).toInt32)), (.int (y3 + (1 : Int32))), (.int (4 : Int32)), (.ref b593)]))
  refine own_st (fun t_ => XS.iand (own_here Y612) hx rfl (hb hby at_68) rfl) ?_
  show own_Ends _ _ _ _ (T611.setTop (mkF m 69 #[.val (.int x0), .val (.int x1), .val (.int x2), .val (.ref b593), .unset, .unset, .unset, .unset, .unset, .unset, .unset, .unset, .unset, .unset, .unset, .unset, .unset, .unset] [(.int (((x0.toUInt32 >>> ((8 : Int32) &&& 31).toUInt32).toInt32) &&& (3 : Int32))), (.int (y3 + (1 : Int32))), (.int (4 : Int32)), (.ref b593)]))
  refine own_st (fun t_ => XS.iadd (own_here Y612) hx rfl (hb hby at_69) rfl) ?_
  show own_Ends _ _ _ _ (T611.setTop (mkF m 70 #[.val (.int x0), .val (.int x1), .val (.int x2), .val (.ref b593), .unset, .unset, .unset, .unset, .unset, .unset, .unset, .unset, .unset, .unset, .unset, .unset, .unset, .unset] [(.int ((y3 + (1 : Int32)) + (((x0.toUInt32 >>> ((8 : Int32) &&& 31).toUInt32).toInt32) &&& (3 : Int32)))), (.int (4 : Int32)), (.ref b593)]))
  generalize hy4 : ((y3 + (1 : Int32)) + (((x0.toUInt32 >>> ((8 : Int32) &&& 31).toUInt32).toInt32) &&& (3 : Int32))) = y4
  have gy4 : 1 ≤ y4.toInt ∧ y4.toInt ≤ 20 := by
    rw [← hy4]; have l1 : (1 : Int32).toInt = 1 := rfl; have l3 : (3 : Int32).toInt = 3 := rfl
    have a := c_and ((x0.toUInt32 >>> ((8 : Int32) &&& 31).toUInt32).toInt32) 3 (by decide)
    have b := c_iadd y3 1; have b2 := rng32 (y3 + 1)
    have c := c_iadd (y3 + 1) (((x0.toUInt32 >>> ((8 : Int32) &&& 31).toUInt32).toInt32) &&& 3)
    have d := rng32 ((y3 + 1) + (((x0.toUInt32 >>> ((8 : Int32) &&& 31).toUInt32).toInt32) &&& 3))
    omega
  refine own_stI Y612 hx hZ A615 g595 (i := 4) (by decide) (by decide) (Nat.le_of_ble_eq_true rfl) rfl rfl (hb hby at_70) (fun T616 h618 Y617 W619 A620 => ?_)
  replace A620 : own_A Z h618 b593 .int [(.int y0), (.int y1), (.int y2), (.int y3), (.int y4), (.int (0 : Int32)), (.int (0 : Int32)), (.int (0 : Int32)), (.int (0 : Int32))] := A620
  show own_Ends _ _ _ _ (T616.setTop (mkF m 71 #[.val (.int x0), .val (.int x1), .val (.int x2), .val (.ref b593), .unset, .unset, .unset, .unset, .unset, .unset, .unset, .unset, .unset, .unset, .unset, .unset, .unset, .unset] []))
  refine own_st (fun t_ => XS.aloadN (own_here Y617) hx rfl (hb hby at_71) rfl rfl) ?_
  show own_Ends _ _ _ _ (T616.setTop (mkF m 72 #[.val (.int x0), .val (.int x1), .val (.int x2), .val (.ref b593), .unset, .unset, .unset, .unset, .unset, .unset, .unset, .unset, .unset, .unset, .unset, .unset, .unset, .unset] [(.ref b593)]))
  refine own_st (fun t_ => XS.iconst (own_here Y617) hx rfl (hb hby at_72) ) ?_
  show own_Ends _ _ _ _ (T616.setTop (mkF m 73 #[.val (.int x0), .val (.int x1), .val (.int x2), .val (.ref b593), .unset, .unset, .unset, .unset, .unset, .unset, .unset, .unset, .unset, .unset, .unset, .unset, .unset, .unset] [(.int (5 : Int32)), (.ref b593)]))
  refine own_st (fun t_ => XS.aloadN (own_here Y617) hx rfl (hb hby at_73) rfl rfl) ?_
  show own_Ends _ _ _ _ (T616.setTop (mkF m 74 #[.val (.int x0), .val (.int x1), .val (.int x2), .val (.ref b593), .unset, .unset, .unset, .unset, .unset, .unset, .unset, .unset, .unset, .unset, .unset, .unset, .unset, .unset] [(.ref b593), (.int (5 : Int32)), (.ref b593)]))
  refine own_st (fun t_ => XS.iconst (own_here Y617) hx rfl (hb hby at_74) ) ?_
  show own_Ends _ _ _ _ (T616.setTop (mkF m 75 #[.val (.int x0), .val (.int x1), .val (.int x2), .val (.ref b593), .unset, .unset, .unset, .unset, .unset, .unset, .unset, .unset, .unset, .unset, .unset, .unset, .unset, .unset] [(.int (4 : Int32)), (.ref b593), (.int (5 : Int32)), (.ref b593)]))
  refine own_ldI Y617 hx hZ A620 (i := 4) (by decide) (by decide) (Nat.le_of_ble_eq_true rfl) (v := (.int y4)) rfl rfl rfl (hb hby at_75) ?_
  show own_Ends _ _ _ _ (T616.setTop (mkF m 76 #[.val (.int x0), .val (.int x1), .val (.int x2), .val (.ref b593), .unset, .unset, .unset, .unset, .unset, .unset, .unset, .unset, .unset, .unset, .unset, .unset, .unset, .unset] [(.int y4), (.int (5 : Int32)), (.ref b593)]))
  refine own_st (fun t_ => XS.iconst (own_here Y617) hx rfl (hb hby at_76) ) ?_
  show own_Ends _ _ _ _ (T616.setTop (mkF m 77 #[.val (.int x0), .val (.int x1), .val (.int x2), .val (.ref b593), .unset, .unset, .unset, .unset, .unset, .unset, .unset, .unset, .unset, .unset, .unset, .unset, .unset, .unset] [(.int (1 : Int32)), (.int y4), (.int (5 : Int32)), (.ref b593)]))
  refine own_st (fun t_ => XS.iadd (own_here Y617) hx rfl (hb hby at_77) rfl) ?_
  show own_Ends _ _ _ _ (T616.setTop (mkF m 78 #[.val (.int x0), .val (.int x1), .val (.int x2), .val (.ref b593), .unset, .unset, .unset, .unset, .unset, .unset, .unset, .unset, .unset, .unset, .unset, .unset, .unset, .unset] [(.int (y4 + (1 : Int32))), (.int (5 : Int32)), (.ref b593)]))
  refine own_st (fun t_ => XS.iloadN (own_here Y617) hx rfl (hb hby at_78) rfl) ?_
  show own_Ends _ _ _ _ (T616.setTop (mkF m 79 #[.val (.int x0), .val (.int x1), .val (.int x2), .val (.ref b593), .unset, .unset, .unset, .unset, .unset, .unset, .unset, .unset, .unset, .unset, .unset, .unset, .unset, .unset] [(.int x0), (.int (y4 + (1 : Int32))), (.int (5 : Int32)), (.ref b593)]))
  refine own_st (fun t_ => XS.bipush (own_here Y617) hx rfl (hb hby at_79) ) ?_
  show own_Ends _ _ _ _ (T616.setTop (mkF m 81 #[.val (.int x0), .val (.int x1), .val (.int x2), .val (.ref b593), .unset, .unset, .unset, .unset, .unset, .unset, .unset, .unset, .unset, .unset, .unset, .unset, .unset, .unset] [(.int (10 : Int32)), (.int x0), (.int (y4 + (1 : Int32))), (.int (5 : Int32)), (.ref b593)]))
  refine own_st (fun t_ => XS.iushr (own_here Y617) hx rfl (hb hby at_81) rfl) ?_
  show own_Ends _ _ _ _ (T616.setTop (mkF m 82 #[.val (.int x0), .val (.int x1), .val (.int x2), .val (.ref b593), .unset, .unset, .unset, .unset, .unset, .unset, .unset, .unset, .unset, .unset, .unset, .unset, .unset, .unset] [(.int ((x0.toUInt32 >>> ((10 : Int32) &&& 31).toUInt32).toInt32)), (.int (y4 + (1 : Int32))), (.int (5 : Int32)), (.ref b593)]))
  refine own_st (fun t_ => XS.iconst (own_here Y617) hx rfl (hb hby at_82) ) ?_
  show own_Ends _ _ _ _ (T616.setTop (mkF m 83 #[.val (.int x0), .val (.int x1), .val (.int x2), .val (.ref b593), .unset, .unset, .unset, .unset, .unset, .unset, .unset, .unset, .unset, .unset, .unset, .unset, .unset, .unset] [(.int (3 : Int32)), (.int ((x0.toUInt32 >>> ((10 : Int32) &&& 31).toUInt32).toInt32)), (.int (y4 + (1 : Int32))), (.int (5 : Int32)), (.ref b593)]))
  refine own_st (fun t_ => XS.iand (own_here Y617) hx rfl (hb hby at_83) rfl) ?_
  show own_Ends _ _ _ _ (T616.setTop (mkF m 84 #[.val (.int x0), .val (.int x1), .val (.int x2), .val (.ref b593), .unset, .unset, .unset, .unset, .unset, .unset, .unset, .unset, .unset, .unset, .unset, .unset, .unset, .unset] [(.int (((x0.toUInt32 >>> ((10 : Int32) &&& 31).toUInt32).toInt32) &&& (3 : Int32))), (.int (y4 + (1 : Int32))), (.int (5 : Int32)), (.ref b593)]))
  refine own_st (fun t_ => XS.iadd (own_here Y617) hx rfl (hb hby at_84) rfl) ?_
  show own_Ends _ _ _ _ (T616.setTop (mkF m 85 #[.val (.int x0), .val (.int x1), .val (.int x2), .val (.ref b593), .unset, .unset, .unset, .unset, .unset, .unset, .unset, .unset, .unset, .unset, .unset, .unset, .unset, .unset] [(.int ((y4 + (1 : Int32)) + (((x0.toUInt32 >>> ((10 : Int32) &&& 31).toUInt32).toInt32) &&& (3 : Int32)))), (.int (5 : Int32)), (.ref b593)]))
  generalize hy5 : ((y4 + (1 : Int32)) + (((x0.toUInt32 >>> ((10 : Int32) &&& 31).toUInt32).toInt32) &&& (3 : Int32))) = y5
  have gy5 : 1 ≤ y5.toInt ∧ y5.toInt ≤ 24 := by
    rw [← hy5]; have l1 : (1 : Int32).toInt = 1 := rfl; have l3 : (3 : Int32).toInt = 3 := rfl
    have a := c_and ((x0.toUInt32 >>> ((10 : Int32) &&& 31).toUInt32).toInt32) 3 (by decide)
    have b := c_iadd y4 1; have b2 := rng32 (y4 + 1)
    have c := c_iadd (y4 + 1) (((x0.toUInt32 >>> ((10 : Int32) &&& 31).toUInt32).toInt32) &&& 3)
    have d := rng32 ((y4 + 1) + (((x0.toUInt32 >>> ((10 : Int32) &&& 31).toUInt32).toInt32) &&& 3))
    omega
  refine own_stI Y617 hx hZ A620 g595 (i := 5) (by decide) (by decide) (Nat.le_of_ble_eq_true rfl) rfl rfl (hb hby at_85) (fun T621 h623 Y622 W624 A625 => ?_)
  replace A625 : own_A Z h623 b593 .int [(.int y0), (.int y1), (.int y2), (.int y3), (.int y4), (.int y5), (.int (0 : Int32)), (.int (0 : Int32)), (.int (0 : Int32))] := A625
  show own_Ends _ _ _ _ (T621.setTop (mkF m 86 #[.val (.int x0), .val (.int x1), .val (.int x2), .val (.ref b593), .unset, .unset, .unset, .unset, .unset, .unset, .unset, .unset, .unset, .unset, .unset, .unset, .unset, .unset] []))
  refine own_st (fun t_ => XS.aloadN (own_here Y622) hx rfl (hb hby at_86) rfl rfl) ?_
  show own_Ends _ _ _ _ (T621.setTop (mkF m 87 #[.val (.int x0), .val (.int x1), .val (.int x2), .val (.ref b593), .unset, .unset, .unset, .unset, .unset, .unset, .unset, .unset, .unset, .unset, .unset, .unset, .unset, .unset] [(.ref b593)]))
  refine own_st (fun t_ => XS.bipush (own_here Y622) hx rfl (hb hby at_87) ) ?_
  show own_Ends _ _ _ _ (T621.setTop (mkF m 89 #[.val (.int x0), .val (.int x1), .val (.int x2), .val (.ref b593), .unset, .unset, .unset, .unset, .unset, .unset, .unset, .unset, .unset, .unset, .unset, .unset, .unset, .unset] [(.int (6 : Int32)), (.ref b593)]))
  refine own_st (fun t_ => XS.aloadN (own_here Y622) hx rfl (hb hby at_89) rfl rfl) ?_
  show own_Ends _ _ _ _ (T621.setTop (mkF m 90 #[.val (.int x0), .val (.int x1), .val (.int x2), .val (.ref b593), .unset, .unset, .unset, .unset, .unset, .unset, .unset, .unset, .unset, .unset, .unset, .unset, .unset, .unset] [(.ref b593), (.int (6 : Int32)), (.ref b593)]))
  refine own_st (fun t_ => XS.iconst (own_here Y622) hx rfl (hb hby at_90) ) ?_
  show own_Ends _ _ _ _ (T621.setTop (mkF m 91 #[.val (.int x0), .val (.int x1), .val (.int x2), .val (.ref b593), .unset, .unset, .unset, .unset, .unset, .unset, .unset, .unset, .unset, .unset, .unset, .unset, .unset, .unset] [(.int (5 : Int32)), (.ref b593), (.int (6 : Int32)), (.ref b593)]))
  refine own_ldI Y622 hx hZ A625 (i := 5) (by decide) (by decide) (Nat.le_of_ble_eq_true rfl) (v := (.int y5)) rfl rfl rfl (hb hby at_91) ?_
  show own_Ends _ _ _ _ (T621.setTop (mkF m 92 #[.val (.int x0), .val (.int x1), .val (.int x2), .val (.ref b593), .unset, .unset, .unset, .unset, .unset, .unset, .unset, .unset, .unset, .unset, .unset, .unset, .unset, .unset] [(.int y5), (.int (6 : Int32)), (.ref b593)]))
  refine own_st (fun t_ => XS.iconst (own_here Y622) hx rfl (hb hby at_92) ) ?_
  show own_Ends _ _ _ _ (T621.setTop (mkF m 93 #[.val (.int x0), .val (.int x1), .val (.int x2), .val (.ref b593), .unset, .unset, .unset, .unset, .unset, .unset, .unset, .unset, .unset, .unset, .unset, .unset, .unset, .unset] [(.int (1 : Int32)), (.int y5), (.int (6 : Int32)), (.ref b593)]))
  refine own_st (fun t_ => XS.iadd (own_here Y622) hx rfl (hb hby at_93) rfl) ?_
  show own_Ends _ _ _ _ (T621.setTop (mkF m 94 #[.val (.int x0), .val (.int x1), .val (.int x2), .val (.ref b593), .unset, .unset, .unset, .unset, .unset, .unset, .unset, .unset, .unset, .unset, .unset, .unset, .unset, .unset] [(.int (y5 + (1 : Int32))), (.int (6 : Int32)), (.ref b593)]))
  refine own_st (fun t_ => XS.iloadN (own_here Y622) hx rfl (hb hby at_94) rfl) ?_
  show own_Ends _ _ _ _ (T621.setTop (mkF m 95 #[.val (.int x0), .val (.int x1), .val (.int x2), .val (.ref b593), .unset, .unset, .unset, .unset, .unset, .unset, .unset, .unset, .unset, .unset, .unset, .unset, .unset, .unset] [(.int x0), (.int (y5 + (1 : Int32))), (.int (6 : Int32)), (.ref b593)]))
  refine own_st (fun t_ => XS.bipush (own_here Y622) hx rfl (hb hby at_95) ) ?_
  show own_Ends _ _ _ _ (T621.setTop (mkF m 97 #[.val (.int x0), .val (.int x1), .val (.int x2), .val (.ref b593), .unset, .unset, .unset, .unset, .unset, .unset, .unset, .unset, .unset, .unset, .unset, .unset, .unset, .unset] [(.int (12 : Int32)), (.int x0), (.int (y5 + (1 : Int32))), (.int (6 : Int32)), (.ref b593)]))
  refine own_st (fun t_ => XS.iushr (own_here Y622) hx rfl (hb hby at_97) rfl) ?_
  show own_Ends _ _ _ _ (T621.setTop (mkF m 98 #[.val (.int x0), .val (.int x1), .val (.int x2), .val (.ref b593), .unset, .unset, .unset, .unset, .unset, .unset, .unset, .unset, .unset, .unset, .unset, .unset, .unset, .unset] [(.int ((x0.toUInt32 >>> ((12 : Int32) &&& 31).toUInt32).toInt32)), (.int (y5 + (1 : Int32))), (.int (6 : Int32)), (.ref b593)]))
  refine own_st (fun t_ => XS.iconst (own_here Y622) hx rfl (hb hby at_98) ) ?_
  show own_Ends _ _ _ _ (T621.setTop (mkF m 99 #[.val (.int x0), .val (.int x1), .val (.int x2), .val (.ref b593), .unset, .unset, .unset, .unset, .unset, .unset, .unset, .unset, .unset, .unset, .unset, .unset, .unset, .unset] [(.int (3 : Int32)), (.int ((x0.toUInt32 >>> ((12 : Int32) &&& 31).toUInt32).toInt32)), (.int (y5 + (1 : Int32))), (.int (6 : Int32)), (.ref b593)]))
  refine own_st (fun t_ => XS.iand (own_here Y622) hx rfl (hb hby at_99) rfl) ?_
  show own_Ends _ _ _ _ (T621.setTop (mkF m 100 #[.val (.int x0), .val (.int x1), .val (.int x2), .val (.ref b593), .unset, .unset, .unset, .unset, .unset, .unset, .unset, .unset, .unset, .unset, .unset, .unset, .unset, .unset] [(.int (((x0.toUInt32 >>> ((12 : Int32) &&& 31).toUInt32).toInt32) &&& (3 : Int32))), (.int (y5 + (1 : Int32))), (.int (6 : Int32)), (.ref b593)]))
  refine own_st (fun t_ => XS.iadd (own_here Y622) hx rfl (hb hby at_100) rfl) ?_
  show own_Ends _ _ _ _ (T621.setTop (mkF m 101 #[.val (.int x0), .val (.int x1), .val (.int x2), .val (.ref b593), .unset, .unset, .unset, .unset, .unset, .unset, .unset, .unset, .unset, .unset, .unset, .unset, .unset, .unset] [(.int ((y5 + (1 : Int32)) + (((x0.toUInt32 >>> ((12 : Int32) &&& 31).toUInt32).toInt32) &&& (3 : Int32)))), (.int (6 : Int32)), (.ref b593)]))
  generalize hy6 : ((y5 + (1 : Int32)) + (((x0.toUInt32 >>> ((12 : Int32) &&& 31).toUInt32).toInt32) &&& (3 : Int32))) = y6
  have gy6 : 1 ≤ y6.toInt ∧ y6.toInt ≤ 28 := by
    rw [← hy6]; have l1 : (1 : Int32).toInt = 1 := rfl; have l3 : (3 : Int32).toInt = 3 := rfl
    have a := c_and ((x0.toUInt32 >>> ((12 : Int32) &&& 31).toUInt32).toInt32) 3 (by decide)
    have b := c_iadd y5 1; have b2 := rng32 (y5 + 1)
    have c := c_iadd (y5 + 1) (((x0.toUInt32 >>> ((12 : Int32) &&& 31).toUInt32).toInt32) &&& 3)
    have d := rng32 ((y5 + 1) + (((x0.toUInt32 >>> ((12 : Int32) &&& 31).toUInt32).toInt32) &&& 3))
    omega
  refine own_stI Y622 hx hZ A625 g595 (i := 6) (by decide) (by decide) (Nat.le_of_ble_eq_true rfl) rfl rfl (hb hby at_101) (fun T626 h628 Y627 W629 A630 => ?_)
  replace A630 : own_A Z h628 b593 .int [(.int y0), (.int y1), (.int y2), (.int y3), (.int y4), (.int y5), (.int y6), (.int (0 : Int32)), (.int (0 : Int32))] := A630
  show own_Ends _ _ _ _ (T626.setTop (mkF m 102 #[.val (.int x0), .val (.int x1), .val (.int x2), .val (.ref b593), .unset, .unset, .unset, .unset, .unset, .unset, .unset, .unset, .unset, .unset, .unset, .unset, .unset, .unset] []))
  refine own_st (fun t_ => XS.aloadN (own_here Y627) hx rfl (hb hby at_102) rfl rfl) ?_
  show own_Ends _ _ _ _ (T626.setTop (mkF m 103 #[.val (.int x0), .val (.int x1), .val (.int x2), .val (.ref b593), .unset, .unset, .unset, .unset, .unset, .unset, .unset, .unset, .unset, .unset, .unset, .unset, .unset, .unset] [(.ref b593)]))
  refine own_st (fun t_ => XS.bipush (own_here Y627) hx rfl (hb hby at_103) ) ?_
  show own_Ends _ _ _ _ (T626.setTop (mkF m 105 #[.val (.int x0), .val (.int x1), .val (.int x2), .val (.ref b593), .unset, .unset, .unset, .unset, .unset, .unset, .unset, .unset, .unset, .unset, .unset, .unset, .unset, .unset] [(.int (7 : Int32)), (.ref b593)]))
  refine own_st (fun t_ => XS.aloadN (own_here Y627) hx rfl (hb hby at_105) rfl rfl) ?_
  show own_Ends _ _ _ _ (T626.setTop (mkF m 106 #[.val (.int x0), .val (.int x1), .val (.int x2), .val (.ref b593), .unset, .unset, .unset, .unset, .unset, .unset, .unset, .unset, .unset, .unset, .unset, .unset, .unset, .unset] [(.ref b593), (.int (7 : Int32)), (.ref b593)]))
  refine own_st (fun t_ => XS.bipush (own_here Y627) hx rfl (hb hby at_106) ) ?_
  show own_Ends _ _ _ _ (T626.setTop (mkF m 108 #[.val (.int x0), .val (.int x1), .val (.int x2), .val (.ref b593), .unset, .unset, .unset, .unset, .unset, .unset, .unset, .unset, .unset, .unset, .unset, .unset, .unset, .unset] [(.int (6 : Int32)), (.ref b593), (.int (7 : Int32)), (.ref b593)]))
  refine own_ldI Y627 hx hZ A630 (i := 6) (by decide) (by decide) (Nat.le_of_ble_eq_true rfl) (v := (.int y6)) rfl rfl rfl (hb hby at_108) ?_
  show own_Ends _ _ _ _ (T626.setTop (mkF m 109 #[.val (.int x0), .val (.int x1), .val (.int x2), .val (.ref b593), .unset, .unset, .unset, .unset, .unset, .unset, .unset, .unset, .unset, .unset, .unset, .unset, .unset, .unset] [(.int y6), (.int (7 : Int32)), (.ref b593)]))
  refine own_st (fun t_ => XS.iconst (own_here Y627) hx rfl (hb hby at_109) ) ?_
  show own_Ends _ _ _ _ (T626.setTop (mkF m 110 #[.val (.int x0), .val (.int x1), .val (.int x2), .val (.ref b593), .unset, .unset, .unset, .unset, .unset, .unset, .unset, .unset, .unset, .unset, .unset, .unset, .unset, .unset] [(.int (1 : Int32)), (.int y6), (.int (7 : Int32)), (.ref b593)]))
  refine own_st (fun t_ => XS.iadd (own_here Y627) hx rfl (hb hby at_110) rfl) ?_
  show own_Ends _ _ _ _ (T626.setTop (mkF m 111 #[.val (.int x0), .val (.int x1), .val (.int x2), .val (.ref b593), .unset, .unset, .unset, .unset, .unset, .unset, .unset, .unset, .unset, .unset, .unset, .unset, .unset, .unset] [(.int (y6 + (1 : Int32))), (.int (7 : Int32)), (.ref b593)]))
  refine own_st (fun t_ => XS.iloadN (own_here Y627) hx rfl (hb hby at_111) rfl) ?_
  show own_Ends _ _ _ _ (T626.setTop (mkF m 112 #[.val (.int x0), .val (.int x1), .val (.int x2), .val (.ref b593), .unset, .unset, .unset, .unset, .unset, .unset, .unset, .unset, .unset, .unset, .unset, .unset, .unset, .unset] [(.int x0), (.int (y6 + (1 : Int32))), (.int (7 : Int32)), (.ref b593)]))
  refine own_st (fun t_ => XS.bipush (own_here Y627) hx rfl (hb hby at_112) ) ?_
  show own_Ends _ _ _ _ (T626.setTop (mkF m 114 #[.val (.int x0), .val (.int x1), .val (.int x2), .val (.ref b593), .unset, .unset, .unset, .unset, .unset, .unset, .unset, .unset, .unset, .unset, .unset, .unset, .unset, .unset] [(.int (14 : Int32)), (.int x0), (.int (y6 + (1 : Int32))), (.int (7 : Int32)), (.ref b593)]))
  refine own_st (fun t_ => XS.iushr (own_here Y627) hx rfl (hb hby at_114) rfl) ?_
  show own_Ends _ _ _ _ (T626.setTop (mkF m 115 #[.val (.int x0), .val (.int x1), .val (.int x2), .val (.ref b593), .unset, .unset, .unset, .unset, .unset, .unset, .unset, .unset, .unset, .unset, .unset, .unset, .unset, .unset] [(.int ((x0.toUInt32 >>> ((14 : Int32) &&& 31).toUInt32).toInt32)), (.int (y6 + (1 : Int32))), (.int (7 : Int32)), (.ref b593)]))
  refine own_st (fun t_ => XS.iconst (own_here Y627) hx rfl (hb hby at_115) ) ?_
  show own_Ends _ _ _ _ (T626.setTop (mkF m 116 #[.val (.int x0), .val (.int x1), .val (.int x2), .val (.ref b593), .unset, .unset, .unset, .unset, .unset, .unset, .unset, .unset, .unset, .unset, .unset, .unset, .unset, .unset] [(.int (3 : Int32)), (.int ((x0.toUInt32 >>> ((14 : Int32) &&& 31).toUInt32).toInt32)), (.int (y6 + (1 : Int32))), (.int (7 : Int32)), (.ref b593)]))
  refine own_st (fun t_ => XS.iand (own_here Y627) hx rfl (hb hby at_116) rfl) ?_
  show own_Ends _ _ _ _ (T626.setTop (mkF m 117 #[.val (.int x0), .val (.int x1), .val (.int x2), .val (.ref b593), .unset, .unset, .unset, .unset, .unset, .unset, .unset, .unset, .unset, .unset, .unset, .unset, .unset, .unset] [(.int (((x0.toUInt32 >>> ((14 : Int32) &&& 31).toUInt32).toInt32) &&& (3 : Int32))), (.int (y6 + (1 : Int32))), (.int (7 : Int32)), (.ref b593)]))
  refine own_st (fun t_ => XS.iadd (own_here Y627) hx rfl (hb hby at_117) rfl) ?_
  show own_Ends _ _ _ _ (T626.setTop (mkF m 118 #[.val (.int x0), .val (.int x1), .val (.int x2), .val (.ref b593), .unset, .unset, .unset, .unset, .unset, .unset, .unset, .unset, .unset, .unset, .unset, .unset, .unset, .unset] [(.int ((y6 + (1 : Int32)) + (((x0.toUInt32 >>> ((14 : Int32) &&& 31).toUInt32).toInt32) &&& (3 : Int32)))), (.int (7 : Int32)), (.ref b593)]))
  generalize hy7 : ((y6 + (1 : Int32)) + (((x0.toUInt32 >>> ((14 : Int32) &&& 31).toUInt32).toInt32) &&& (3 : Int32))) = y7
  have gy7 : 1 ≤ y7.toInt ∧ y7.toInt ≤ 32 := by
    rw [← hy7]; have l1 : (1 : Int32).toInt = 1 := rfl; have l3 : (3 : Int32).toInt = 3 := rfl
    have a := c_and ((x0.toUInt32 >>> ((14 : Int32) &&& 31).toUInt32).toInt32) 3 (by decide)
    have b := c_iadd y6 1; have b2 := rng32 (y6 + 1)
    have c := c_iadd (y6 + 1) (((x0.toUInt32 >>> ((14 : Int32) &&& 31).toUInt32).toInt32) &&& 3)
    have d := rng32 ((y6 + 1) + (((x0.toUInt32 >>> ((14 : Int32) &&& 31).toUInt32).toInt32) &&& 3))
    omega
  refine own_stI Y627 hx hZ A630 g595 (i := 7) (by decide) (by decide) (Nat.le_of_ble_eq_true rfl) rfl rfl (hb hby at_118) (fun T631 h633 Y632 W634 A635 => ?_)
  replace A635 : own_A Z h633 b593 .int [(.int y0), (.int y1), (.int y2), (.int y3), (.int y4), (.int y5), (.int y6), (.int y7), (.int (0 : Int32))] := A635
  show own_Ends _ _ _ _ (T631.setTop (mkF m 119 #[.val (.int x0), .val (.int x1), .val (.int x2), .val (.ref b593), .unset, .unset, .unset, .unset, .unset, .unset, .unset, .unset, .unset, .unset, .unset, .unset, .unset, .unset] []))
  refine own_st (fun t_ => XS.aloadN (own_here Y632) hx rfl (hb hby at_119) rfl rfl) ?_
  show own_Ends _ _ _ _ (T631.setTop (mkF m 120 #[.val (.int x0), .val (.int x1), .val (.int x2), .val (.ref b593), .unset, .unset, .unset, .unset, .unset, .unset, .unset, .unset, .unset, .unset, .unset, .unset, .unset, .unset] [(.ref b593)]))
  refine own_st (fun t_ => XS.bipush (own_here Y632) hx rfl (hb hby at_120) ) ?_
  show own_Ends _ _ _ _ (T631.setTop (mkF m 122 #[.val (.int x0), .val (.int x1), .val (.int x2), .val (.ref b593), .unset, .unset, .unset, .unset, .unset, .unset, .unset, .unset, .unset, .unset, .unset, .unset, .unset, .unset] [(.int (8 : Int32)), (.ref b593)]))
  refine own_st (fun t_ => XS.aloadN (own_here Y632) hx rfl (hb hby at_122) rfl rfl) ?_
  show own_Ends _ _ _ _ (T631.setTop (mkF m 123 #[.val (.int x0), .val (.int x1), .val (.int x2), .val (.ref b593), .unset, .unset, .unset, .unset, .unset, .unset, .unset, .unset, .unset, .unset, .unset, .unset, .unset, .unset] [(.ref b593), (.int (8 : Int32)), (.ref b593)]))
  refine own_st (fun t_ => XS.bipush (own_here Y632) hx rfl (hb hby at_123) ) ?_
  show own_Ends _ _ _ _ (T631.setTop (mkF m 125 #[.val (.int x0), .val (.int x1), .val (.int x2), .val (.ref b593), .unset, .unset, .unset, .unset, .unset, .unset, .unset, .unset, .unset, .unset, .unset, .unset, .unset, .unset] [(.int (7 : Int32)), (.ref b593), (.int (8 : Int32)), (.ref b593)]))
  refine own_ldI Y632 hx hZ A635 (i := 7) (by decide) (by decide) (Nat.le_of_ble_eq_true rfl) (v := (.int y7)) rfl rfl rfl (hb hby at_125) ?_
  show own_Ends _ _ _ _ (T631.setTop (mkF m 126 #[.val (.int x0), .val (.int x1), .val (.int x2), .val (.ref b593), .unset, .unset, .unset, .unset, .unset, .unset, .unset, .unset, .unset, .unset, .unset, .unset, .unset, .unset] [(.int y7), (.int (8 : Int32)), (.ref b593)]))
  refine own_st (fun t_ => XS.iconst (own_here Y632) hx rfl (hb hby at_126) ) ?_
  show own_Ends _ _ _ _ (T631.setTop (mkF m 127 #[.val (.int x0), .val (.int x1), .val (.int x2), .val (.ref b593), .unset, .unset, .unset, .unset, .unset, .unset, .unset, .unset, .unset, .unset, .unset, .unset, .unset, .unset] [(.int (1 : Int32)), (.int y7), (.int (8 : Int32)), (.ref b593)]))
  refine own_st (fun t_ => XS.iadd (own_here Y632) hx rfl (hb hby at_127) rfl) ?_
  show own_Ends _ _ _ _ (T631.setTop (mkF m 128 #[.val (.int x0), .val (.int x1), .val (.int x2), .val (.ref b593), .unset, .unset, .unset, .unset, .unset, .unset, .unset, .unset, .unset, .unset, .unset, .unset, .unset, .unset] [(.int (y7 + (1 : Int32))), (.int (8 : Int32)), (.ref b593)]))
  refine own_st (fun t_ => XS.iloadN (own_here Y632) hx rfl (hb hby at_128) rfl) ?_
  show own_Ends _ _ _ _ (T631.setTop (mkF m 129 #[.val (.int x0), .val (.int x1), .val (.int x2), .val (.ref b593), .unset, .unset, .unset, .unset, .unset, .unset, .unset, .unset, .unset, .unset, .unset, .unset, .unset, .unset] [(.int x0), (.int (y7 + (1 : Int32))), (.int (8 : Int32)), (.ref b593)]))
  refine own_st (fun t_ => XS.bipush (own_here Y632) hx rfl (hb hby at_129) ) ?_
  show own_Ends _ _ _ _ (T631.setTop (mkF m 131 #[.val (.int x0), .val (.int x1), .val (.int x2), .val (.ref b593), .unset, .unset, .unset, .unset, .unset, .unset, .unset, .unset, .unset, .unset, .unset, .unset, .unset, .unset] [(.int (16 : Int32)), (.int x0), (.int (y7 + (1 : Int32))), (.int (8 : Int32)), (.ref b593)]))
  refine own_st (fun t_ => XS.iushr (own_here Y632) hx rfl (hb hby at_131) rfl) ?_
  show own_Ends _ _ _ _ (T631.setTop (mkF m 132 #[.val (.int x0), .val (.int x1), .val (.int x2), .val (.ref b593), .unset, .unset, .unset, .unset, .unset, .unset, .unset, .unset, .unset, .unset, .unset, .unset, .unset, .unset] [(.int ((x0.toUInt32 >>> ((16 : Int32) &&& 31).toUInt32).toInt32)), (.int (y7 + (1 : Int32))), (.int (8 : Int32)), (.ref b593)]))
  refine own_st (fun t_ => XS.iconst (own_here Y632) hx rfl (hb hby at_132) ) ?_
  show own_Ends _ _ _ _ (T631.setTop (mkF m 133 #[.val (.int x0), .val (.int x1), .val (.int x2), .val (.ref b593), .unset, .unset, .unset, .unset, .unset, .unset, .unset, .unset, .unset, .unset, .unset, .unset, .unset, .unset] [(.int (3 : Int32)), (.int ((x0.toUInt32 >>> ((16 : Int32) &&& 31).toUInt32).toInt32)), (.int (y7 + (1 : Int32))), (.int (8 : Int32)), (.ref b593)]))
  refine own_st (fun t_ => XS.iand (own_here Y632) hx rfl (hb hby at_133) rfl) ?_
  show own_Ends _ _ _ _ (T631.setTop (mkF m 134 #[.val (.int x0), .val (.int x1), .val (.int x2), .val (.ref b593), .unset, .unset, .unset, .unset, .unset, .unset, .unset, .unset, .unset, .unset, .unset, .unset, .unset, .unset] [(.int (((x0.toUInt32 >>> ((16 : Int32) &&& 31).toUInt32).toInt32) &&& (3 : Int32))), (.int (y7 + (1 : Int32))), (.int (8 : Int32)), (.ref b593)]))
  refine own_st (fun t_ => XS.iadd (own_here Y632) hx rfl (hb hby at_134) rfl) ?_
  show own_Ends _ _ _ _ (T631.setTop (mkF m 135 #[.val (.int x0), .val (.int x1), .val (.int x2), .val (.ref b593), .unset, .unset, .unset, .unset, .unset, .unset, .unset, .unset, .unset, .unset, .unset, .unset, .unset, .unset] [(.int ((y7 + (1 : Int32)) + (((x0.toUInt32 >>> ((16 : Int32) &&& 31).toUInt32).toInt32) &&& (3 : Int32)))), (.int (8 : Int32)), (.ref b593)]))
  generalize hy8 : ((y7 + (1 : Int32)) + (((x0.toUInt32 >>> ((16 : Int32) &&& 31).toUInt32).toInt32) &&& (3 : Int32))) = y8
  have gy8 : 1 ≤ y8.toInt ∧ y8.toInt ≤ 36 := by
    rw [← hy8]; have l1 : (1 : Int32).toInt = 1 := rfl; have l3 : (3 : Int32).toInt = 3 := rfl
    have a := c_and ((x0.toUInt32 >>> ((16 : Int32) &&& 31).toUInt32).toInt32) 3 (by decide)
    have b := c_iadd y7 1; have b2 := rng32 (y7 + 1)
    have c := c_iadd (y7 + 1) (((x0.toUInt32 >>> ((16 : Int32) &&& 31).toUInt32).toInt32) &&& 3)
    have d := rng32 ((y7 + 1) + (((x0.toUInt32 >>> ((16 : Int32) &&& 31).toUInt32).toInt32) &&& 3))
    omega
  refine own_stI Y632 hx hZ A635 g595 (i := 8) (by decide) (by decide) (Nat.le_of_ble_eq_true rfl) rfl rfl (hb hby at_135) (fun T636 h638 Y637 W639 A640 => ?_)
  replace A640 : own_A Z h638 b593 .int [(.int y0), (.int y1), (.int y2), (.int y3), (.int y4), (.int y5), (.int y6), (.int y7), (.int y8)] := A640
  show own_Ends _ _ _ _ (T636.setTop (mkF m 136 #[.val (.int x0), .val (.int x1), .val (.int x2), .val (.ref b593), .unset, .unset, .unset, .unset, .unset, .unset, .unset, .unset, .unset, .unset, .unset, .unset, .unset, .unset] []))
  refine own_st (fun t_ => XS.iconst (own_here Y637) hx rfl (hb hby at_136) ) ?_
  show own_Ends _ _ _ _ (T636.setTop (mkF m 137 #[.val (.int x0), .val (.int x1), .val (.int x2), .val (.ref b593), .unset, .unset, .unset, .unset, .unset, .unset, .unset, .unset, .unset, .unset, .unset, .unset, .unset, .unset] [(.int (4 : Int32))]))
  refine own_newP Y637 hx hZ (hw _ (List.mem_of_getElem? (i := 0) rfl)) rfl (hb hby at_137) rfl (by decide) (nz := 4) (cap := 4) (by decide) (by decide) (by decide) (by decide) (by decide) (ty := .int) rfl (fun T641 h643 b646 eb647 Y642 E644 A645 => ?_)
  have ne648 : b593 ≠ b646 := Nat.ne_of_lt (by rw [eb647]; exact A640.lt)
  have z650 : n0 ≤ h590.size := Nat.le_trans Z0 E591.1
  have z651 : n0 ≤ h598.size := Nat.le_trans z650 (Nat.le_of_eq W599.size.symm)
  have z652 : n0 ≤ h603.size := Nat.le_trans z651 (Nat.le_of_eq W604.size.symm)
  have z653 : n0 ≤ h608.size := Nat.le_trans z652 (Nat.le_of_eq W609.size.symm)
  have z654 : n0 ≤ h613.size := Nat.le_trans z653 (Nat.le_of_eq W614.size.symm)
  have z655 : n0 ≤ h618.size := Nat.le_trans z654 (Nat.le_of_eq W619.size.symm)
  have z656 : n0 ≤ h623.size := Nat.le_trans z655 (Nat.le_of_eq W624.size.symm)
  have z657 : n0 ≤ h628.size := Nat.le_trans z656 (Nat.le_of_eq W629.size.symm)
  have z658 : n0 ≤ h633.size := Nat.le_trans z657 (Nat.le_of_eq W634.size.symm)
  have z659 : n0 ≤ h638.size := Nat.le_trans z658 (Nat.le_of_eq W639.size.symm)
  have g649 : n0 ≤ b646 := by rw [eb647]; exact z659
  replace A645 : own_A Z h643 b646 .int [(.int (0 : Int32)), (.int (0 : Int32)), (.int (0 : Int32)), (.int (0 : Int32))] := A645
  show own_Ends _ _ _ _ (T641.setTop (mkF m 139 #[.val (.int x0), .val (.int x1), .val (.int x2), .val (.ref b593), .unset, .unset, .unset, .unset, .unset, .unset, .unset, .unset, .unset, .unset, .unset, .unset, .unset, .unset] [(.ref b646)]))
  refine own_st (fun t_ => XS.dup (own_here Y642) hx rfl (hb hby at_139) rfl rfl) ?_
  show own_Ends _ _ _ _ (T641.setTop (mkF m 140 #[.val (.int x0), .val (.int x1), .val (.int x2), .val (.ref b593), .unset, .unset, .unset, .unset, .unset, .unset, .unset, .unset, .unset, .unset, .unset, .unset, .unset, .unset] [(.ref b646), (.ref b646)]))
  refine own_st (fun t_ => XS.iconst (own_here Y642) hx rfl (hb hby at_140) ) ?_
  show own_Ends _ _ _ _ (T641.setTop (mkF m 141 #[.val (.int x0), .val (.int x1), .val (.int x2), .val (.ref b593), .unset, .unset, .unset, .unset, .unset, .unset, .unset, .unset, .unset, .unset, .unset, .unset, .unset, .unset] [(.int (0 : Int32)), (.ref b646), (.ref b646)]))
  refine own_st (fun t_ => XS.iconst (own_here Y642) hx rfl (hb hby at_141) ) ?_
  show own_Ends _ _ _ _ (T641.setTop (mkF m 142 #[.val (.int x0), .val (.int x1), .val (.int x2), .val (.ref b593), .unset, .unset, .unset, .unset, .unset, .unset, .unset, .unset, .unset, .unset, .unset, .unset, .unset, .unset] [(.int (0 : Int32)), (.int (0 : Int32)), (.ref b646), (.ref b646)]))
  refine own_stI Y642 hx hZ A645 g649 (i := 0) (by decide) (by decide) (Nat.le_of_ble_eq_true rfl) rfl rfl (hb hby at_142) (fun T660 h662 Y661 W663 A664 => ?_)
  replace A664 : own_A Z h662 b646 .int [(.int (0 : Int32)), (.int (0 : Int32)), (.int (0 : Int32)), (.int (0 : Int32))] := A664
  show own_Ends _ _ _ _ (T660.setTop (mkF m 143 #[.val (.int x0), .val (.int x1), .val (.int x2), .val (.ref b593), .unset, .unset, .unset, .unset, .unset, .unset, .unset, .unset, .unset, .unset, .unset, .unset, .unset, .unset] [(.ref b646)]))
  refine own_st (fun t_ => XS.dup (own_here Y661) hx rfl (hb hby at_143) rfl rfl) ?_
  show own_Ends _ _ _ _ (T660.setTop (mkF m 144 #[.val (.int x0), .val (.int x1), .val (.int x2), .val (.ref b593), .unset, .unset, .unset, .unset, .unset, .unset, .unset, .unset, .unset, .unset, .unset, .unset, .unset, .unset] [(.ref b646), (.ref b646)]))
  refine own_st (fun t_ => XS.iconst (own_here Y661) hx rfl (hb hby at_144) ) ?_
  show own_Ends _ _ _ _ (T660.setTop (mkF m 145 #[.val (.int x0), .val (.int x1), .val (.int x2), .val (.ref b593), .unset, .unset, .unset, .unset, .unset, .unset, .unset, .unset, .unset, .unset, .unset, .unset, .unset, .unset] [(.int (1 : Int32)), (.ref b646), (.ref b646)]))
  refine own_st (fun t_ => XS.iconst (own_here Y661) hx rfl (hb hby at_145) ) ?_
  show own_Ends _ _ _ _ (T660.setTop (mkF m 146 #[.val (.int x0), .val (.int x1), .val (.int x2), .val (.ref b593), .unset, .unset, .unset, .unset, .unset, .unset, .unset, .unset, .unset, .unset, .unset, .unset, .unset, .unset] [(.int (3 : Int32)), (.int (1 : Int32)), (.ref b646), (.ref b646)]))
  refine own_stI Y661 hx hZ A664 g649 (i := 1) (by decide) (by decide) (Nat.le_of_ble_eq_true rfl) rfl rfl (hb hby at_146) (fun T665 h667 Y666 W668 A669 => ?_)
  replace A669 : own_A Z h667 b646 .int [(.int (0 : Int32)), (.int (3 : Int32)), (.int (0 : Int32)), (.int (0 : Int32))] := A669
  show own_Ends _ _ _ _ (T665.setTop (mkF m 147 #[.val (.int x0), .val (.int x1), .val (.int x2), .val (.ref b593), .unset, .unset, .unset, .unset, .unset, .unset, .unset, .unset, .unset, .unset, .unset, .unset, .unset, .unset] [(.ref b646)]))
  refine own_st (fun t_ => XS.dup (own_here Y666) hx rfl (hb hby at_147) rfl rfl) ?_
  show own_Ends _ _ _ _ (T665.setTop (mkF m 148 #[.val (.int x0), .val (.int x1), .val (.int x2), .val (.ref b593), .unset, .unset, .unset, .unset, .unset, .unset, .unset, .unset, .unset, .unset, .unset, .unset, .unset, .unset] [(.ref b646), (.ref b646)]))
  refine own_st (fun t_ => XS.iconst (own_here Y666) hx rfl (hb hby at_148) ) ?_
  show own_Ends _ _ _ _ (T665.setTop (mkF m 149 #[.val (.int x0), .val (.int x1), .val (.int x2), .val (.ref b593), .unset, .unset, .unset, .unset, .unset, .unset, .unset, .unset, .unset, .unset, .unset, .unset, .unset, .unset] [(.int (2 : Int32)), (.ref b646), (.ref b646)]))
  refine own_st (fun t_ => XS.bipush (own_here Y666) hx rfl (hb hby at_149) ) ?_
  show own_Ends _ _ _ _ (T665.setTop (mkF m 151 #[.val (.int x0), .val (.int x1), .val (.int x2), .val (.ref b593), .unset, .unset, .unset, .unset, .unset, .unset, .unset, .unset, .unset, .unset, .unset, .unset, .unset, .unset] [(.int (6 : Int32)), (.int (2 : Int32)), (.ref b646), (.ref b646)]))
  refine own_stI Y666 hx hZ A669 g649 (i := 2) (by decide) (by decide) (Nat.le_of_ble_eq_true rfl) rfl rfl (hb hby at_151) (fun T670 h672 Y671 W673 A674 => ?_)
  replace A674 : own_A Z h672 b646 .int [(.int (0 : Int32)), (.int (3 : Int32)), (.int (6 : Int32)), (.int (0 : Int32))] := A674
  show own_Ends _ _ _ _ (T670.setTop (mkF m 152 #[.val (.int x0), .val (.int x1), .val (.int x2), .val (.ref b593), .unset, .unset, .unset, .unset, .unset, .unset, .unset, .unset, .unset, .unset, .unset, .unset, .unset, .unset] [(.ref b646)]))
  refine own_st (fun t_ => XS.dup (own_here Y671) hx rfl (hb hby at_152) rfl rfl) ?_
  show own_Ends _ _ _ _ (T670.setTop (mkF m 153 #[.val (.int x0), .val (.int x1), .val (.int x2), .val (.ref b593), .unset, .unset, .unset, .unset, .unset, .unset, .unset, .unset, .unset, .unset, .unset, .unset, .unset, .unset] [(.ref b646), (.ref b646)]))
  refine own_st (fun t_ => XS.iconst (own_here Y671) hx rfl (hb hby at_153) ) ?_
  show own_Ends _ _ _ _ (T670.setTop (mkF m 154 #[.val (.int x0), .val (.int x1), .val (.int x2), .val (.ref b593), .unset, .unset, .unset, .unset, .unset, .unset, .unset, .unset, .unset, .unset, .unset, .unset, .unset, .unset] [(.int (3 : Int32)), (.ref b646), (.ref b646)]))
  refine own_st (fun t_ => XS.bipush (own_here Y671) hx rfl (hb hby at_154) ) ?_
  show own_Ends _ _ _ _ (T670.setTop (mkF m 156 #[.val (.int x0), .val (.int x1), .val (.int x2), .val (.ref b593), .unset, .unset, .unset, .unset, .unset, .unset, .unset, .unset, .unset, .unset, .unset, .unset, .unset, .unset] [(.int (9 : Int32)), (.int (3 : Int32)), (.ref b646), (.ref b646)]))
  refine own_stI Y671 hx hZ A674 g649 (i := 3) (by decide) (by decide) (Nat.le_of_ble_eq_true rfl) rfl rfl (hb hby at_156) (fun T675 h677 Y676 W678 A679 => ?_)
  replace A679 : own_A Z h677 b646 .int [(.int (0 : Int32)), (.int (3 : Int32)), (.int (6 : Int32)), (.int (9 : Int32))] := A679
  show own_Ends _ _ _ _ (T675.setTop (mkF m 157 #[.val (.int x0), .val (.int x1), .val (.int x2), .val (.ref b593), .unset, .unset, .unset, .unset, .unset, .unset, .unset, .unset, .unset, .unset, .unset, .unset, .unset, .unset] [(.ref b646)]))
  refine own_st (fun t_ => XS.astore (own_here Y676) hx rfl (hb hby at_157) rfl rfl (l' := #[.val (.int x0), .val (.int x1), .val (.int x2), .val (.ref b593), .val (.ref b646), .unset, .unset, .unset, .unset, .unset, .unset, .unset, .unset, .unset, .unset, .unset, .unset, .unset]) rfl) ?_
  show own_Ends _ _ _ _ (T675.setTop (mkF m 159 #[.val (.int x0), .val (.int x1), .val (.int x2), .val (.ref b593), .val (.ref b646), .unset, .unset, .unset, .unset, .unset, .unset, .unset, .unset, .unset, .unset, .unset, .unset, .unset] []))
  refine own_st (fun t_ => XS.iconst (own_here Y676) hx rfl (hb hby at_159) ) ?_
  show own_Ends _ _ _ _ (T675.setTop (mkF m 160 #[.val (.int x0), .val (.int x1), .val (.int x2), .val (.ref b593), .val (.ref b646), .unset, .unset, .unset, .unset, .unset, .unset, .unset, .unset, .unset, .unset, .unset, .unset, .unset] [(.int (4 : Int32))]))
  refine own_newP Y676 hx hZ (hw _ (List.mem_of_getElem? (i := 0) rfl)) rfl (hb hby at_160) rfl (by decide) (nz := 4) (cap := 4) (by decide) (by decide) (by decide) (by decide) (by decide) (ty := .int) rfl (fun T680 h682 b685 eb686 Y681 E683 A684 => ?_)
  have f687 : own_A Z h643 b593 .int [(.int y0), (.int y1), (.int y2), (.int y3), (.int y4), (.int y5), (.int y6), (.int y7), (.int y8)] := A640.ext E644
  have f688 : own_A Z h662 b593 .int [(.int y0), (.int y1), (.int y2), (.int y3), (.int y4), (.int y5), (.int y6), (.int y7), (.int y8)] := f687.other W663 ne648
  have f689 : own_A Z h667 b593 .int [(.int y0), (.int y1), (.int y2), (.int y3), (.int y4), (.int y5), (.int y6), (.int y7), (.int y8)] := f688.other W668 ne648
  have f690 : own_A Z h672 b593 .int [(.int y0), (.int y1), (.int y2), (.int y3), (.int y4), (.int y5), (.int y6), (.int y7), (.int y8)] := f689.other W673 ne648
  have f691 : own_A Z h677 b593 .int [(.int y0), (.int y1), (.int y2), (.int y3), (.int y4), (.int y5), (.int y6), (.int y7), (.int y8)] := f690.other W678 ne648
  have ne692 : b593 ≠ b685 := Nat.ne_of_lt (by rw [eb686]; exact f691.lt)
  have ne693 : b646 ≠ b685 := Nat.ne_of_lt (by rw [eb686]; exact A679.lt)
  have z695 : n0 ≤ h643.size := Nat.le_trans z659 E644.1
  have z696 : n0 ≤ h662.size := Nat.le_trans z695 (Nat.le_of_eq W663.size.symm)
  have z697 : n0 ≤ h667.size := Nat.le_trans z696 (Nat.le_of_eq W668.size.symm)
  have z698 : n0 ≤ h672.size := Nat.le_trans z697 (Nat.le_of_eq W673.size.symm)
  have z699 : n0 ≤ h677.size := Nat.le_trans z698 (Nat.le_of_eq W678.size.symm)
  have g694 : n0 ≤ b685 := by rw [eb686]; exact z699
  replace A684 : own_A Z h682 b685 .int [(.int (0 : Int32)), (.int (0 : Int32)), (.int (0 : Int32)), (.int (0 : Int32))] := A684
  show own_Ends _ _ _ _ (T680.setTop (mkF m 162 #[.val (.int x0), .val (.int x1), .val (.int x2), .val (.ref b593), .val (.ref b646), .unset, .unset, .unset, .unset, .unset, .unset, .unset, .unset, .unset, .unset, .unset, .unset, .unset] [(.ref b685)]))
  refine own_st (fun t_ => XS.dup (own_here Y681) hx rfl (hb hby at_162) rfl rfl) ?_
  show own_Ends _ _ _ _ (T680.setTop (mkF m 163 #[.val (.int x0), .val (.int x1), .val (.int x2), .val (.ref b593), .val (.ref b646), .unset, .unset, .unset, .unset, .unset, .unset, .unset, .unset, .unset, .unset, .unset, .unset, .unset] [(.ref b685), (.ref b685)]))
  refine own_st (fun t_ => XS.iconst (own_here Y681) hx rfl (hb hby at_163) ) ?_
  show own_Ends _ _ _ _ (T680.setTop (mkF m 164 #[.val (.int x0), .val (.int x1), .val (.int x2), .val (.ref b593), .val (.ref b646), .unset, .unset, .unset, .unset, .unset, .unset, .unset, .unset, .unset, .unset, .unset, .unset, .unset] [(.int (0 : Int32)), (.ref b685), (.ref b685)]))
  refine own_st (fun t_ => XS.iconst (own_here Y681) hx rfl (hb hby at_164) ) ?_
  show own_Ends _ _ _ _ (T680.setTop (mkF m 165 #[.val (.int x0), .val (.int x1), .val (.int x2), .val (.ref b593), .val (.ref b646), .unset, .unset, .unset, .unset, .unset, .unset, .unset, .unset, .unset, .unset, .unset, .unset, .unset] [(.int (0 : Int32)), (.int (0 : Int32)), (.ref b685), (.ref b685)]))
  refine own_stI Y681 hx hZ A684 g694 (i := 0) (by decide) (by decide) (Nat.le_of_ble_eq_true rfl) rfl rfl (hb hby at_165) (fun T700 h702 Y701 W703 A704 => ?_)
  replace A704 : own_A Z h702 b685 .int [(.int (0 : Int32)), (.int (0 : Int32)), (.int (0 : Int32)), (.int (0 : Int32))] := A704
  show own_Ends _ _ _ _ (T700.setTop (mkF m 166 #[.val (.int x0), .val (.int x1), .val (.int x2), .val (.ref b593), .val (.ref b646), .unset, .unset, .unset, .unset, .unset, .unset, .unset, .unset, .unset, .unset, .unset, .unset, .unset] [(.ref b685)]))
  refine own_st (fun t_ => XS.dup (own_here Y701) hx rfl (hb hby at_166) rfl rfl) ?_
  show own_Ends _ _ _ _ (T700.setTop (mkF m 167 #[.val (.int x0), .val (.int x1), .val (.int x2), .val (.ref b593), .val (.ref b646), .unset, .unset, .unset, .unset, .unset, .unset, .unset, .unset, .unset, .unset, .unset, .unset, .unset] [(.ref b685), (.ref b685)]))
  refine own_st (fun t_ => XS.iconst (own_here Y701) hx rfl (hb hby at_167) ) ?_
  show own_Ends _ _ _ _ (T700.setTop (mkF m 168 #[.val (.int x0), .val (.int x1), .val (.int x2), .val (.ref b593), .val (.ref b646), .unset, .unset, .unset, .unset, .unset, .unset, .unset, .unset, .unset, .unset, .unset, .unset, .unset] [(.int (1 : Int32)), (.ref b685), (.ref b685)]))
  refine own_st (fun t_ => XS.iconst (own_here Y701) hx rfl (hb hby at_168) ) ?_
  show own_Ends _ _ _ _ (T700.setTop (mkF m 169 #[.val (.int x0), .val (.int x1), .val (.int x2), .val (.ref b593), .val (.ref b646), .unset, .unset, .unset, .unset, .unset, .unset, .unset, .unset, .unset, .unset, .unset, .unset, .unset] [(.int (1 : Int32)), (.int (1 : Int32)), (.ref b685), (.ref b685)]))
  refine own_stI Y701 hx hZ A704 g694 (i := 1) (by decide) (by decide) (Nat.le_of_ble_eq_true rfl) rfl rfl (hb hby at_169) (fun T705 h707 Y706 W708 A709 => ?_)
  replace A709 : own_A Z h707 b685 .int [(.int (0 : Int32)), (.int (1 : Int32)), (.int (0 : Int32)), (.int (0 : Int32))] := A709
  show own_Ends _ _ _ _ (T705.setTop (mkF m 170 #[.val (.int x0), .val (.int x1), .val (.int x2), .val (.ref b593), .val (.ref b646), .unset, .unset, .unset, .unset, .unset, .unset, .unset, .unset, .unset, .unset, .unset, .unset, .unset] [(.ref b685)]))
  refine own_st (fun t_ => XS.dup (own_here Y706) hx rfl (hb hby at_170) rfl rfl) ?_
  show own_Ends _ _ _ _ (T705.setTop (mkF m 171 #[.val (.int x0), .val (.int x1), .val (.int x2), .val (.ref b593), .val (.ref b646), .unset, .unset, .unset, .unset, .unset, .unset, .unset, .unset, .unset, .unset, .unset, .unset, .unset] [(.ref b685), (.ref b685)]))
  refine own_st (fun t_ => XS.iconst (own_here Y706) hx rfl (hb hby at_171) ) ?_
  show own_Ends _ _ _ _ (T705.setTop (mkF m 172 #[.val (.int x0), .val (.int x1), .val (.int x2), .val (.ref b593), .val (.ref b646), .unset, .unset, .unset, .unset, .unset, .unset, .unset, .unset, .unset, .unset, .unset, .unset, .unset] [(.int (2 : Int32)), (.ref b685), (.ref b685)]))
  refine own_st (fun t_ => XS.iconst (own_here Y706) hx rfl (hb hby at_172) ) ?_
  show own_Ends _ _ _ _ (T705.setTop (mkF m 173 #[.val (.int x0), .val (.int x1), .val (.int x2), .val (.ref b593), .val (.ref b646), .unset, .unset, .unset, .unset, .unset, .unset, .unset, .unset, .unset, .unset, .unset, .unset, .unset] [(.int (3 : Int32)), (.int (2 : Int32)), (.ref b685), (.ref b685)]))
  refine own_stI Y706 hx hZ A709 g694 (i := 2) (by decide) (by decide) (Nat.le_of_ble_eq_true rfl) rfl rfl (hb hby at_173) (fun T710 h712 Y711 W713 A714 => ?_)
  replace A714 : own_A Z h712 b685 .int [(.int (0 : Int32)), (.int (1 : Int32)), (.int (3 : Int32)), (.int (0 : Int32))] := A714
  show own_Ends _ _ _ _ (T710.setTop (mkF m 174 #[.val (.int x0), .val (.int x1), .val (.int x2), .val (.ref b593), .val (.ref b646), .unset, .unset, .unset, .unset, .unset, .unset, .unset, .unset, .unset, .unset, .unset, .unset, .unset] [(.ref b685)]))
  refine own_st (fun t_ => XS.dup (own_here Y711) hx rfl (hb hby at_174) rfl rfl) ?_
  show own_Ends _ _ _ _ (T710.setTop (mkF m 175 #[.val (.int x0), .val (.int x1), .val (.int x2), .val (.ref b593), .val (.ref b646), .unset, .unset, .unset, .unset, .unset, .unset, .unset, .unset, .unset, .unset, .unset, .unset, .unset] [(.ref b685), (.ref b685)]))
  refine own_st (fun t_ => XS.iconst (own_here Y711) hx rfl (hb hby at_175) ) ?_
  show own_Ends _ _ _ _ (T710.setTop (mkF m 176 #[.val (.int x0), .val (.int x1), .val (.int x2), .val (.ref b593), .val (.ref b646), .unset, .unset, .unset, .unset, .unset, .unset, .unset, .unset, .unset, .unset, .unset, .unset, .unset] [(.int (3 : Int32)), (.ref b685), (.ref b685)]))
  refine own_st (fun t_ => XS.iconst (own_here Y711) hx rfl (hb hby at_176) ) ?_
  show own_Ends _ _ _ _ (T710.setTop (mkF m 177 #[.val (.int x0), .val (.int x1), .val (.int x2), .val (.ref b593), .val (.ref b646), .unset, .unset, .unset, .unset, .unset, .unset, .unset, .unset, .unset, .unset, .unset, .unset, .unset] [(.int (4 : Int32)), (.int (3 : Int32)), (.ref b685), (.ref b685)]))
  refine own_stI Y711 hx hZ A714 g694 (i := 3) (by decide) (by decide) (Nat.le_of_ble_eq_true rfl) rfl rfl (hb hby at_177) (fun T715 h717 Y716 W718 A719 => ?_)
  replace A719 : own_A Z h717 b685 .int [(.int (0 : Int32)), (.int (1 : Int32)), (.int (3 : Int32)), (.int (4 : Int32))] := A719
  show own_Ends _ _ _ _ (T715.setTop (mkF m 178 #[.val (.int x0), .val (.int x1), .val (.int x2), .val (.ref b593), .val (.ref b646), .unset, .unset, .unset, .unset, .unset, .unset, .unset, .unset, .unset, .unset, .unset, .unset, .unset] [(.ref b685)]))
  refine own_st (fun t_ => XS.astore (own_here Y716) hx rfl (hb hby at_178) rfl rfl (l' := #[.val (.int x0), .val (.int x1), .val (.int x2), .val (.ref b593), .val (.ref b646), .val (.ref b685), .unset, .unset, .unset, .unset, .unset, .unset, .unset, .unset, .unset, .unset, .unset, .unset]) rfl) ?_
  show own_Ends _ _ _ _ (T715.setTop (mkF m 180 #[.val (.int x0), .val (.int x1), .val (.int x2), .val (.ref b593), .val (.ref b646), .val (.ref b685), .unset, .unset, .unset, .unset, .unset, .unset, .unset, .unset, .unset, .unset, .unset, .unset] []))
  refine own_st (fun t_ => XS.iconst (own_here Y716) hx rfl (hb hby at_180) ) ?_
  show own_Ends _ _ _ _ (T715.setTop (mkF m 181 #[.val (.int x0), .val (.int x1), .val (.int x2), .val (.ref b593), .val (.ref b646), .val (.ref b685), .unset, .unset, .unset, .unset, .unset, .unset, .unset, .unset, .unset, .unset, .unset, .unset] [(.int (4 : Int32))]))
  refine own_newP Y716 hx hZ (hw _ (List.mem_of_getElem? (i := 0) rfl)) rfl (hb hby at_181) rfl (by decide) (nz := 4) (cap := 4) (by decide) (by decide) (by decide) (by decide) (by decide) (ty := .int) rfl (fun T720 h722 b725 eb726 Y721 E723 A724 => ?_)
  have f727 : own_A Z h682 b593 .int [(.int y0), (.int y1), (.int y2), (.int y3), (.int y4), (.int y5), (.int y6), (.int y7), (.int y8)] := f691.ext E683
  have f728 : own_A Z h702 b593 .int [(.int y0), (.int y1), (.int y2), (.int y3), (.int y4), (.int y5), (.int y6), (.int y7), (.int y8)] := f727.other W703 ne692
  have f729 : own_A Z h707 b593 .int [(.int y0), (.int y1), (.int y2), (.int y3), (.int y4), (.int y5), (.int y6), (.int y7), (.int y8)] := f728.other W708 ne692
  have f730 : own_A Z h712 b593 .int [(.int y0), (.int y1), (.int y2), (.int y3), (.int y4), (.int y5), (.int y6), (.int y7), (.int y8)] := f729.other W713 ne692
  have f731 : own_A Z h717 b593 .int [(.int y0), (.int y1), (.int y2), (.int y3), (.int y4), (.int y5), (.int y6), (.int y7), (.int y8)] := f730.other W718 ne692
  have ne732 : b593 ≠ b725 := Nat.ne_of_lt (by rw [eb726]; exact f731.lt)
  have f733 : own_A Z h682 b646 .int [(.int (0 : Int32)), (.int (3 : Int32)), (.int (6 : Int32)), (.int (9 : Int32))] := A679.ext E683
  have f734 : own_A Z h702 b646 .int [(.int (0 : Int32)), (.int (3 : Int32)), (.int (6 : Int32)), (.int (9 : Int32))] := f733.other W703 ne693
  have f735 : own_A Z h707 b646 .int [(.int (0 : Int32)), (.int (3 : Int32)), (.int (6 : Int32)), (.int (9 : Int32))] := f734.other W708 ne693
  have f736 : own_A Z h712 b646 .int [(.int (0 : Int32)), (.int (3 : Int32)), (.int (6 : Int32)), (.int (9 : Int32))] := f735.other W713 ne693
  have f737 : own_A Z h717 b646 .int [(.int (0 : Int32)), (.int (3 : Int32)), (.int (6 : Int32)), (.int (9 : Int32))] := f736.other W718 ne693
  have ne738 : b646 ≠ b725 := Nat.ne_of_lt (by rw [eb726]; exact f737.lt)
  have ne739 : b685 ≠ b725 := Nat.ne_of_lt (by rw [eb726]; exact A719.lt)
  have z741 : n0 ≤ h682.size := Nat.le_trans z699 E683.1
  have z742 : n0 ≤ h702.size := Nat.le_trans z741 (Nat.le_of_eq W703.size.symm)
  have z743 : n0 ≤ h707.size := Nat.le_trans z742 (Nat.le_of_eq W708.size.symm)
  have z744 : n0 ≤ h712.size := Nat.le_trans z743 (Nat.le_of_eq W713.size.symm)
  have z745 : n0 ≤ h717.size := Nat.le_trans z744 (Nat.le_of_eq W718.size.symm)
  have g740 : n0 ≤ b725 := by rw [eb726]; exact z745
  replace A724 : own_A Z h722 b725 .int [(.int (0 : Int32)), (.int (0 : Int32)), (.int (0 : Int32)), (.int (0 : Int32))] := A724
  show own_Ends _ _ _ _ (T720.setTop (mkF m 183 #[.val (.int x0), .val (.int x1), .val (.int x2), .val (.ref b593), .val (.ref b646), .val (.ref b685), .unset, .unset, .unset, .unset, .unset, .unset, .unset, .unset, .unset, .unset, .unset, .unset] [(.ref b725)]))
  refine own_st (fun t_ => XS.dup (own_here Y721) hx rfl (hb hby at_183) rfl rfl) ?_
  show own_Ends _ _ _ _ (T720.setTop (mkF m 184 #[.val (.int x0), .val (.int x1), .val (.int x2), .val (.ref b593), .val (.ref b646), .val (.ref b685), .unset, .unset, .unset, .unset, .unset, .unset, .unset, .unset, .unset, .unset, .unset, .unset] [(.ref b725), (.ref b725)]))
  refine own_st (fun t_ => XS.iconst (own_here Y721) hx rfl (hb hby at_184) ) ?_
  show own_Ends _ _ _ _ (T720.setTop (mkF m 185 #[.val (.int x0), .val (.int x1), .val (.int x2), .val (.ref b593), .val (.ref b646), .val (.ref b685), .unset, .unset, .unset, .unset, .unset, .unset, .unset, .unset, .unset, .unset, .unset, .unset] [(.int (0 : Int32)), (.ref b725), (.ref b725)]))
  refine own_st (fun t_ => XS.iconst (own_here Y721) hx rfl (hb hby at_185) ) ?_
  show own_Ends _ _ _ _ (T720.setTop (mkF m 186 #[.val (.int x0), .val (.int x1), .val (.int x2), .val (.ref b593), .val (.ref b646), .val (.ref b685), .unset, .unset, .unset, .unset, .unset, .unset, .unset, .unset, .unset, .unset, .unset, .unset] [(.int (1 : Int32)), (.int (0 : Int32)), (.ref b725), (.ref b725)]))
  refine own_stI Y721 hx hZ A724 g740 (i := 0) (by decide) (by decide) (Nat.le_of_ble_eq_true rfl) rfl rfl (hb hby at_186) (fun T746 h748 Y747 W749 A750 => ?_)
  replace A750 : own_A Z h748 b725 .int [(.int (1 : Int32)), (.int (0 : Int32)), (.int (0 : Int32)), (.int (0 : Int32))] := A750
  show own_Ends _ _ _ _ (T746.setTop (mkF m 187 #[.val (.int x0), .val (.int x1), .val (.int x2), .val (.ref b593), .val (.ref b646), .val (.ref b685), .unset, .unset, .unset, .unset, .unset, .unset, .unset, .unset, .unset, .unset, .unset, .unset] [(.ref b725)]))
  refine own_st (fun t_ => XS.dup (own_here Y747) hx rfl (hb hby at_187) rfl rfl) ?_
  show own_Ends _ _ _ _ (T746.setTop (mkF m 188 #[.val (.int x0), .val (.int x1), .val (.int x2), .val (.ref b593), .val (.ref b646), .val (.ref b685), .unset, .unset, .unset, .unset, .unset, .unset, .unset, .unset, .unset, .unset, .unset, .unset] [(.ref b725), (.ref b725)]))
  refine own_st (fun t_ => XS.iconst (own_here Y747) hx rfl (hb hby at_188) ) ?_
  show own_Ends _ _ _ _ (T746.setTop (mkF m 189 #[.val (.int x0), .val (.int x1), .val (.int x2), .val (.ref b593), .val (.ref b646), .val (.ref b685), .unset, .unset, .unset, .unset, .unset, .unset, .unset, .unset, .unset, .unset, .unset, .unset] [(.int (1 : Int32)), (.ref b725), (.ref b725)]))
  refine own_st (fun t_ => XS.iconst (own_here Y747) hx rfl (hb hby at_189) ) ?_
  show own_Ends _ _ _ _ (T746.setTop (mkF m 190 #[.val (.int x0), .val (.int x1), .val (.int x2), .val (.ref b593), .val (.ref b646), .val (.ref b685), .unset, .unset, .unset, .unset, .unset, .unset, .unset, .unset, .unset, .unset, .unset, .unset] [(.int (0 : Int32)), (.int (1 : Int32)), (.ref b725), (.ref b725)]))
  refine own_stI Y747 hx hZ A750 g740 (i := 1) (by decide) (by decide) (Nat.le_of_ble_eq_true rfl) rfl rfl (hb hby at_190) (fun T751 h753 Y752 W754 A755 => ?_)
  replace A755 : own_A Z h753 b725 .int [(.int (1 : Int32)), (.int (0 : Int32)), (.int (0 : Int32)), (.int (0 : Int32))] := A755
  show own_Ends _ _ _ _ (T751.setTop (mkF m 191 #[.val (.int x0), .val (.int x1), .val (.int x2), .val (.ref b593), .val (.ref b646), .val (.ref b685), .unset, .unset, .unset, .unset, .unset, .unset, .unset, .unset, .unset, .unset, .unset, .unset] [(.ref b725)]))
  refine own_st (fun t_ => XS.dup (own_here Y752) hx rfl (hb hby at_191) rfl rfl) ?_
  show own_Ends _ _ _ _ (T751.setTop (mkF m 192 #[.val (.int x0), .val (.int x1), .val (.int x2), .val (.ref b593), .val (.ref b646), .val (.ref b685), .unset, .unset, .unset, .unset, .unset, .unset, .unset, .unset, .unset, .unset, .unset, .unset] [(.ref b725), (.ref b725)]))
  refine own_st (fun t_ => XS.iconst (own_here Y752) hx rfl (hb hby at_192) ) ?_
  show own_Ends _ _ _ _ (T751.setTop (mkF m 193 #[.val (.int x0), .val (.int x1), .val (.int x2), .val (.ref b593), .val (.ref b646), .val (.ref b685), .unset, .unset, .unset, .unset, .unset, .unset, .unset, .unset, .unset, .unset, .unset, .unset] [(.int (2 : Int32)), (.ref b725), (.ref b725)]))
  refine own_st (fun t_ => XS.iconst (own_here Y752) hx rfl (hb hby at_193) ) ?_
  show own_Ends _ _ _ _ (T751.setTop (mkF m 194 #[.val (.int x0), .val (.int x1), .val (.int x2), .val (.ref b593), .val (.ref b646), .val (.ref b685), .unset, .unset, .unset, .unset, .unset, .unset, .unset, .unset, .unset, .unset, .unset, .unset] [(.int (2 : Int32)), (.int (2 : Int32)), (.ref b725), (.ref b725)]))
  refine own_stI Y752 hx hZ A755 g740 (i := 2) (by decide) (by decide) (Nat.le_of_ble_eq_true rfl) rfl rfl (hb hby at_194) (fun T756 h758 Y757 W759 A760 => ?_)
  replace A760 : own_A Z h758 b725 .int [(.int (1 : Int32)), (.int (0 : Int32)), (.int (2 : Int32)), (.int (0 : Int32))] := A760
  show own_Ends _ _ _ _ (T756.setTop (mkF m 195 #[.val (.int x0), .val (.int x1), .val (.int x2), .val (.ref b593), .val (.ref b646), .val (.ref b685), .unset, .unset, .unset, .unset, .unset, .unset, .unset, .unset, .unset, .unset, .unset, .unset] [(.ref b725)]))
  refine own_st (fun t_ => XS.dup (own_here Y757) hx rfl (hb hby at_195) rfl rfl) ?_
  show own_Ends _ _ _ _ (T756.setTop (mkF m 196 #[.val (.int x0), .val (.int x1), .val (.int x2), .val (.ref b593), .val (.ref b646), .val (.ref b685), .unset, .unset, .unset, .unset, .unset, .unset, .unset, .unset, .unset, .unset, .unset, .unset] [(.ref b725), (.ref b725)]))
  refine own_st (fun t_ => XS.iconst (own_here Y757) hx rfl (hb hby at_196) ) ?_
  show own_Ends _ _ _ _ (T756.setTop (mkF m 197 #[.val (.int x0), .val (.int x1), .val (.int x2), .val (.ref b593), .val (.ref b646), .val (.ref b685), .unset, .unset, .unset, .unset, .unset, .unset, .unset, .unset, .unset, .unset, .unset, .unset] [(.int (3 : Int32)), (.ref b725), (.ref b725)]))
  refine own_st (fun t_ => XS.iconst (own_here Y757) hx rfl (hb hby at_197) ) ?_
  show own_Ends _ _ _ _ (T756.setTop (mkF m 198 #[.val (.int x0), .val (.int x1), .val (.int x2), .val (.ref b593), .val (.ref b646), .val (.ref b685), .unset, .unset, .unset, .unset, .unset, .unset, .unset, .unset, .unset, .unset, .unset, .unset] [(.int (1 : Int32)), (.int (3 : Int32)), (.ref b725), (.ref b725)]))
  refine own_stI Y757 hx hZ A760 g740 (i := 3) (by decide) (by decide) (Nat.le_of_ble_eq_true rfl) rfl rfl (hb hby at_198) (fun T761 h763 Y762 W764 A765 => ?_)
  replace A765 : own_A Z h763 b725 .int [(.int (1 : Int32)), (.int (0 : Int32)), (.int (2 : Int32)), (.int (1 : Int32))] := A765
  show own_Ends _ _ _ _ (T761.setTop (mkF m 199 #[.val (.int x0), .val (.int x1), .val (.int x2), .val (.ref b593), .val (.ref b646), .val (.ref b685), .unset, .unset, .unset, .unset, .unset, .unset, .unset, .unset, .unset, .unset, .unset, .unset] [(.ref b725)]))
  refine own_st (fun t_ => XS.astore (own_here Y762) hx rfl (hb hby at_199) rfl rfl (l' := #[.val (.int x0), .val (.int x1), .val (.int x2), .val (.ref b593), .val (.ref b646), .val (.ref b685), .val (.ref b725), .unset, .unset, .unset, .unset, .unset, .unset, .unset, .unset, .unset, .unset, .unset]) rfl) ?_
  show own_Ends _ _ _ _ (T761.setTop (mkF m 201 #[.val (.int x0), .val (.int x1), .val (.int x2), .val (.ref b593), .val (.ref b646), .val (.ref b685), .val (.ref b725), .unset, .unset, .unset, .unset, .unset, .unset, .unset, .unset, .unset, .unset, .unset] []))
  refine own_st (fun t_ => XS.iconst (own_here Y762) hx rfl (hb hby at_201) ) ?_
  show own_Ends _ _ _ _ (T761.setTop (mkF m 202 #[.val (.int x0), .val (.int x1), .val (.int x2), .val (.ref b593), .val (.ref b646), .val (.ref b685), .val (.ref b725), .unset, .unset, .unset, .unset, .unset, .unset, .unset, .unset, .unset, .unset, .unset] [(.int (4 : Int32))]))
  refine own_newP Y762 hx hZ (hw _ (List.mem_of_getElem? (i := 0) rfl)) rfl (hb hby at_202) rfl (by decide) (nz := 4) (cap := 4) (by decide) (by decide) (by decide) (by decide) (by decide) (ty := .int) rfl (fun T766 h768 b771 eb772 Y767 E769 A770 => ?_)
  have f773 : own_A Z h722 b593 .int [(.int y0), (.int y1), (.int y2), (.int y3), (.int y4), (.int y5), (.int y6), (.int y7), (.int y8)] := f731.ext E723
  have f774 : own_A Z h748 b593 .int [(.int y0), (.int y1), (.int y2), (.int y3), (.int y4), (.int y5), (.int y6), (.int y7), (.int y8)] := f773.other W749 ne732
  have f775 : own_A Z h753 b593 .int [(.int y0), (.int y1), (.int y2), (.int y3), (.int y4), (.int y5), (.int y6), (.int y7), (.int y8)] := f774.other W754 ne732
  have f776 : own_A Z h758 b593 .int [(.int y0), (.int y1), (.int y2), (.int y3), (.int y4), (.int y5), (.int y6), (.int y7), (.int y8)] := f775.other W759 ne732
  have f777 : own_A Z h763 b593 .int [(.int y0), (.int y1), (.int y2), (.int y3), (.int y4), (.int y5), (.int y6), (.int y7), (.int y8)] := f776.other W764 ne732
  have ne778 : b593 ≠ b771 := Nat.ne_of_lt (by rw [eb772]; exact f777.lt)
  have f779 : own_A Z h722 b646 .int [(.int (0 : Int32)), (.int (3 : Int32)), (.int (6 : Int32)), (.int (9 : Int32))] := f737.ext E723
  have f780 : own_A Z h748 b646 .int [(.int (0 : Int32)), (.int (3 : Int32)), (.int (6 : Int32)), (.int (9 : Int32))] := f779.other W749 ne738
  have f781 : own_A Z h753 b646 .int [(.int (0 : Int32)), (.int (3 : Int32)), (.int (6 : Int32)), (.int (9 : Int32))] := f780.other W754 ne738
  have f782 : own_A Z h758 b646 .int [(.int (0 : Int32)), (.int (3 : Int32)), (.int (6 : Int32)), (.int (9 : Int32))] := f781.other W759 ne738
  have f783 : own_A Z h763 b646 .int [(.int (0 : Int32)), (.int (3 : Int32)), (.int (6 : Int32)), (.int (9 : Int32))] := f782.other W764 ne738
  have ne784 : b646 ≠ b771 := Nat.ne_of_lt (by rw [eb772]; exact f783.lt)
  have f785 : own_A Z h722 b685 .int [(.int (0 : Int32)), (.int (1 : Int32)), (.int (3 : Int32)), (.int (4 : Int32))] := A719.ext E723
  have f786 : own_A Z h748 b685 .int [(.int (0 : Int32)), (.int (1 : Int32)), (.int (3 : Int32)), (.int (4 : Int32))] := f785.other W749 ne739
  have f787 : own_A Z h753 b685 .int [(.int (0 : Int32)), (.int (1 : Int32)), (.int (3 : Int32)), (.int (4 : Int32))] := f786.other W754 ne739
  have f788 : own_A Z h758 b685 .int [(.int (0 : Int32)), (.int (1 : Int32)), (.int (3 : Int32)), (.int (4 : Int32))] := f787.other W759 ne739
  have f789 : own_A Z h763 b685 .int [(.int (0 : Int32)), (.int (1 : Int32)), (.int (3 : Int32)), (.int (4 : Int32))] := f788.other W764 ne739
  have ne790 : b685 ≠ b771 := Nat.ne_of_lt (by rw [eb772]; exact f789.lt)
  have ne791 : b725 ≠ b771 := Nat.ne_of_lt (by rw [eb772]; exact A765.lt)
  have z793 : n0 ≤ h722.size := Nat.le_trans z745 E723.1
  have z794 : n0 ≤ h748.size := Nat.le_trans z793 (Nat.le_of_eq W749.size.symm)
  have z795 : n0 ≤ h753.size := Nat.le_trans z794 (Nat.le_of_eq W754.size.symm)
  have z796 : n0 ≤ h758.size := Nat.le_trans z795 (Nat.le_of_eq W759.size.symm)
  have z797 : n0 ≤ h763.size := Nat.le_trans z796 (Nat.le_of_eq W764.size.symm)
  have g792 : n0 ≤ b771 := by rw [eb772]; exact z797
  replace A770 : own_A Z h768 b771 .int [(.int (0 : Int32)), (.int (0 : Int32)), (.int (0 : Int32)), (.int (0 : Int32))] := A770
  show own_Ends _ _ _ _ (T766.setTop (mkF m 204 #[.val (.int x0), .val (.int x1), .val (.int x2), .val (.ref b593), .val (.ref b646), .val (.ref b685), .val (.ref b725), .unset, .unset, .unset, .unset, .unset, .unset, .unset, .unset, .unset, .unset, .unset] [(.ref b771)]))
  refine own_st (fun t_ => XS.astore (own_here Y767) hx rfl (hb hby at_204) rfl rfl (l' := #[.val (.int x0), .val (.int x1), .val (.int x2), .val (.ref b593), .val (.ref b646), .val (.ref b685), .val (.ref b725), .val (.ref b771), .unset, .unset, .unset, .unset, .unset, .unset, .unset, .unset, .unset, .unset]) rfl) ?_
  show own_Ends _ _ _ _ (T766.setTop (mkF m 206 #[.val (.int x0), .val (.int x1), .val (.int x2), .val (.ref b593), .val (.ref b646), .val (.ref b685), .val (.ref b725), .val (.ref b771), .unset, .unset, .unset, .unset, .unset, .unset, .unset, .unset, .unset, .unset] []))
  refine own_st (fun t_ => XS.aload (own_here Y767) hx rfl (hb hby at_206) rfl rfl) ?_
  show own_Ends _ _ _ _ (T766.setTop (mkF m 208 #[.val (.int x0), .val (.int x1), .val (.int x2), .val (.ref b593), .val (.ref b646), .val (.ref b685), .val (.ref b725), .val (.ref b771), .unset, .unset, .unset, .unset, .unset, .unset, .unset, .unset, .unset, .unset] [(.ref b771)]))
  refine own_st (fun t_ => XS.iconst (own_here Y767) hx rfl (hb hby at_208) ) ?_
  show own_Ends _ _ _ _ (T766.setTop (mkF m 209 #[.val (.int x0), .val (.int x1), .val (.int x2), .val (.ref b593), .val (.ref b646), .val (.ref b685), .val (.ref b725), .val (.ref b771), .unset, .unset, .unset, .unset, .unset, .unset, .unset, .unset, .unset, .unset] [(.int (0 : Int32)), (.ref b771)]))
  refine own_st (fun t_ => XS.iconst (own_here Y767) hx rfl (hb hby at_209) ) ?_
  show own_Ends _ _ _ _ (T766.setTop (mkF m 210 #[.val (.int x0), .val (.int x1), .val (.int x2), .val (.ref b593), .val (.ref b646), .val (.ref b685), .val (.ref b725), .val (.ref b771), .unset, .unset, .unset, .unset, .unset, .unset, .unset, .unset, .unset, .unset] [(.int (1 : Int32)), (.int (0 : Int32)), (.ref b771)]))
  refine own_st (fun t_ => XS.iloadN (own_here Y767) hx rfl (hb hby at_210) rfl) ?_
  show own_Ends _ _ _ _ (T766.setTop (mkF m 211 #[.val (.int x0), .val (.int x1), .val (.int x2), .val (.ref b593), .val (.ref b646), .val (.ref b685), .val (.ref b725), .val (.ref b771), .unset, .unset, .unset, .unset, .unset, .unset, .unset, .unset, .unset, .unset] [(.int x1), (.int (1 : Int32)), (.int (0 : Int32)), (.ref b771)]))
  refine own_st (fun t_ => XS.iconst (own_here Y767) hx rfl (hb hby at_211) ) ?_
  show own_Ends _ _ _ _ (T766.setTop (mkF m 212 #[.val (.int x0), .val (.int x1), .val (.int x2), .val (.ref b593), .val (.ref b646), .val (.ref b685), .val (.ref b725), .val (.ref b771), .unset, .unset, .unset, .unset, .unset, .unset, .unset, .unset, .unset, .unset] [(.int (1 : Int32)), (.int x1), (.int (1 : Int32)), (.int (0 : Int32)), (.ref b771)]))
  refine own_st (fun t_ => XS.iand (own_here Y767) hx rfl (hb hby at_212) rfl) ?_
  show own_Ends _ _ _ _ (T766.setTop (mkF m 213 #[.val (.int x0), .val (.int x1), .val (.int x2), .val (.ref b593), .val (.ref b646), .val (.ref b685), .val (.ref b725), .val (.ref b771), .unset, .unset, .unset, .unset, .unset, .unset, .unset, .unset, .unset, .unset] [(.int (x1 &&& (1 : Int32))), (.int (1 : Int32)), (.int (0 : Int32)), (.ref b771)]))
  refine own_st (fun t_ => XS.iadd (own_here Y767) hx rfl (hb hby at_213) rfl) ?_
  show own_Ends _ _ _ _ (T766.setTop (mkF m 214 #[.val (.int x0), .val (.int x1), .val (.int x2), .val (.ref b593), .val (.ref b646), .val (.ref b685), .val (.ref b725), .val (.ref b771), .unset, .unset, .unset, .unset, .unset, .unset, .unset, .unset, .unset, .unset] [(.int ((1 : Int32) + (x1 &&& (1 : Int32)))), (.int (0 : Int32)), (.ref b771)]))
  generalize hz0 : ((1 : Int32) + (x1 &&& (1 : Int32))) = z0
  have hz012 : z0 = 1 ∨ z0 = 2 := by
    rw [← hz0]; rcases and_one x1 with q | q <;> rw [q]
    · exact Or.inl rfl
    · exact Or.inr rfl
  obtain ⟨k0, hz0k, hk01, hk02⟩ : ∃ k : Nat, z0.toInt = (k : Int) ∧ 1 ≤ k ∧ k ≤ 2 := by
    rcases hz012 with q | q <;> rw [q]
    · exact ⟨1, rfl, by decide, by decide⟩
    · exact ⟨2, rfl, by decide, by decide⟩
  refine own_stI Y767 hx hZ A770 g792 (i := 0) (by decide) (by decide) (Nat.le_of_ble_eq_true rfl) rfl rfl (hb hby at_214) (fun T798 h800 Y799 W801 A802 => ?_)
  replace A802 : own_A Z h800 b771 .int [(.int z0), (.int (0 : Int32)), (.int (0 : Int32)), (.int (0 : Int32))] := A802
  show own_Ends _ _ _ _ (T798.setTop (mkF m 215 #[.val (.int x0), .val (.int x1), .val (.int x2), .val (.ref b593), .val (.ref b646), .val (.ref b685), .val (.ref b725), .val (.ref b771), .unset, .unset, .unset, .unset, .unset, .unset, .unset, .unset, .unset, .unset] []))
  refine own_st (fun t_ => XS.aload (own_here Y799) hx rfl (hb hby at_215) rfl rfl) ?_
  show own_Ends _ _ _ _ (T798.setTop (mkF m 217 #[.val (.int x0), .val (.int x1), .val (.int x2), .val (.ref b593), .val (.ref b646), .val (.ref b685), .val (.ref b725), .val (.ref b771), .unset, .unset, .unset, .unset, .unset, .unset, .unset, .unset, .unset, .unset] [(.ref b771)]))
  refine own_st (fun t_ => XS.iconst (own_here Y799) hx rfl (hb hby at_217) ) ?_
  show own_Ends _ _ _ _ (T798.setTop (mkF m 218 #[.val (.int x0), .val (.int x1), .val (.int x2), .val (.ref b593), .val (.ref b646), .val (.ref b685), .val (.ref b725), .val (.ref b771), .unset, .unset, .unset, .unset, .unset, .unset, .unset, .unset, .unset, .unset] [(.int (1 : Int32)), (.ref b771)]))
  refine own_st (fun t_ => XS.iconst (own_here Y799) hx rfl (hb hby at_218) ) ?_
  show own_Ends _ _ _ _ (T798.setTop (mkF m 219 #[.val (.int x0), .val (.int x1), .val (.int x2), .val (.ref b593), .val (.ref b646), .val (.ref b685), .val (.ref b725), .val (.ref b771), .unset, .unset, .unset, .unset, .unset, .unset, .unset, .unset, .unset, .unset] [(.int (1 : Int32)), (.int (1 : Int32)), (.ref b771)]))
  refine own_st (fun t_ => XS.iloadN (own_here Y799) hx rfl (hb hby at_219) rfl) ?_
  show own_Ends _ _ _ _ (T798.setTop (mkF m 220 #[.val (.int x0), .val (.int x1), .val (.int x2), .val (.ref b593), .val (.ref b646), .val (.ref b685), .val (.ref b725), .val (.ref b771), .unset, .unset, .unset, .unset, .unset, .unset, .unset, .unset, .unset, .unset] [(.int x1), (.int (1 : Int32)), (.int (1 : Int32)), (.ref b771)]))
  refine own_st (fun t_ => XS.iconst (own_here Y799) hx rfl (hb hby at_220) ) ?_
  show own_Ends _ _ _ _ (T798.setTop (mkF m 221 #[.val (.int x0), .val (.int x1), .val (.int x2), .val (.ref b593), .val (.ref b646), .val (.ref b685), .val (.ref b725), .val (.ref b771), .unset, .unset, .unset, .unset, .unset, .unset, .unset, .unset, .unset, .unset] [(.int (1 : Int32)), (.int x1), (.int (1 : Int32)), (.int (1 : Int32)), (.ref b771)]))
  refine own_st (fun t_ => XS.iushr (own_here Y799) hx rfl (hb hby at_221) rfl) ?_
  show own_Ends _ _ _ _ (T798.setTop (mkF m 222 #[.val (.int x0), .val (.int x1), .val (.int x2), .val (.ref b593), .val (.ref b646), .val (.ref b685), .val (.ref b725), .val (.ref b771), .unset, .unset, .unset, .unset, .unset, .unset, .unset, .unset, .unset, .unset] [(.int ((x1.toUInt32 >>> ((1 : Int32) &&& 31).toUInt32).toInt32)), (.int (1 : Int32)), (.int (1 : Int32)), (.ref b771)]))
  refine own_st (fun t_ => XS.iconst (own_here Y799) hx rfl (hb hby at_222) ) ?_
  show own_Ends _ _ _ _ (T798.setTop (mkF m 223 #[.val (.int x0), .val (.int x1), .val (.int x2), .val (.ref b593), .val (.ref b646), .val (.ref b685), .val (.ref b725), .val (.ref b771), .unset, .unset, .unset, .unset, .unset, .unset, .unset, .unset, .unset, .unset] [(.int (1 : Int32)), (.int ((x1.toUInt32 >>> ((1 : Int32) &&& 31).toUInt32).toInt32)), (.int (1 : Int32)), (.int (1 : Int32)), (.ref b771)]))
  refine own_st (fun t_ => XS.iand (own_here Y799) hx rfl (hb hby at_223) rfl) ?_
  show own_Ends _ _ _ _ (T798.setTop (mkF m 224 #[.val (.int x0), .val (.int x1), .val (.int x2), .val (.ref b593), .val (.ref b646), .val (.ref b685), .val (.ref b725), .val (.ref b771), .unset, .unset, .unset, .unset, .unset, .unset, .unset, .unset, .unset, .unset] [(.int (((x1.toUInt32 >>> ((1 : Int32) &&& 31).toUInt32).toInt32) &&& (1 : Int32))), (.int (1 : Int32)), (.int (1 : Int32)), (.ref b771)]))
  refine own_st (fun t_ => XS.iadd (own_here Y799) hx rfl (hb hby at_224) rfl) ?_
  show own_Ends _ _ _ _ (T798.setTop (mkF m 225 #[.val (.int x0), .val (.int x1), .val (.int x2), .val (.ref b593), .val (.ref b646), .val (.ref b685), .val (.ref b725), .val (.ref b771), .unset, .unset, .unset, .unset, .unset, .unset, .unset, .unset, .unset, .unset] [(.int ((1 : Int32) + (((x1.toUInt32 >>> ((1 : Int32) &&& 31).toUInt32).toInt32) &&& (1 : Int32)))), (.int (1 : Int32)), (.ref b771)]))
  generalize hz1 : ((1 : Int32) + (((x1.toUInt32 >>> ((1 : Int32) &&& 31).toUInt32).toInt32) &&& (1 : Int32))) = z1
  have hz112 : z1 = 1 ∨ z1 = 2 := by
    rw [← hz1]; rcases and_one ((x1.toUInt32 >>> ((1 : Int32) &&& 31).toUInt32).toInt32) with q | q <;> rw [q]
    · exact Or.inl rfl
    · exact Or.inr rfl
  obtain ⟨k1, hz1k, hk11, hk12⟩ : ∃ k : Nat, z1.toInt = (k : Int) ∧ 1 ≤ k ∧ k ≤ 2 := by
    rcases hz112 with q | q <;> rw [q]
    · exact ⟨1, rfl, by decide, by decide⟩
    · exact ⟨2, rfl, by decide, by decide⟩
  refine own_stI Y799 hx hZ A802 g792 (i := 1) (by decide) (by decide) (Nat.le_of_ble_eq_true rfl) rfl rfl (hb hby at_225) (fun T803 h805 Y804 W806 A807 => ?_)
  replace A807 : own_A Z h805 b771 .int [(.int z0), (.int z1), (.int (0 : Int32)), (.int (0 : Int32))] := A807
  show own_Ends _ _ _ _ (T803.setTop (mkF m 226 #[.val (.int x0), .val (.int x1), .val (.int x2), .val (.ref b593), .val (.ref b646), .val (.ref b685), .val (.ref b725), .val (.ref b771), .unset, .unset, .unset, .unset, .unset, .unset, .unset, .unset, .unset, .unset] []))
  refine own_st (fun t_ => XS.aload (own_here Y804) hx rfl (hb hby at_226) rfl rfl) ?_
  show own_Ends _ _ _ _ (T803.setTop (mkF m 228 #[.val (.int x0), .val (.int x1), .val (.int x2), .val (.ref b593), .val (.ref b646), .val (.ref b685), .val (.ref b725), .val (.ref b771), .unset, .unset, .unset, .unset, .unset, .unset, .unset, .unset, .unset, .unset] [(.ref b771)]))
  refine own_st (fun t_ => XS.iconst (own_here Y804) hx rfl (hb hby at_228) ) ?_
  show own_Ends _ _ _ _ (T803.setTop (mkF m 229 #[.val (.int x0), .val (.int x1), .val (.int x2), .val (.ref b593), .val (.ref b646), .val (.ref b685), .val (.ref b725), .val (.ref b771), .unset, .unset, .unset, .unset, .unset, .unset, .unset, .unset, .unset, .unset] [(.int (2 : Int32)), (.ref b771)]))
  refine own_st (fun t_ => XS.iconst (own_here Y804) hx rfl (hb hby at_229) ) ?_
  show own_Ends _ _ _ _ (T803.setTop (mkF m 230 #[.val (.int x0), .val (.int x1), .val (.int x2), .val (.ref b593), .val (.ref b646), .val (.ref b685), .val (.ref b725), .val (.ref b771), .unset, .unset, .unset, .unset, .unset, .unset, .unset, .unset, .unset, .unset] [(.int (1 : Int32)), (.int (2 : Int32)), (.ref b771)]))
  refine own_st (fun t_ => XS.iloadN (own_here Y804) hx rfl (hb hby at_230) rfl) ?_
  show own_Ends _ _ _ _ (T803.setTop (mkF m 231 #[.val (.int x0), .val (.int x1), .val (.int x2), .val (.ref b593), .val (.ref b646), .val (.ref b685), .val (.ref b725), .val (.ref b771), .unset, .unset, .unset, .unset, .unset, .unset, .unset, .unset, .unset, .unset] [(.int x1), (.int (1 : Int32)), (.int (2 : Int32)), (.ref b771)]))
  refine own_st (fun t_ => XS.iconst (own_here Y804) hx rfl (hb hby at_231) ) ?_
  show own_Ends _ _ _ _ (T803.setTop (mkF m 232 #[.val (.int x0), .val (.int x1), .val (.int x2), .val (.ref b593), .val (.ref b646), .val (.ref b685), .val (.ref b725), .val (.ref b771), .unset, .unset, .unset, .unset, .unset, .unset, .unset, .unset, .unset, .unset] [(.int (2 : Int32)), (.int x1), (.int (1 : Int32)), (.int (2 : Int32)), (.ref b771)]))
  refine own_st (fun t_ => XS.iushr (own_here Y804) hx rfl (hb hby at_232) rfl) ?_
  show own_Ends _ _ _ _ (T803.setTop (mkF m 233 #[.val (.int x0), .val (.int x1), .val (.int x2), .val (.ref b593), .val (.ref b646), .val (.ref b685), .val (.ref b725), .val (.ref b771), .unset, .unset, .unset, .unset, .unset, .unset, .unset, .unset, .unset, .unset] [(.int ((x1.toUInt32 >>> ((2 : Int32) &&& 31).toUInt32).toInt32)), (.int (1 : Int32)), (.int (2 : Int32)), (.ref b771)]))
  refine own_st (fun t_ => XS.iconst (own_here Y804) hx rfl (hb hby at_233) ) ?_
  show own_Ends _ _ _ _ (T803.setTop (mkF m 234 #[.val (.int x0), .val (.int x1), .val (.int x2), .val (.ref b593), .val (.ref b646), .val (.ref b685), .val (.ref b725), .val (.ref b771), .unset, .unset, .unset, .unset, .unset, .unset, .unset, .unset, .unset, .unset] [(.int (1 : Int32)), (.int ((x1.toUInt32 >>> ((2 : Int32) &&& 31).toUInt32).toInt32)), (.int (1 : Int32)), (.int (2 : Int32)), (.ref b771)]))
  refine own_st (fun t_ => XS.iand (own_here Y804) hx rfl (hb hby at_234) rfl) ?_
  show own_Ends _ _ _ _ (T803.setTop (mkF m 235 #[.val (.int x0), .val (.int x1), .val (.int x2), .val (.ref b593), .val (.ref b646), .val (.ref b685), .val (.ref b725), .val (.ref b771), .unset, .unset, .unset, .unset, .unset, .unset, .unset, .unset, .unset, .unset] [(.int (((x1.toUInt32 >>> ((2 : Int32) &&& 31).toUInt32).toInt32) &&& (1 : Int32))), (.int (1 : Int32)), (.int (2 : Int32)), (.ref b771)]))
  refine own_st (fun t_ => XS.iadd (own_here Y804) hx rfl (hb hby at_235) rfl) ?_
  show own_Ends _ _ _ _ (T803.setTop (mkF m 236 #[.val (.int x0), .val (.int x1), .val (.int x2), .val (.ref b593), .val (.ref b646), .val (.ref b685), .val (.ref b725), .val (.ref b771), .unset, .unset, .unset, .unset, .unset, .unset, .unset, .unset, .unset, .unset] [(.int ((1 : Int32) + (((x1.toUInt32 >>> ((2 : Int32) &&& 31).toUInt32).toInt32) &&& (1 : Int32)))), (.int (2 : Int32)), (.ref b771)]))
  generalize hz2 : ((1 : Int32) + (((x1.toUInt32 >>> ((2 : Int32) &&& 31).toUInt32).toInt32) &&& (1 : Int32))) = z2
  have hz212 : z2 = 1 ∨ z2 = 2 := by
    rw [← hz2]; rcases and_one ((x1.toUInt32 >>> ((2 : Int32) &&& 31).toUInt32).toInt32) with q | q <;> rw [q]
    · exact Or.inl rfl
    · exact Or.inr rfl
  obtain ⟨k2, hz2k, hk21, hk22⟩ : ∃ k : Nat, z2.toInt = (k : Int) ∧ 1 ≤ k ∧ k ≤ 2 := by
    rcases hz212 with q | q <;> rw [q]
    · exact ⟨1, rfl, by decide, by decide⟩
    · exact ⟨2, rfl, by decide, by decide⟩
  refine own_stI Y804 hx hZ A807 g792 (i := 2) (by decide) (by decide) (Nat.le_of_ble_eq_true rfl) rfl rfl (hb hby at_236) (fun T808 h810 Y809 W811 A812 => ?_)
  replace A812 : own_A Z h810 b771 .int [(.int z0), (.int z1), (.int z2), (.int (0 : Int32))] := A812
  show own_Ends _ _ _ _ (T808.setTop (mkF m 237 #[.val (.int x0), .val (.int x1), .val (.int x2), .val (.ref b593), .val (.ref b646), .val (.ref b685), .val (.ref b725), .val (.ref b771), .unset, .unset, .unset, .unset, .unset, .unset, .unset, .unset, .unset, .unset] []))
  refine own_st (fun t_ => XS.aload (own_here Y809) hx rfl (hb hby at_237) rfl rfl) ?_
  show own_Ends _ _ _ _ (T808.setTop (mkF m 239 #[.val (.int x0), .val (.int x1), .val (.int x2), .val (.ref b593), .val (.ref b646), .val (.ref b685), .val (.ref b725), .val (.ref b771), .unset, .unset, .unset, .unset, .unset, .unset, .unset, .unset, .unset, .unset] [(.ref b771)]))
  refine own_st (fun t_ => XS.iconst (own_here Y809) hx rfl (hb hby at_239) ) ?_
  show own_Ends _ _ _ _ (T808.setTop (mkF m 240 #[.val (.int x0), .val (.int x1), .val (.int x2), .val (.ref b593), .val (.ref b646), .val (.ref b685), .val (.ref b725), .val (.ref b771), .unset, .unset, .unset, .unset, .unset, .unset, .unset, .unset, .unset, .unset] [(.int (3 : Int32)), (.ref b771)]))
  refine own_st (fun t_ => XS.iconst (own_here Y809) hx rfl (hb hby at_240) ) ?_
  show own_Ends _ _ _ _ (T808.setTop (mkF m 241 #[.val (.int x0), .val (.int x1), .val (.int x2), .val (.ref b593), .val (.ref b646), .val (.ref b685), .val (.ref b725), .val (.ref b771), .unset, .unset, .unset, .unset, .unset, .unset, .unset, .unset, .unset, .unset] [(.int (1 : Int32)), (.int (3 : Int32)), (.ref b771)]))
  refine own_st (fun t_ => XS.iloadN (own_here Y809) hx rfl (hb hby at_241) rfl) ?_
  show own_Ends _ _ _ _ (T808.setTop (mkF m 242 #[.val (.int x0), .val (.int x1), .val (.int x2), .val (.ref b593), .val (.ref b646), .val (.ref b685), .val (.ref b725), .val (.ref b771), .unset, .unset, .unset, .unset, .unset, .unset, .unset, .unset, .unset, .unset] [(.int x1), (.int (1 : Int32)), (.int (3 : Int32)), (.ref b771)]))
  refine own_st (fun t_ => XS.iconst (own_here Y809) hx rfl (hb hby at_242) ) ?_
  show own_Ends _ _ _ _ (T808.setTop (mkF m 243 #[.val (.int x0), .val (.int x1), .val (.int x2), .val (.ref b593), .val (.ref b646), .val (.ref b685), .val (.ref b725), .val (.ref b771), .unset, .unset, .unset, .unset, .unset, .unset, .unset, .unset, .unset, .unset] [(.int (3 : Int32)), (.int x1), (.int (1 : Int32)), (.int (3 : Int32)), (.ref b771)]))
  refine own_st (fun t_ => XS.iushr (own_here Y809) hx rfl (hb hby at_243) rfl) ?_
  show own_Ends _ _ _ _ (T808.setTop (mkF m 244 #[.val (.int x0), .val (.int x1), .val (.int x2), .val (.ref b593), .val (.ref b646), .val (.ref b685), .val (.ref b725), .val (.ref b771), .unset, .unset, .unset, .unset, .unset, .unset, .unset, .unset, .unset, .unset] [(.int ((x1.toUInt32 >>> ((3 : Int32) &&& 31).toUInt32).toInt32)), (.int (1 : Int32)), (.int (3 : Int32)), (.ref b771)]))
  refine own_st (fun t_ => XS.iconst (own_here Y809) hx rfl (hb hby at_244) ) ?_
  show own_Ends _ _ _ _ (T808.setTop (mkF m 245 #[.val (.int x0), .val (.int x1), .val (.int x2), .val (.ref b593), .val (.ref b646), .val (.ref b685), .val (.ref b725), .val (.ref b771), .unset, .unset, .unset, .unset, .unset, .unset, .unset, .unset, .unset, .unset] [(.int (1 : Int32)), (.int ((x1.toUInt32 >>> ((3 : Int32) &&& 31).toUInt32).toInt32)), (.int (1 : Int32)), (.int (3 : Int32)), (.ref b771)]))
  refine own_st (fun t_ => XS.iand (own_here Y809) hx rfl (hb hby at_245) rfl) ?_
  show own_Ends _ _ _ _ (T808.setTop (mkF m 246 #[.val (.int x0), .val (.int x1), .val (.int x2), .val (.ref b593), .val (.ref b646), .val (.ref b685), .val (.ref b725), .val (.ref b771), .unset, .unset, .unset, .unset, .unset, .unset, .unset, .unset, .unset, .unset] [(.int (((x1.toUInt32 >>> ((3 : Int32) &&& 31).toUInt32).toInt32) &&& (1 : Int32))), (.int (1 : Int32)), (.int (3 : Int32)), (.ref b771)]))
  refine own_st (fun t_ => XS.iadd (own_here Y809) hx rfl (hb hby at_246) rfl) ?_
  show own_Ends _ _ _ _ (T808.setTop (mkF m 247 #[.val (.int x0), .val (.int x1), .val (.int x2), .val (.ref b593), .val (.ref b646), .val (.ref b685), .val (.ref b725), .val (.ref b771), .unset, .unset, .unset, .unset, .unset, .unset, .unset, .unset, .unset, .unset] [(.int ((1 : Int32) + (((x1.toUInt32 >>> ((3 : Int32) &&& 31).toUInt32).toInt32) &&& (1 : Int32)))), (.int (3 : Int32)), (.ref b771)]))
  generalize hz3 : ((1 : Int32) + (((x1.toUInt32 >>> ((3 : Int32) &&& 31).toUInt32).toInt32) &&& (1 : Int32))) = z3
  have hz312 : z3 = 1 ∨ z3 = 2 := by
    rw [← hz3]; rcases and_one ((x1.toUInt32 >>> ((3 : Int32) &&& 31).toUInt32).toInt32) with q | q <;> rw [q]
    · exact Or.inl rfl
    · exact Or.inr rfl
  obtain ⟨k3, hz3k, hk31, hk32⟩ : ∃ k : Nat, z3.toInt = (k : Int) ∧ 1 ≤ k ∧ k ≤ 2 := by
    rcases hz312 with q | q <;> rw [q]
    · exact ⟨1, rfl, by decide, by decide⟩
    · exact ⟨2, rfl, by decide, by decide⟩
  refine own_stI Y809 hx hZ A812 g792 (i := 3) (by decide) (by decide) (Nat.le_of_ble_eq_true rfl) rfl rfl (hb hby at_247) (fun T813 h815 Y814 W816 A817 => ?_)
  replace A817 : own_A Z h815 b771 .int [(.int z0), (.int z1), (.int z2), (.int z3)] := A817
  show own_Ends _ _ _ _ (T813.setTop (mkF m 248 #[.val (.int x0), .val (.int x1), .val (.int x2), .val (.ref b593), .val (.ref b646), .val (.ref b685), .val (.ref b725), .val (.ref b771), .unset, .unset, .unset, .unset, .unset, .unset, .unset, .unset, .unset, .unset] []))
  refine own_st (fun t_ => XS.iconst (own_here Y814) hx rfl (hb hby at_248) ) ?_
  show own_Ends _ _ _ _ (T813.setTop (mkF m 249 #[.val (.int x0), .val (.int x1), .val (.int x2), .val (.ref b593), .val (.ref b646), .val (.ref b685), .val (.ref b725), .val (.ref b771), .unset, .unset, .unset, .unset, .unset, .unset, .unset, .unset, .unset, .unset] [(.int (4 : Int32))]))
  refine own_newP Y814 hx hZ (hw _ (List.mem_of_getElem? (i := 0) rfl)) rfl (hb hby at_249) rfl (by decide) (nz := 4) (cap := 4) (by decide) (by decide) (by decide) (by decide) (by decide) (ty := .int) rfl (fun T818 h820 b823 eb824 Y819 E821 A822 => ?_)
  have f825 : own_A Z h768 b593 .int [(.int y0), (.int y1), (.int y2), (.int y3), (.int y4), (.int y5), (.int y6), (.int y7), (.int y8)] := f777.ext E769
  have f826 : own_A Z h800 b593 .int [(.int y0), (.int y1), (.int y2), (.int y3), (.int y4), (.int y5), (.int y6), (.int y7), (.int y8)] := f825.other W801 ne778
  have f827 : own_A Z h805 b593 .int [(.int y0), (.int y1), (.int y2), (.int y3), (.int y4), (.int y5), (.int y6), (.int y7), (.int y8)] := f826.other W806 ne778
  have f828 : own_A Z h810 b593 .int [(.int y0), (.int y1), (.int y2), (.int y3), (.int y4), (.int y5), (.int y6), (.int y7), (.int y8)] := f827.other W811 ne778
  have f829 : own_A Z h815 b593 .int [(.int y0), (.int y1), (.int y2), (.int y3), (.int y4), (.int y5), (.int y6), (.int y7), (.int y8)] := f828.other W816 ne778
  have ne830 : b593 ≠ b823 := Nat.ne_of_lt (by rw [eb824]; exact f829.lt)
  have f831 : own_A Z h768 b646 .int [(.int (0 : Int32)), (.int (3 : Int32)), (.int (6 : Int32)), (.int (9 : Int32))] := f783.ext E769
  have f832 : own_A Z h800 b646 .int [(.int (0 : Int32)), (.int (3 : Int32)), (.int (6 : Int32)), (.int (9 : Int32))] := f831.other W801 ne784
  have f833 : own_A Z h805 b646 .int [(.int (0 : Int32)), (.int (3 : Int32)), (.int (6 : Int32)), (.int (9 : Int32))] := f832.other W806 ne784
  have f834 : own_A Z h810 b646 .int [(.int (0 : Int32)), (.int (3 : Int32)), (.int (6 : Int32)), (.int (9 : Int32))] := f833.other W811 ne784
  have f835 : own_A Z h815 b646 .int [(.int (0 : Int32)), (.int (3 : Int32)), (.int (6 : Int32)), (.int (9 : Int32))] := f834.other W816 ne784
  have ne836 : b646 ≠ b823 := Nat.ne_of_lt (by rw [eb824]; exact f835.lt)
  have f837 : own_A Z h768 b685 .int [(.int (0 : Int32)), (.int (1 : Int32)), (.int (3 : Int32)), (.int (4 : Int32))] := f789.ext E769
  have f838 : own_A Z h800 b685 .int [(.int (0 : Int32)), (.int (1 : Int32)), (.int (3 : Int32)), (.int (4 : Int32))] := f837.other W801 ne790
  have f839 : own_A Z h805 b685 .int [(.int (0 : Int32)), (.int (1 : Int32)), (.int (3 : Int32)), (.int (4 : Int32))] := f838.other W806 ne790
  have f840 : own_A Z h810 b685 .int [(.int (0 : Int32)), (.int (1 : Int32)), (.int (3 : Int32)), (.int (4 : Int32))] := f839.other W811 ne790
  have f841 : own_A Z h815 b685 .int [(.int (0 : Int32)), (.int (1 : Int32)), (.int (3 : Int32)), (.int (4 : Int32))] := f840.other W816 ne790
  have ne842 : b685 ≠ b823 := Nat.ne_of_lt (by rw [eb824]; exact f841.lt)
  have f843 : own_A Z h768 b725 .int [(.int (1 : Int32)), (.int (0 : Int32)), (.int (2 : Int32)), (.int (1 : Int32))] := A765.ext E769
  have f844 : own_A Z h800 b725 .int [(.int (1 : Int32)), (.int (0 : Int32)), (.int (2 : Int32)), (.int (1 : Int32))] := f843.other W801 ne791
  have f845 : own_A Z h805 b725 .int [(.int (1 : Int32)), (.int (0 : Int32)), (.int (2 : Int32)), (.int (1 : Int32))] := f844.other W806 ne791
  have f846 : own_A Z h810 b725 .int [(.int (1 : Int32)), (.int (0 : Int32)), (.int (2 : Int32)), (.int (1 : Int32))] := f845.other W811 ne791
  have f847 : own_A Z h815 b725 .int [(.int (1 : Int32)), (.int (0 : Int32)), (.int (2 : Int32)), (.int (1 : Int32))] := f846.other W816 ne791
  have ne848 : b725 ≠ b823 := Nat.ne_of_lt (by rw [eb824]; exact f847.lt)
  have ne849 : b771 ≠ b823 := Nat.ne_of_lt (by rw [eb824]; exact A817.lt)
  have z851 : n0 ≤ h768.size := Nat.le_trans z797 E769.1
  have z852 : n0 ≤ h800.size := Nat.le_trans z851 (Nat.le_of_eq W801.size.symm)
  have z853 : n0 ≤ h805.size := Nat.le_trans z852 (Nat.le_of_eq W806.size.symm)
  have z854 : n0 ≤ h810.size := Nat.le_trans z853 (Nat.le_of_eq W811.size.symm)
  have z855 : n0 ≤ h815.size := Nat.le_trans z854 (Nat.le_of_eq W816.size.symm)
  have g850 : n0 ≤ b823 := by rw [eb824]; exact z855
  replace A822 : own_A Z h820 b823 .int [(.int (0 : Int32)), (.int (0 : Int32)), (.int (0 : Int32)), (.int (0 : Int32))] := A822
  show own_Ends _ _ _ _ (T818.setTop (mkF m 251 #[.val (.int x0), .val (.int x1), .val (.int x2), .val (.ref b593), .val (.ref b646), .val (.ref b685), .val (.ref b725), .val (.ref b771), .unset, .unset, .unset, .unset, .unset, .unset, .unset, .unset, .unset, .unset] [(.ref b823)]))
  refine own_st (fun t_ => XS.astore (own_here Y819) hx rfl (hb hby at_251) rfl rfl (l' := #[.val (.int x0), .val (.int x1), .val (.int x2), .val (.ref b593), .val (.ref b646), .val (.ref b685), .val (.ref b725), .val (.ref b771), .val (.ref b823), .unset, .unset, .unset, .unset, .unset, .unset, .unset, .unset, .unset]) rfl) ?_
  show own_Ends _ _ _ _ (T818.setTop (mkF m 253 #[.val (.int x0), .val (.int x1), .val (.int x2), .val (.ref b593), .val (.ref b646), .val (.ref b685), .val (.ref b725), .val (.ref b771), .val (.ref b823), .unset, .unset, .unset, .unset, .unset, .unset, .unset, .unset, .unset] []))
  refine own_st (fun t_ => XS.aload (own_here Y819) hx rfl (hb hby at_253) rfl rfl) ?_
  show own_Ends _ _ _ _ (T818.setTop (mkF m 255 #[.val (.int x0), .val (.int x1), .val (.int x2), .val (.ref b593), .val (.ref b646), .val (.ref b685), .val (.ref b725), .val (.ref b771), .val (.ref b823), .unset, .unset, .unset, .unset, .unset, .unset, .unset, .unset, .unset] [(.ref b823)]))
  refine own_st (fun t_ => XS.iconst (own_here Y819) hx rfl (hb hby at_255) ) ?_
  show own_Ends _ _ _ _ (T818.setTop (mkF m 256 #[.val (.int x0), .val (.int x1), .val (.int x2), .val (.ref b593), .val (.ref b646), .val (.ref b685), .val (.ref b725), .val (.ref b771), .val (.ref b823), .unset, .unset, .unset, .unset, .unset, .unset, .unset, .unset, .unset] [(.int (0 : Int32)), (.ref b823)]))
  refine own_st (fun t_ => XS.iloadN (own_here Y819) hx rfl (hb hby at_256) rfl) ?_
  show own_Ends _ _ _ _ (T818.setTop (mkF m 257 #[.val (.int x0), .val (.int x1), .val (.int x2), .val (.ref b593), .val (.ref b646), .val (.ref b685), .val (.ref b725), .val (.ref b771), .val (.ref b823), .unset, .unset, .unset, .unset, .unset, .unset, .unset, .unset, .unset] [(.int x1), (.int (0 : Int32)), (.ref b823)]))
  refine own_st (fun t_ => XS.iconst (own_here Y819) hx rfl (hb hby at_257) ) ?_
  show own_Ends _ _ _ _ (T818.setTop (mkF m 258 #[.val (.int x0), .val (.int x1), .val (.int x2), .val (.ref b593), .val (.ref b646), .val (.ref b685), .val (.ref b725), .val (.ref b771), .val (.ref b823), .unset, .unset, .unset, .unset, .unset, .unset, .unset, .unset, .unset] [(.int (4 : Int32)), (.int x1), (.int (0 : Int32)), (.ref b823)]))
  refine own_st (fun t_ => XS.iushr (own_here Y819) hx rfl (hb hby at_258) rfl) ?_
  show own_Ends _ _ _ _ (T818.setTop (mkF m 259 #[.val (.int x0), .val (.int x1), .val (.int x2), .val (.ref b593), .val (.ref b646), .val (.ref b685), .val (.ref b725), .val (.ref b771), .val (.ref b823), .unset, .unset, .unset, .unset, .unset, .unset, .unset, .unset, .unset] [(.int ((x1.toUInt32 >>> ((4 : Int32) &&& 31).toUInt32).toInt32)), (.int (0 : Int32)), (.ref b823)]))
  refine own_st (fun t_ => XS.iconst (own_here Y819) hx rfl (hb hby at_259) ) ?_
  show own_Ends _ _ _ _ (T818.setTop (mkF m 260 #[.val (.int x0), .val (.int x1), .val (.int x2), .val (.ref b593), .val (.ref b646), .val (.ref b685), .val (.ref b725), .val (.ref b771), .val (.ref b823), .unset, .unset, .unset, .unset, .unset, .unset, .unset, .unset, .unset] [(.int (3 : Int32)), (.int ((x1.toUInt32 >>> ((4 : Int32) &&& 31).toUInt32).toInt32)), (.int (0 : Int32)), (.ref b823)]))
  refine own_st (fun t_ => XS.iand (own_here Y819) hx rfl (hb hby at_260) rfl) ?_
  show own_Ends _ _ _ _ (T818.setTop (mkF m 261 #[.val (.int x0), .val (.int x1), .val (.int x2), .val (.ref b593), .val (.ref b646), .val (.ref b685), .val (.ref b725), .val (.ref b771), .val (.ref b823), .unset, .unset, .unset, .unset, .unset, .unset, .unset, .unset, .unset] [(.int (((x1.toUInt32 >>> ((4 : Int32) &&& 31).toUInt32).toInt32) &&& (3 : Int32))), (.int (0 : Int32)), (.ref b823)]))
  refine own_st (fun t_ => XS.iconst (own_here Y819) hx rfl (hb hby at_261) ) ?_
  show own_Ends _ _ _ _ (T818.setTop (mkF m 262 #[.val (.int x0), .val (.int x1), .val (.int x2), .val (.ref b593), .val (.ref b646), .val (.ref b685), .val (.ref b725), .val (.ref b771), .val (.ref b823), .unset, .unset, .unset, .unset, .unset, .unset, .unset, .unset, .unset] [(.int (3 : Int32)), (.int (((x1.toUInt32 >>> ((4 : Int32) &&& 31).toUInt32).toInt32) &&& (3 : Int32))), (.int (0 : Int32)), (.ref b823)]))
  refine own_irem Y819 hx rfl (hb hby at_262) rfl (by decide) ?_
  show own_Ends _ _ _ _ (T818.setTop (mkF m 263 #[.val (.int x0), .val (.int x1), .val (.int x2), .val (.ref b593), .val (.ref b646), .val (.ref b685), .val (.ref b725), .val (.ref b771), .val (.ref b823), .unset, .unset, .unset, .unset, .unset, .unset, .unset, .unset, .unset] [(.int ((((x1.toUInt32 >>> ((4 : Int32) &&& 31).toUInt32).toInt32) &&& (3 : Int32)) % (3 : Int32))), (.int (0 : Int32)), (.ref b823)]))
  generalize ho0 : ((((x1.toUInt32 >>> ((4 : Int32) &&& 31).toUInt32).toInt32) &&& (3 : Int32)) % (3 : Int32)) = o0
  have ho0r : 0 ≤ o0.toInt ∧ o0.toInt ≤ 2 := by
    have a := c_and ((x1.toUInt32 >>> ((4 : Int32) &&& 31).toUInt32).toInt32) 3 (by decide); have r := (c_irem (((x1.toUInt32 >>> ((4 : Int32) &&& 31).toUInt32).toInt32) &&& 3) 3 3 rfl).1 a.1; rw [ho0] at r; omega
  obtain ⟨j0, ho0k⟩ : ∃ j : Nat, o0.toInt = (j : Int) := ⟨o0.toInt.toNat, by omega⟩
  refine own_stI Y819 hx hZ A822 g850 (i := 0) (by decide) (by decide) (Nat.le_of_ble_eq_true rfl) rfl rfl (hb hby at_263) (fun T856 h858 Y857 W859 A860 => ?_)
  replace A860 : own_A Z h858 b823 .int [(.int o0), (.int (0 : Int32)), (.int (0 : Int32)), (.int (0 : Int32))] := A860
  show own_Ends _ _ _ _ (T856.setTop (mkF m 264 #[.val (.int x0), .val (.int x1), .val (.int x2), .val (.ref b593), .val (.ref b646), .val (.ref b685), .val (.ref b725), .val (.ref b771), .val (.ref b823), .unset, .unset, .unset, .unset, .unset, .unset, .unset, .unset, .unset] []))
  refine own_st (fun t_ => XS.aload (own_here Y857) hx rfl (hb hby at_264) rfl rfl) ?_
  show own_Ends _ _ _ _ (T856.setTop (mkF m 266 #[.val (.int x0), .val (.int x1), .val (.int x2), .val (.ref b593), .val (.ref b646), .val (.ref b685), .val (.ref b725), .val (.ref b771), .val (.ref b823), .unset, .unset, .unset, .unset, .unset, .unset, .unset, .unset, .unset] [(.ref b823)]))
  refine own_st (fun t_ => XS.iconst (own_here Y857) hx rfl (hb hby at_266) ) ?_
  show own_Ends _ _ _ _ (T856.setTop (mkF m 267 #[.val (.int x0), .val (.int x1), .val (.int x2), .val (.ref b593), .val (.ref b646), .val (.ref b685), .val (.ref b725), .val (.ref b771), .val (.ref b823), .unset, .unset, .unset, .unset, .unset, .unset, .unset, .unset, .unset] [(.int (1 : Int32)), (.ref b823)]))
  refine own_st (fun t_ => XS.iloadN (own_here Y857) hx rfl (hb hby at_267) rfl) ?_
  show own_Ends _ _ _ _ (T856.setTop (mkF m 268 #[.val (.int x0), .val (.int x1), .val (.int x2), .val (.ref b593), .val (.ref b646), .val (.ref b685), .val (.ref b725), .val (.ref b771), .val (.ref b823), .unset, .unset, .unset, .unset, .unset, .unset, .unset, .unset, .unset] [(.int x1), (.int (1 : Int32)), (.ref b823)]))
  refine own_st (fun t_ => XS.bipush (own_here Y857) hx rfl (hb hby at_268) ) ?_
  show own_Ends _ _ _ _ (T856.setTop (mkF m 270 #[.val (.int x0), .val (.int x1), .val (.int x2), .val (.ref b593), .val (.ref b646), .val (.ref b685), .val (.ref b725), .val (.ref b771), .val (.ref b823), .unset, .unset, .unset, .unset, .unset, .unset, .unset, .unset, .unset] [(.int (6 : Int32)), (.int x1), (.int (1 : Int32)), (.ref b823)]))
  refine own_st (fun t_ => XS.iushr (own_here Y857) hx rfl (hb hby at_270) rfl) ?_
  show own_Ends _ _ _ _ (T856.setTop (mkF m 271 #[.val (.int x0), .val (.int x1), .val (.int x2), .val (.ref b593), .val (.ref b646), .val (.ref b685), .val (.ref b725), .val (.ref b771), .val (.ref b823), .unset, .unset, .unset, .unset, .unset, .unset, .unset, .unset, .unset] [(.int ((x1.toUInt32 >>> ((6 : Int32) &&& 31).toUInt32).toInt32)), (.int (1 : Int32)), (.ref b823)]))
  refine own_st (fun t_ => XS.iconst (own_here Y857) hx rfl (hb hby at_271) ) ?_
  show own_Ends _ _ _ _ (T856.setTop (mkF m 272 #[.val (.int x0), .val (.int x1), .val (.int x2), .val (.ref b593), .val (.ref b646), .val (.ref b685), .val (.ref b725), .val (.ref b771), .val (.ref b823), .unset, .unset, .unset, .unset, .unset, .unset, .unset, .unset, .unset] [(.int (3 : Int32)), (.int ((x1.toUInt32 >>> ((6 : Int32) &&& 31).toUInt32).toInt32)), (.int (1 : Int32)), (.ref b823)]))
  refine own_st (fun t_ => XS.iand (own_here Y857) hx rfl (hb hby at_272) rfl) ?_
  show own_Ends _ _ _ _ (T856.setTop (mkF m 273 #[.val (.int x0), .val (.int x1), .val (.int x2), .val (.ref b593), .val (.ref b646), .val (.ref b685), .val (.ref b725), .val (.ref b771), .val (.ref b823), .unset, .unset, .unset, .unset, .unset, .unset, .unset, .unset, .unset] [(.int (((x1.toUInt32 >>> ((6 : Int32) &&& 31).toUInt32).toInt32) &&& (3 : Int32))), (.int (1 : Int32)), (.ref b823)]))
  refine own_st (fun t_ => XS.iconst (own_here Y857) hx rfl (hb hby at_273) ) ?_
  show own_Ends _ _ _ _ (T856.setTop (mkF m 274 #[.val (.int x0), .val (.int x1), .val (.int x2), .val (.ref b593), .val (.ref b646), .val (.ref b685), .val (.ref b725), .val (.ref b771), .val (.ref b823), .unset, .unset, .unset, .unset, .unset, .unset, .unset, .unset, .unset] [(.int (3 : Int32)), (.int (((x1.toUInt32 >>> ((6 : Int32) &&& 31).toUInt32).toInt32) &&& (3 : Int32))), (.int (1 : Int32)), (.ref b823)]))
  refine own_irem Y857 hx rfl (hb hby at_274) rfl (by decide) ?_
  show own_Ends _ _ _ _ (T856.setTop (mkF m 275 #[.val (.int x0), .val (.int x1), .val (.int x2), .val (.ref b593), .val (.ref b646), .val (.ref b685), .val (.ref b725), .val (.ref b771), .val (.ref b823), .unset, .unset, .unset, .unset, .unset, .unset, .unset, .unset, .unset] [(.int ((((x1.toUInt32 >>> ((6 : Int32) &&& 31).toUInt32).toInt32) &&& (3 : Int32)) % (3 : Int32))), (.int (1 : Int32)), (.ref b823)]))
  generalize ho1 : ((((x1.toUInt32 >>> ((6 : Int32) &&& 31).toUInt32).toInt32) &&& (3 : Int32)) % (3 : Int32)) = o1
  have ho1r : 0 ≤ o1.toInt ∧ o1.toInt ≤ 2 := by
    have a := c_and ((x1.toUInt32 >>> ((6 : Int32) &&& 31).toUInt32).toInt32) 3 (by decide); have r := (c_irem (((x1.toUInt32 >>> ((6 : Int32) &&& 31).toUInt32).toInt32) &&& 3) 3 3 rfl).1 a.1; rw [ho1] at r; omega
  obtain ⟨j1, ho1k⟩ : ∃ j : Nat, o1.toInt = (j : Int) := ⟨o1.toInt.toNat, by omega⟩
  refine own_stI Y857 hx hZ A860 g850 (i := 1) (by decide) (by decide) (Nat.le_of_ble_eq_true rfl) rfl rfl (hb hby at_275) (fun T861 h863 Y862 W864 A865 => ?_)
  replace A865 : own_A Z h863 b823 .int [(.int o0), (.int o1), (.int (0 : Int32)), (.int (0 : Int32))] := A865
  show own_Ends _ _ _ _ (T861.setTop (mkF m 276 #[.val (.int x0), .val (.int x1), .val (.int x2), .val (.ref b593), .val (.ref b646), .val (.ref b685), .val (.ref b725), .val (.ref b771), .val (.ref b823), .unset, .unset, .unset, .unset, .unset, .unset, .unset, .unset, .unset] []))
  refine own_st (fun t_ => XS.aload (own_here Y862) hx rfl (hb hby at_276) rfl rfl) ?_
  show own_Ends _ _ _ _ (T861.setTop (mkF m 278 #[.val (.int x0), .val (.int x1), .val (.int x2), .val (.ref b593), .val (.ref b646), .val (.ref b685), .val (.ref b725), .val (.ref b771), .val (.ref b823), .unset, .unset, .unset, .unset, .unset, .unset, .unset, .unset, .unset] [(.ref b823)]))
  refine own_st (fun t_ => XS.iconst (own_here Y862) hx rfl (hb hby at_278) ) ?_
  show own_Ends _ _ _ _ (T861.setTop (mkF m 279 #[.val (.int x0), .val (.int x1), .val (.int x2), .val (.ref b593), .val (.ref b646), .val (.ref b685), .val (.ref b725), .val (.ref b771), .val (.ref b823), .unset, .unset, .unset, .unset, .unset, .unset, .unset, .unset, .unset] [(.int (2 : Int32)), (.ref b823)]))
  refine own_st (fun t_ => XS.iloadN (own_here Y862) hx rfl (hb hby at_279) rfl) ?_
  show own_Ends _ _ _ _ (T861.setTop (mkF m 280 #[.val (.int x0), .val (.int x1), .val (.int x2), .val (.ref b593), .val (.ref b646), .val (.ref b685), .val (.ref b725), .val (.ref b771), .val (.ref b823), .unset, .unset, .unset, .unset, .unset, .unset, .unset, .unset, .unset] [(.int x1), (.int (2 : Int32)), (.ref b823)]))
  refine own_st (fun t_ => XS.bipush (own_here Y862) hx rfl (hb hby at_280) ) ?_
  show own_Ends _ _ _ _ (T861.setTop (mkF m 282 #[.val (.int x0), .val (.int x1), .val (.int x2), .val (.ref b593), .val (.ref b646), .val (.ref b685), .val (.ref b725), .val (.ref b771), .val (.ref b823), .unset, .unset, .unset, .unset, .unset, .unset, .unset, .unset, .unset] [(.int (8 : Int32)), (.int x1), (.int (2 : Int32)), (.ref b823)]))
  refine own_st (fun t_ => XS.iushr (own_here Y862) hx rfl (hb hby at_282) rfl) ?_
  show own_Ends _ _ _ _ (T861.setTop (mkF m 283 #[.val (.int x0), .val (.int x1), .val (.int x2), .val (.ref b593), .val (.ref b646), .val (.ref b685), .val (.ref b725), .val (.ref b771), .val (.ref b823), .unset, .unset, .unset, .unset, .unset, .unset, .unset, .unset, .unset] [(.int ((x1.toUInt32 >>> ((8 : Int32) &&& 31).toUInt32).toInt32)), (.int (2 : Int32)), (.ref b823)]))
  refine own_st (fun t_ => XS.iconst (own_here Y862) hx rfl (hb hby at_283) ) ?_
  show own_Ends _ _ _ _ (T861.setTop (mkF m 284 #[.val (.int x0), .val (.int x1), .val (.int x2), .val (.ref b593), .val (.ref b646), .val (.ref b685), .val (.ref b725), .val (.ref b771), .val (.ref b823), .unset, .unset, .unset, .unset, .unset, .unset, .unset, .unset, .unset] [(.int (3 : Int32)), (.int ((x1.toUInt32 >>> ((8 : Int32) &&& 31).toUInt32).toInt32)), (.int (2 : Int32)), (.ref b823)]))
  refine own_st (fun t_ => XS.iand (own_here Y862) hx rfl (hb hby at_284) rfl) ?_
  show own_Ends _ _ _ _ (T861.setTop (mkF m 285 #[.val (.int x0), .val (.int x1), .val (.int x2), .val (.ref b593), .val (.ref b646), .val (.ref b685), .val (.ref b725), .val (.ref b771), .val (.ref b823), .unset, .unset, .unset, .unset, .unset, .unset, .unset, .unset, .unset] [(.int (((x1.toUInt32 >>> ((8 : Int32) &&& 31).toUInt32).toInt32) &&& (3 : Int32))), (.int (2 : Int32)), (.ref b823)]))
  refine own_st (fun t_ => XS.iconst (own_here Y862) hx rfl (hb hby at_285) ) ?_
  show own_Ends _ _ _ _ (T861.setTop (mkF m 286 #[.val (.int x0), .val (.int x1), .val (.int x2), .val (.ref b593), .val (.ref b646), .val (.ref b685), .val (.ref b725), .val (.ref b771), .val (.ref b823), .unset, .unset, .unset, .unset, .unset, .unset, .unset, .unset, .unset] [(.int (3 : Int32)), (.int (((x1.toUInt32 >>> ((8 : Int32) &&& 31).toUInt32).toInt32) &&& (3 : Int32))), (.int (2 : Int32)), (.ref b823)]))
  refine own_irem Y862 hx rfl (hb hby at_286) rfl (by decide) ?_
  show own_Ends _ _ _ _ (T861.setTop (mkF m 287 #[.val (.int x0), .val (.int x1), .val (.int x2), .val (.ref b593), .val (.ref b646), .val (.ref b685), .val (.ref b725), .val (.ref b771), .val (.ref b823), .unset, .unset, .unset, .unset, .unset, .unset, .unset, .unset, .unset] [(.int ((((x1.toUInt32 >>> ((8 : Int32) &&& 31).toUInt32).toInt32) &&& (3 : Int32)) % (3 : Int32))), (.int (2 : Int32)), (.ref b823)]))
  generalize ho2 : ((((x1.toUInt32 >>> ((8 : Int32) &&& 31).toUInt32).toInt32) &&& (3 : Int32)) % (3 : Int32)) = o2
  have ho2r : 0 ≤ o2.toInt ∧ o2.toInt ≤ 2 := by
    have a := c_and ((x1.toUInt32 >>> ((8 : Int32) &&& 31).toUInt32).toInt32) 3 (by decide); have r := (c_irem (((x1.toUInt32 >>> ((8 : Int32) &&& 31).toUInt32).toInt32) &&& 3) 3 3 rfl).1 a.1; rw [ho2] at r; omega
  obtain ⟨j2, ho2k⟩ : ∃ j : Nat, o2.toInt = (j : Int) := ⟨o2.toInt.toNat, by omega⟩
  refine own_stI Y862 hx hZ A865 g850 (i := 2) (by decide) (by decide) (Nat.le_of_ble_eq_true rfl) rfl rfl (hb hby at_287) (fun T866 h868 Y867 W869 A870 => ?_)
  replace A870 : own_A Z h868 b823 .int [(.int o0), (.int o1), (.int o2), (.int (0 : Int32))] := A870
  show own_Ends _ _ _ _ (T866.setTop (mkF m 288 #[.val (.int x0), .val (.int x1), .val (.int x2), .val (.ref b593), .val (.ref b646), .val (.ref b685), .val (.ref b725), .val (.ref b771), .val (.ref b823), .unset, .unset, .unset, .unset, .unset, .unset, .unset, .unset, .unset] []))
  refine own_st (fun t_ => XS.aload (own_here Y867) hx rfl (hb hby at_288) rfl rfl) ?_
  show own_Ends _ _ _ _ (T866.setTop (mkF m 290 #[.val (.int x0), .val (.int x1), .val (.int x2), .val (.ref b593), .val (.ref b646), .val (.ref b685), .val (.ref b725), .val (.ref b771), .val (.ref b823), .unset, .unset, .unset, .unset, .unset, .unset, .unset, .unset, .unset] [(.ref b823)]))
  refine own_st (fun t_ => XS.iconst (own_here Y867) hx rfl (hb hby at_290) ) ?_
  show own_Ends _ _ _ _ (T866.setTop (mkF m 291 #[.val (.int x0), .val (.int x1), .val (.int x2), .val (.ref b593), .val (.ref b646), .val (.ref b685), .val (.ref b725), .val (.ref b771), .val (.ref b823), .unset, .unset, .unset, .unset, .unset, .unset, .unset, .unset, .unset] [(.int (3 : Int32)), (.ref b823)]))
  refine own_st (fun t_ => XS.iloadN (own_here Y867) hx rfl (hb hby at_291) rfl) ?_
  show own_Ends _ _ _ _ (T866.setTop (mkF m 292 #[.val (.int x0), .val (.int x1), .val (.int x2), .val (.ref b593), .val (.ref b646), .val (.ref b685), .val (.ref b725), .val (.ref b771), .val (.ref b823), .unset, .unset, .unset, .unset, .unset, .unset, .unset, .unset, .unset] [(.int x1), (.int (3 : Int32)), (.ref b823)]))
  refine own_st (fun t_ => XS.bipush (own_here Y867) hx rfl (hb hby at_292) ) ?_
  show own_Ends _ _ _ _ (T866.setTop (mkF m 294 #[.val (.int x0), .val (.int x1), .val (.int x2), .val (.ref b593), .val (.ref b646), .val (.ref b685), .val (.ref b725), .val (.ref b771), .val (.ref b823), .unset, .unset, .unset, .unset, .unset, .unset, .unset, .unset, .unset] [(.int (10 : Int32)), (.int x1), (.int (3 : Int32)), (.ref b823)]))
  refine own_st (fun t_ => XS.iushr (own_here Y867) hx rfl (hb hby at_294) rfl) ?_
  show own_Ends _ _ _ _ (T866.setTop (mkF m 295 #[.val (.int x0), .val (.int x1), .val (.int x2), .val (.ref b593), .val (.ref b646), .val (.ref b685), .val (.ref b725), .val (.ref b771), .val (.ref b823), .unset, .unset, .unset, .unset, .unset, .unset, .unset, .unset, .unset] [(.int ((x1.toUInt32 >>> ((10 : Int32) &&& 31).toUInt32).toInt32)), (.int (3 : Int32)), (.ref b823)]))
  refine own_st (fun t_ => XS.iconst (own_here Y867) hx rfl (hb hby at_295) ) ?_
  show own_Ends _ _ _ _ (T866.setTop (mkF m 296 #[.val (.int x0), .val (.int x1), .val (.int x2), .val (.ref b593), .val (.ref b646), .val (.ref b685), .val (.ref b725), .val (.ref b771), .val (.ref b823), .unset, .unset, .unset, .unset, .unset, .unset, .unset, .unset, .unset] [(.int (3 : Int32)), (.int ((x1.toUInt32 >>> ((10 : Int32) &&& 31).toUInt32).toInt32)), (.int (3 : Int32)), (.ref b823)]))
  refine own_st (fun t_ => XS.iand (own_here Y867) hx rfl (hb hby at_296) rfl) ?_
  show own_Ends _ _ _ _ (T866.setTop (mkF m 297 #[.val (.int x0), .val (.int x1), .val (.int x2), .val (.ref b593), .val (.ref b646), .val (.ref b685), .val (.ref b725), .val (.ref b771), .val (.ref b823), .unset, .unset, .unset, .unset, .unset, .unset, .unset, .unset, .unset] [(.int (((x1.toUInt32 >>> ((10 : Int32) &&& 31).toUInt32).toInt32) &&& (3 : Int32))), (.int (3 : Int32)), (.ref b823)]))
  refine own_st (fun t_ => XS.iconst (own_here Y867) hx rfl (hb hby at_297) ) ?_
  show own_Ends _ _ _ _ (T866.setTop (mkF m 298 #[.val (.int x0), .val (.int x1), .val (.int x2), .val (.ref b593), .val (.ref b646), .val (.ref b685), .val (.ref b725), .val (.ref b771), .val (.ref b823), .unset, .unset, .unset, .unset, .unset, .unset, .unset, .unset, .unset] [(.int (3 : Int32)), (.int (((x1.toUInt32 >>> ((10 : Int32) &&& 31).toUInt32).toInt32) &&& (3 : Int32))), (.int (3 : Int32)), (.ref b823)]))
  refine own_irem Y867 hx rfl (hb hby at_298) rfl (by decide) ?_
  show own_Ends _ _ _ _ (T866.setTop (mkF m 299 #[.val (.int x0), .val (.int x1), .val (.int x2), .val (.ref b593), .val (.ref b646), .val (.ref b685), .val (.ref b725), .val (.ref b771), .val (.ref b823), .unset, .unset, .unset, .unset, .unset, .unset, .unset, .unset, .unset] [(.int ((((x1.toUInt32 >>> ((10 : Int32) &&& 31).toUInt32).toInt32) &&& (3 : Int32)) % (3 : Int32))), (.int (3 : Int32)), (.ref b823)]))
  generalize ho3 : ((((x1.toUInt32 >>> ((10 : Int32) &&& 31).toUInt32).toInt32) &&& (3 : Int32)) % (3 : Int32)) = o3
  have ho3r : 0 ≤ o3.toInt ∧ o3.toInt ≤ 2 := by
    have a := c_and ((x1.toUInt32 >>> ((10 : Int32) &&& 31).toUInt32).toInt32) 3 (by decide); have r := (c_irem (((x1.toUInt32 >>> ((10 : Int32) &&& 31).toUInt32).toInt32) &&& 3) 3 3 rfl).1 a.1; rw [ho3] at r; omega
  obtain ⟨j3, ho3k⟩ : ∃ j : Nat, o3.toInt = (j : Int) := ⟨o3.toInt.toNat, by omega⟩
  refine own_stI Y867 hx hZ A870 g850 (i := 3) (by decide) (by decide) (Nat.le_of_ble_eq_true rfl) rfl rfl (hb hby at_299) (fun T871 h873 Y872 W874 A875 => ?_)
  replace A875 : own_A Z h873 b823 .int [(.int o0), (.int o1), (.int o2), (.int o3)] := A875
  show own_Ends _ _ _ _ (T871.setTop (mkF m 300 #[.val (.int x0), .val (.int x1), .val (.int x2), .val (.ref b593), .val (.ref b646), .val (.ref b685), .val (.ref b725), .val (.ref b771), .val (.ref b823), .unset, .unset, .unset, .unset, .unset, .unset, .unset, .unset, .unset] []))
  refine own_st (fun t_ => XS.iconst (own_here Y872) hx rfl (hb hby at_300) ) ?_
  show own_Ends _ _ _ _ (T871.setTop (mkF m 301 #[.val (.int x0), .val (.int x1), .val (.int x2), .val (.ref b593), .val (.ref b646), .val (.ref b685), .val (.ref b725), .val (.ref b771), .val (.ref b823), .unset, .unset, .unset, .unset, .unset, .unset, .unset, .unset, .unset] [(.int (5 : Int32))]))
  refine own_newP Y872 hx hZ (hw _ (List.mem_of_getElem? (i := 0) rfl)) rfl (hb hby at_301) rfl (by decide) (nz := 5) (cap := 5) (by decide) (by decide) (by decide) (by decide) (by decide) (ty := .int) rfl (fun T876 h878 b881 eb882 Y877 E879 A880 => ?_)
  have f883 : own_A Z h820 b593 .int [(.int y0), (.int y1), (.int y2), (.int y3), (.int y4), (.int y5), (.int y6), (.int y7), (.int y8)] := f829.ext E821
  have f884 : own_A Z h858 b593 .int [(.int y0), (.int y1), (.int y2), (.int y3), (.int y4), (.int y5), (.int y6), (.int y7), (.int y8)] := f883.other W859 ne830
  have f885 : own_A Z h863 b593 .int [(.int y0), (.int y1), (.int y2), (.int y3), (.int y4), (.int y5), (.int y6), (.int y7), (.int y8)] := f884.other W864 ne830
  have f886 : own_A Z h868 b593 .int [(.int y0), (.int y1), (.int y2), (.int y3), (.int y4), (.int y5), (.int y6), (.int y7), (.int y8)] := f885.other W869 ne830
  have f887 : own_A Z h873 b593 .int [(.int y0), (.int y1), (.int y2), (.int y3), (.int y4), (.int y5), (.int y6), (.int y7), (.int y8)] := f886.other W874 ne830
  have ne888 : b593 ≠ b881 := Nat.ne_of_lt (by rw [eb882]; exact f887.lt)
  have f889 : own_A Z h820 b646 .int [(.int (0 : Int32)), (.int (3 : Int32)), (.int (6 : Int32)), (.int (9 : Int32))] := f835.ext E821
  have f890 : own_A Z h858 b646 .int [(.int (0 : Int32)), (.int (3 : Int32)), (.int (6 : Int32)), (.int (9 : Int32))] := f889.other W859 ne836
  have f891 : own_A Z h863 b646 .int [(.int (0 : Int32)), (.int (3 : Int32)), (.int (6 : Int32)), (.int (9 : Int32))] := f890.other W864 ne836
  have f892 : own_A Z h868 b646 .int [(.int (0 : Int32)), (.int (3 : Int32)), (.int (6 : Int32)), (.int (9 : Int32))] := f891.other W869 ne836
  have f893 : own_A Z h873 b646 .int [(.int (0 : Int32)), (.int (3 : Int32)), (.int (6 : Int32)), (.int (9 : Int32))] := f892.other W874 ne836
  have ne894 : b646 ≠ b881 := Nat.ne_of_lt (by rw [eb882]; exact f893.lt)
  have f895 : own_A Z h820 b685 .int [(.int (0 : Int32)), (.int (1 : Int32)), (.int (3 : Int32)), (.int (4 : Int32))] := f841.ext E821
  have f896 : own_A Z h858 b685 .int [(.int (0 : Int32)), (.int (1 : Int32)), (.int (3 : Int32)), (.int (4 : Int32))] := f895.other W859 ne842
  have f897 : own_A Z h863 b685 .int [(.int (0 : Int32)), (.int (1 : Int32)), (.int (3 : Int32)), (.int (4 : Int32))] := f896.other W864 ne842
  have f898 : own_A Z h868 b685 .int [(.int (0 : Int32)), (.int (1 : Int32)), (.int (3 : Int32)), (.int (4 : Int32))] := f897.other W869 ne842
  have f899 : own_A Z h873 b685 .int [(.int (0 : Int32)), (.int (1 : Int32)), (.int (3 : Int32)), (.int (4 : Int32))] := f898.other W874 ne842
  have ne900 : b685 ≠ b881 := Nat.ne_of_lt (by rw [eb882]; exact f899.lt)
  have f901 : own_A Z h820 b725 .int [(.int (1 : Int32)), (.int (0 : Int32)), (.int (2 : Int32)), (.int (1 : Int32))] := f847.ext E821
  have f902 : own_A Z h858 b725 .int [(.int (1 : Int32)), (.int (0 : Int32)), (.int (2 : Int32)), (.int (1 : Int32))] := f901.other W859 ne848
  have f903 : own_A Z h863 b725 .int [(.int (1 : Int32)), (.int (0 : Int32)), (.int (2 : Int32)), (.int (1 : Int32))] := f902.other W864 ne848
  have f904 : own_A Z h868 b725 .int [(.int (1 : Int32)), (.int (0 : Int32)), (.int (2 : Int32)), (.int (1 : Int32))] := f903.other W869 ne848
  have f905 : own_A Z h873 b725 .int [(.int (1 : Int32)), (.int (0 : Int32)), (.int (2 : Int32)), (.int (1 : Int32))] := f904.other W874 ne848
  have ne906 : b725 ≠ b881 := Nat.ne_of_lt (by rw [eb882]; exact f905.lt)
  have f907 : own_A Z h820 b771 .int [(.int z0), (.int z1), (.int z2), (.int z3)] := A817.ext E821
  have f908 : own_A Z h858 b771 .int [(.int z0), (.int z1), (.int z2), (.int z3)] := f907.other W859 ne849
  have f909 : own_A Z h863 b771 .int [(.int z0), (.int z1), (.int z2), (.int z3)] := f908.other W864 ne849
  have f910 : own_A Z h868 b771 .int [(.int z0), (.int z1), (.int z2), (.int z3)] := f909.other W869 ne849
  have f911 : own_A Z h873 b771 .int [(.int z0), (.int z1), (.int z2), (.int z3)] := f910.other W874 ne849
  have ne912 : b771 ≠ b881 := Nat.ne_of_lt (by rw [eb882]; exact f911.lt)
  have ne913 : b823 ≠ b881 := Nat.ne_of_lt (by rw [eb882]; exact A875.lt)
  have z915 : n0 ≤ h820.size := Nat.le_trans z855 E821.1
  have z916 : n0 ≤ h858.size := Nat.le_trans z915 (Nat.le_of_eq W859.size.symm)
  have z917 : n0 ≤ h863.size := Nat.le_trans z916 (Nat.le_of_eq W864.size.symm)
  have z918 : n0 ≤ h868.size := Nat.le_trans z917 (Nat.le_of_eq W869.size.symm)
  have z919 : n0 ≤ h873.size := Nat.le_trans z918 (Nat.le_of_eq W874.size.symm)
  have g914 : n0 ≤ b881 := by rw [eb882]; exact z919
  replace A880 : own_A Z h878 b881 .int [(.int (0 : Int32)), (.int (0 : Int32)), (.int (0 : Int32)), (.int (0 : Int32)), (.int (0 : Int32))] := A880
  show own_Ends _ _ _ _ (T876.setTop (mkF m 303 #[.val (.int x0), .val (.int x1), .val (.int x2), .val (.ref b593), .val (.ref b646), .val (.ref b685), .val (.ref b725), .val (.ref b771), .val (.ref b823), .unset, .unset, .unset, .unset, .unset, .unset, .unset, .unset, .unset] [(.ref b881)]))
  refine own_st (fun t_ => XS.astore (own_here Y877) hx rfl (hb hby at_303) rfl rfl (l' := #[.val (.int x0), .val (.int x1), .val (.int x2), .val (.ref b593), .val (.ref b646), .val (.ref b685), .val (.ref b725), .val (.ref b771), .val (.ref b823), .val (.ref b881), .unset, .unset, .unset, .unset, .unset, .unset, .unset, .unset]) rfl) ?_
  show own_Ends _ _ _ _ (T876.setTop (mkF m 305 #[.val (.int x0), .val (.int x1), .val (.int x2), .val (.ref b593), .val (.ref b646), .val (.ref b685), .val (.ref b725), .val (.ref b771), .val (.ref b823), .val (.ref b881), .unset, .unset, .unset, .unset, .unset, .unset, .unset, .unset] []))
  refine own_st (fun t_ => XS.aload (own_here Y877) hx rfl (hb hby at_305) rfl rfl) ?_
  show own_Ends _ _ _ _ (T876.setTop (mkF m 307 #[.val (.int x0), .val (.int x1), .val (.int x2), .val (.ref b593), .val (.ref b646), .val (.ref b685), .val (.ref b725), .val (.ref b771), .val (.ref b823), .val (.ref b881), .unset, .unset, .unset, .unset, .unset, .unset, .unset, .unset] [(.ref b881)]))
  refine own_st (fun t_ => XS.iconst (own_here Y877) hx rfl (hb hby at_307) ) ?_
  show own_Ends _ _ _ _ (T876.setTop (mkF m 308 #[.val (.int x0), .val (.int x1), .val (.int x2), .val (.ref b593), .val (.ref b646), .val (.ref b685), .val (.ref b725), .val (.ref b771), .val (.ref b823), .val (.ref b881), .unset, .unset, .unset, .unset, .unset, .unset, .unset, .unset] [(.int (1 : Int32)), (.ref b881)]))
  refine own_st (fun t_ => XS.aload (own_here Y877) hx rfl (hb hby at_308) rfl rfl) ?_
  show own_Ends _ _ _ _ (T876.setTop (mkF m 310 #[.val (.int x0), .val (.int x1), .val (.int x2), .val (.ref b593), .val (.ref b646), .val (.ref b685), .val (.ref b725), .val (.ref b771), .val (.ref b823), .val (.ref b881), .unset, .unset, .unset, .unset, .unset, .unset, .unset, .unset] [(.ref b771), (.int (1 : Int32)), (.ref b881)]))
  refine own_st (fun t_ => XS.iconst (own_here Y877) hx rfl (hb hby at_310) ) ?_
  show own_Ends _ _ _ _ (T876.setTop (mkF m 311 #[.val (.int x0), .val (.int x1), .val (.int x2), .val (.ref b593), .val (.ref b646), .val (.ref b685), .val (.ref b725), .val (.ref b771), .val (.ref b823), .val (.ref b881), .unset, .unset, .unset, .unset, .unset, .unset, .unset, .unset] [(.int (0 : Int32)), (.ref b771), (.int (1 : Int32)), (.ref b881)]))
  have f920 : own_A Z h878 b771 .int [(.int z0), (.int z1), (.int z2), (.int z3)] := f911.ext E879
  refine own_ldI Y877 hx hZ f920 (i := 0) (by decide) (by decide) (Nat.le_of_ble_eq_true rfl) (v := (.int z0)) rfl rfl rfl (hb hby at_311) ?_
  show own_Ends _ _ _ _ (T876.setTop (mkF m 312 #[.val (.int x0), .val (.int x1), .val (.int x2), .val (.ref b593), .val (.ref b646), .val (.ref b685), .val (.ref b725), .val (.ref b771), .val (.ref b823), .val (.ref b881), .unset, .unset, .unset, .unset, .unset, .unset, .unset, .unset] [(.int z0), (.int (1 : Int32)), (.ref b881)]))
  refine own_stI Y877 hx hZ A880 g914 (i := 1) (by decide) (by decide) (Nat.le_of_ble_eq_true rfl) rfl rfl (hb hby at_312) (fun T921 h923 Y922 W924 A925 => ?_)
  replace A925 : own_A Z h923 b881 .int [(.int (0 : Int32)), (.int z0), (.int (0 : Int32)), (.int (0 : Int32)), (.int (0 : Int32))] := A925
  show own_Ends _ _ _ _ (T921.setTop (mkF m 313 #[.val (.int x0), .val (.int x1), .val (.int x2), .val (.ref b593), .val (.ref b646), .val (.ref b685), .val (.ref b725), .val (.ref b771), .val (.ref b823), .val (.ref b881), .unset, .unset, .unset, .unset, .unset, .unset, .unset, .unset] []))
  refine own_st (fun t_ => XS.aload (own_here Y922) hx rfl (hb hby at_313) rfl rfl) ?_
  show own_Ends _ _ _ _ (T921.setTop (mkF m 315 #[.val (.int x0), .val (.int x1), .val (.int x2), .val (.ref b593), .val (.ref b646), .val (.ref b685), .val (.ref b725), .val (.ref b771), .val (.ref b823), .val (.ref b881), .unset, .unset, .unset, .unset, .unset, .unset, .unset, .unset] [(.ref b881)]))
  refine own_st (fun t_ => XS.iconst (own_here Y922) hx rfl (hb hby at_315) ) ?_
  show own_Ends _ _ _ _ (T921.setTop (mkF m 316 #[.val (.int x0), .val (.int x1), .val (.int x2), .val (.ref b593), .val (.ref b646), .val (.ref b685), .val (.ref b725), .val (.ref b771), .val (.ref b823), .val (.ref b881), .unset, .unset, .unset, .unset, .unset, .unset, .unset, .unset] [(.int (2 : Int32)), (.ref b881)]))
  refine own_st (fun t_ => XS.aload (own_here Y922) hx rfl (hb hby at_316) rfl rfl) ?_
  show own_Ends _ _ _ _ (T921.setTop (mkF m 318 #[.val (.int x0), .val (.int x1), .val (.int x2), .val (.ref b593), .val (.ref b646), .val (.ref b685), .val (.ref b725), .val (.ref b771), .val (.ref b823), .val (.ref b881), .unset, .unset, .unset, .unset, .unset, .unset, .unset, .unset] [(.ref b881), (.int (2 : Int32)), (.ref b881)]))
  refine own_st (fun t_ => XS.iconst (own_here Y922) hx rfl (hb hby at_318) ) ?_
  show own_Ends _ _ _ _ (T921.setTop (mkF m 319 #[.val (.int x0), .val (.int x1), .val (.int x2), .val (.ref b593), .val (.ref b646), .val (.ref b685), .val (.ref b725), .val (.ref b771), .val (.ref b823), .val (.ref b881), .unset, .unset, .unset, .unset, .unset, .unset, .unset, .unset] [(.int (1 : Int32)), (.ref b881), (.int (2 : Int32)), (.ref b881)]))
  refine own_ldI Y922 hx hZ A925 (i := 1) (by decide) (by decide) (Nat.le_of_ble_eq_true rfl) (v := (.int z0)) rfl rfl rfl (hb hby at_319) ?_
  show own_Ends _ _ _ _ (T921.setTop (mkF m 320 #[.val (.int x0), .val (.int x1), .val (.int x2), .val (.ref b593), .val (.ref b646), .val (.ref b685), .val (.ref b725), .val (.ref b771), .val (.ref b823), .val (.ref b881), .unset, .unset, .unset, .unset, .unset, .unset, .unset, .unset] [(.int z0), (.int (2 : Int32)), (.ref b881)]))
  refine own_st (fun t_ => XS.aload (own_here Y922) hx rfl (hb hby at_320) rfl rfl) ?_
  show own_Ends _ _ _ _ (T921.setTop (mkF m 322 #[.val (.int x0), .val (.int x1), .val (.int x2), .val (.ref b593), .val (.ref b646), .val (.ref b685), .val (.ref b725), .val (.ref b771), .val (.ref b823), .val (.ref b881), .unset, .unset, .unset, .unset, .unset, .unset, .unset, .unset] [(.ref b771), (.int z0), (.int (2 : Int32)), (.ref b881)]))
  refine own_st (fun t_ => XS.iconst (own_here Y922) hx rfl (hb hby at_322) ) ?_
  show own_Ends _ _ _ _ (T921.setTop (mkF m 323 #[.val (.int x0), .val (.int x1), .val (.int x2), .val (.ref b593), .val (.ref b646), .val (.ref b685), .val (.ref b725), .val (.ref b771), .val (.ref b823), .val (.ref b881), .unset, .unset, .unset, .unset, .unset, .unset, .unset, .unset] [(.int (1 : Int32)), (.ref b771), (.int z0), (.int (2 : Int32)), (.ref b881)]))
  have f926 : own_A Z h923 b771 .int [(.int z0), (.int z1), (.int z2), (.int z3)] := f920.other W924 ne912
  refine own_ldI Y922 hx hZ f926 (i := 1) (by decide) (by decide) (Nat.le_of_ble_eq_true rfl) (v := (.int z1)) rfl rfl rfl (hb hby at_323) ?_
  show own_Ends _ _ _ _ (T921.setTop (mkF m 324 #[.val (.int x0), .val (.int x1), .val (.int x2), .val (.ref b593), .val (.ref b646), .val (.ref b685), .val (.ref b725), .val (.ref b771), .val (.ref b823), .val (.ref b881), .unset, .unset, .unset, .unset, .unset, .unset, .unset, .unset] [(.int z1), (.int z0), (.int (2 : Int32)), (.ref b881)]))
  refine own_st (fun t_ => XS.iadd (own_here Y922) hx rfl (hb hby at_324) rfl) ?_
  show own_Ends _ _ _ _ (T921.setTop (mkF m 325 #[.val (.int x0), .val (.int x1), .val (.int x2), .val (.ref b593), .val (.ref b646), .val (.ref b685), .val (.ref b725), .val (.ref b771), .val (.ref b823), .val (.ref b881), .unset, .unset, .unset, .unset, .unset, .unset, .unset, .unset] [(.int (z0 + z1)), (.int (2 : Int32)), (.ref b881)]))
  generalize hm2 : (z0 + z1) = m2
  have hm2k : m2.toInt = ((k0 + k1 : Nat) : Int) := by rw [← hm2]; exact own_add hz0k hz1k (by omega)
  refine own_stI Y922 hx hZ A925 g914 (i := 2) (by decide) (by decide) (Nat.le_of_ble_eq_true rfl) rfl rfl (hb hby at_325) (fun T927 h929 Y928 W930 A931 => ?_)
  replace A931 : own_A Z h929 b881 .int [(.int (0 : Int32)), (.int z0), (.int m2), (.int (0 : Int32)), (.int (0 : Int32))] := A931
  show own_Ends _ _ _ _ (T927.setTop (mkF m 326 #[.val (.int x0), .val (.int x1), .val (.int x2), .val (.ref b593), .val (.ref b646), .val (.ref b685), .val (.ref b725), .val (.ref b771), .val (.ref b823), .val (.ref b881), .unset, .unset, .unset, .unset, .unset, .unset, .unset, .unset] []))
  refine own_st (fun t_ => XS.aload (own_here Y928) hx rfl (hb hby at_326) rfl rfl) ?_
  show own_Ends _ _ _ _ (T927.setTop (mkF m 328 #[.val (.int x0), .val (.int x1), .val (.int x2), .val (.ref b593), .val (.ref b646), .val (.ref b685), .val (.ref b725), .val (.ref b771), .val (.ref b823), .val (.ref b881), .unset, .unset, .unset, .unset, .unset, .unset, .unset, .unset] [(.ref b881)]))
  refine own_st (fun t_ => XS.iconst (own_here Y928) hx rfl (hb hby at_328) ) ?_
  show own_Ends _ _ _ _ (T927.setTop (mkF m 329 #[.val (.int x0), .val (.int x1), .val (.int x2), .val (.ref b593), .val (.ref b646), .val (.ref b685), .val (.ref b725), .val (.ref b771), .val (.ref b823), .val (.ref b881), .unset, .unset, .unset, .unset, .unset, .unset, .unset, .unset] [(.int (3 : Int32)), (.ref b881)]))
  refine own_st (fun t_ => XS.aload (own_here Y928) hx rfl (hb hby at_329) rfl rfl) ?_
  show own_Ends _ _ _ _ (T927.setTop (mkF m 331 #[.val (.int x0), .val (.int x1), .val (.int x2), .val (.ref b593), .val (.ref b646), .val (.ref b685), .val (.ref b725), .val (.ref b771), .val (.ref b823), .val (.ref b881), .unset, .unset, .unset, .unset, .unset, .unset, .unset, .unset] [(.ref b881), (.int (3 : Int32)), (.ref b881)]))
  refine own_st (fun t_ => XS.iconst (own_here Y928) hx rfl (hb hby at_331) ) ?_
  show own_Ends _ _ _ _ (T927.setTop (mkF m 332 #[.val (.int x0), .val (.int x1), .val (.int x2), .val (.ref b593), .val (.ref b646), .val (.ref b685), .val (.ref b725), .val (.ref b771), .val (.ref b823), .val (.ref b881), .unset, .unset, .unset, .unset, .unset, .unset, .unset, .unset] [(.int (2 : Int32)), (.ref b881), (.int (3 : Int32)), (.ref b881)]))
  refine own_ldI Y928 hx hZ A931 (i := 2) (by decide) (by decide) (Nat.le_of_ble_eq_true rfl) (v := (.int m2)) rfl rfl rfl (hb hby at_332) ?_
  show own_Ends _ _ _ _ (T927.setTop (mkF m 333 #[.val (.int x0), .val (.int x1), .val (.int x2), .val (.ref b593), .val (.ref b646), .val (.ref b685), .val (.ref b725), .val (.ref b771), .val (.ref b823), .val (.ref b881), .unset, .unset, .unset, .unset, .unset, .unset, .unset, .unset] [(.int m2), (.int (3 : Int32)), (.ref b881)]))
  refine own_st (fun t_ => XS.aload (own_here Y928) hx rfl (hb hby at_333) rfl rfl) ?_
  show own_Ends _ _ _ _ (T927.setTop (mkF m 335 #[.val (.int x0), .val (.int x1), .val (.int x2), .val (.ref b593), .val (.ref b646), .val (.ref b685), .val (.ref b725), .val (.ref b771), .val (.ref b823), .val (.ref b881), .unset, .unset, .unset, .unset, .unset, .unset, .unset, .unset] [(.ref b771), (.int m2), (.int (3 : Int32)), (.ref b881)]))
  refine own_st (fun t_ => XS.iconst (own_here Y928) hx rfl (hb hby at_335) ) ?_
  show own_Ends _ _ _ _ (T927.setTop (mkF m 336 #[.val (.int x0), .val (.int x1), .val (.int x2), .val (.ref b593), .val (.ref b646), .val (.ref b685), .val (.ref b725), .val (.ref b771), .val (.ref b823), .val (.ref b881), .unset, .unset, .unset, .unset, .unset, .unset, .unset, .unset] [(.int (2 : Int32)), (.ref b771), (.int m2), (.int (3 : Int32)), (.ref b881)]))
  have f932 : own_A Z h929 b771 .int [(.int z0), (.int z1), (.int z2), (.int z3)] := f926.other W930 ne912
  refine own_ldI Y928 hx hZ f932 (i := 2) (by decide) (by decide) (Nat.le_of_ble_eq_true rfl) (v := (.int z2)) rfl rfl rfl (hb hby at_336) ?_
  show own_Ends _ _ _ _ (T927.setTop (mkF m 337 #[.val (.int x0), .val (.int x1), .val (.int x2), .val (.ref b593), .val (.ref b646), .val (.ref b685), .val (.ref b725), .val (.ref b771), .val (.ref b823), .val (.ref b881), .unset, .unset, .unset, .unset, .unset, .unset, .unset, .unset] [(.int z2), (.int m2), (.int (3 : Int32)), (.ref b881)]))
  refine own_st (fun t_ => XS.iadd (own_here Y928) hx rfl (hb hby at_337) rfl) ?_
  show own_Ends _ _ _ _ (T927.setTop (mkF m 338 #[.val (.int x0), .val (.int x1), .val (.int x2), .val (.ref b593), .val (.ref b646), .val (.ref b685), .val (.ref b725), .val (.ref b771), .val (.ref b823), .val (.ref b881), .unset, .unset, .unset, .unset, .unset, .unset, .unset, .unset] [(.int (m2 + z2)), (.int (3 : Int32)), (.ref b881)]))
  generalize hm3 : (m2 + z2) = m3
  have hm3k : m3.toInt = ((k0 + k1 + k2 : Nat) : Int) := by rw [← hm3]; exact own_add hm2k hz2k (by omega)
  refine own_stI Y928 hx hZ A931 g914 (i := 3) (by decide) (by decide) (Nat.le_of_ble_eq_true rfl) rfl rfl (hb hby at_338) (fun T933 h935 Y934 W936 A937 => ?_)
  replace A937 : own_A Z h935 b881 .int [(.int (0 : Int32)), (.int z0), (.int m2), (.int m3), (.int (0 : Int32))] := A937
  show own_Ends _ _ _ _ (T933.setTop (mkF m 339 #[.val (.int x0), .val (.int x1), .val (.int x2), .val (.ref b593), .val (.ref b646), .val (.ref b685), .val (.ref b725), .val (.ref b771), .val (.ref b823), .val (.ref b881), .unset, .unset, .unset, .unset, .unset, .unset, .unset, .unset] []))
  refine own_st (fun t_ => XS.aload (own_here Y934) hx rfl (hb hby at_339) rfl rfl) ?_
  show own_Ends _ _ _ _ (T933.setTop (mkF m 341 #[.val (.int x0), .val (.int x1), .val (.int x2), .val (.ref b593), .val (.ref b646), .val (.ref b685), .val (.ref b725), .val (.ref b771), .val (.ref b823), .val (.ref b881), .unset, .unset, .unset, .unset, .unset, .unset, .unset, .unset] [(.ref b881)]))
  refine own_st (fun t_ => XS.iconst (own_here Y934) hx rfl (hb hby at_341) ) ?_
  show own_Ends _ _ _ _ (T933.setTop (mkF m 342 #[.val (.int x0), .val (.int x1), .val (.int x2), .val (.ref b593), .val (.ref b646), .val (.ref b685), .val (.ref b725), .val (.ref b771), .val (.ref b823), .val (.ref b881), .unset, .unset, .unset, .unset, .unset, .unset, .unset, .unset] [(.int (4 : Int32)), (.ref b881)]))
  refine own_st (fun t_ => XS.aload (own_here Y934) hx rfl (hb hby at_342) rfl rfl) ?_
  show own_Ends _ _ _ _ (T933.setTop (mkF m 344 #[.val (.int x0), .val (.int x1), .val (.int x2), .val (.ref b593), .val (.ref b646), .val (.ref b685), .val (.ref b725), .val (.ref b771), .val (.ref b823), .val (.ref b881), .unset, .unset, .unset, .unset, .unset, .unset, .unset, .unset] [(.ref b881), (.int (4 : Int32)), (.ref b881)]))
  refine own_st (fun t_ => XS.iconst (own_here Y934) hx rfl (hb hby at_344) ) ?_
  show own_Ends _ _ _ _ (T933.setTop (mkF m 345 #[.val (.int x0), .val (.int x1), .val (.int x2), .val (.ref b593), .val (.ref b646), .val (.ref b685), .val (.ref b725), .val (.ref b771), .val (.ref b823), .val (.ref b881), .unset, .unset, .unset, .unset, .unset, .unset, .unset, .unset] [(.int (3 : Int32)), (.ref b881), (.int (4 : Int32)), (.ref b881)]))
  refine own_ldI Y934 hx hZ A937 (i := 3) (by decide) (by decide) (Nat.le_of_ble_eq_true rfl) (v := (.int m3)) rfl rfl rfl (hb hby at_345) ?_
  show own_Ends _ _ _ _ (T933.setTop (mkF m 346 #[.val (.int x0), .val (.int x1), .val (.int x2), .val (.ref b593), .val (.ref b646), .val (.ref b685), .val (.ref b725), .val (.ref b771), .val (.ref b823), .val (.ref b881), .unset, .unset, .unset, .unset, .unset, .unset, .unset, .unset] [(.int m3), (.int (4 : Int32)), (.ref b881)]))
  refine own_st (fun t_ => XS.aload (own_here Y934) hx rfl (hb hby at_346) rfl rfl) ?_
  show own_Ends _ _ _ _ (T933.setTop (mkF m 348 #[.val (.int x0), .val (.int x1), .val (.int x2), .val (.ref b593), .val (.ref b646), .val (.ref b685), .val (.ref b725), .val (.ref b771), .val (.ref b823), .val (.ref b881), .unset, .unset, .unset, .unset, .unset, .unset, .unset, .unset] [(.ref b771), (.int m3), (.int (4 : Int32)), (.ref b881)]))
  refine own_st (fun t_ => XS.iconst (own_here Y934) hx rfl (hb hby at_348) ) ?_
  show own_Ends _ _ _ _ (T933.setTop (mkF m 349 #[.val (.int x0), .val (.int x1), .val (.int x2), .val (.ref b593), .val (.ref b646), .val (.ref b685), .val (.ref b725), .val (.ref b771), .val (.ref b823), .val (.ref b881), .unset, .unset, .unset, .unset, .unset, .unset, .unset, .unset] [(.int (3 : Int32)), (.ref b771), (.int m3), (.int (4 : Int32)), (.ref b881)]))
  have f938 : own_A Z h935 b771 .int [(.int z0), (.int z1), (.int z2), (.int z3)] := f932.other W936 ne912
  refine own_ldI Y934 hx hZ f938 (i := 3) (by decide) (by decide) (Nat.le_of_ble_eq_true rfl) (v := (.int z3)) rfl rfl rfl (hb hby at_349) ?_
  show own_Ends _ _ _ _ (T933.setTop (mkF m 350 #[.val (.int x0), .val (.int x1), .val (.int x2), .val (.ref b593), .val (.ref b646), .val (.ref b685), .val (.ref b725), .val (.ref b771), .val (.ref b823), .val (.ref b881), .unset, .unset, .unset, .unset, .unset, .unset, .unset, .unset] [(.int z3), (.int m3), (.int (4 : Int32)), (.ref b881)]))
  refine own_st (fun t_ => XS.iadd (own_here Y934) hx rfl (hb hby at_350) rfl) ?_
  show own_Ends _ _ _ _ (T933.setTop (mkF m 351 #[.val (.int x0), .val (.int x1), .val (.int x2), .val (.ref b593), .val (.ref b646), .val (.ref b685), .val (.ref b725), .val (.ref b771), .val (.ref b823), .val (.ref b881), .unset, .unset, .unset, .unset, .unset, .unset, .unset, .unset] [(.int (m3 + z3)), (.int (4 : Int32)), (.ref b881)]))
  generalize hm4 : (m3 + z3) = m4
  have hm4k : m4.toInt = ((k0 + k1 + k2 + k3 : Nat) : Int) := by rw [← hm4]; exact own_add hm3k hz3k (by omega)
  refine own_stI Y934 hx hZ A937 g914 (i := 4) (by decide) (by decide) (Nat.le_of_ble_eq_true rfl) rfl rfl (hb hby at_351) (fun T939 h941 Y940 W942 A943 => ?_)
  replace A943 : own_A Z h941 b881 .int [(.int (0 : Int32)), (.int z0), (.int m2), (.int m3), (.int m4)] := A943
  show own_Ends _ _ _ _ (T939.setTop (mkF m 352 #[.val (.int x0), .val (.int x1), .val (.int x2), .val (.ref b593), .val (.ref b646), .val (.ref b685), .val (.ref b725), .val (.ref b771), .val (.ref b823), .val (.ref b881), .unset, .unset, .unset, .unset, .unset, .unset, .unset, .unset] []))
  refine own_st (fun t_ => XS.bipush (own_here Y940) hx rfl (hb hby at_352) ) ?_
  show own_Ends _ _ _ _ (T939.setTop (mkF m 354 #[.val (.int x0), .val (.int x1), .val (.int x2), .val (.ref b593), .val (.ref b646), .val (.ref b685), .val (.ref b725), .val (.ref b771), .val (.ref b823), .val (.ref b881), .unset, .unset, .unset, .unset, .unset, .unset, .unset, .unset] [(.int (8 : Int32))]))
  refine own_newP Y940 hx hZ (hw _ (List.mem_of_getElem? (i := 0) rfl)) rfl (hb hby at_354) rfl (by decide) (nz := 8) (cap := 8) (by decide) (by decide) (by decide) (by decide) (by decide) (ty := .int) rfl (fun T944 h946 b949 eb950 Y945 E947 A948 => ?_)
  have f951 : own_A Z h878 b593 .int [(.int y0), (.int y1), (.int y2), (.int y3), (.int y4), (.int y5), (.int y6), (.int y7), (.int y8)] := f887.ext E879
  have f952 : own_A Z h923 b593 .int [(.int y0), (.int y1), (.int y2), (.int y3), (.int y4), (.int y5), (.int y6), (.int y7), (.int y8)] := f951.other W924 ne888
  have f953 : own_A Z h929 b593 .int [(.int y0), (.int y1), (.int y2), (.int y3), (.int y4), (.int y5), (.int y6), (.int y7), (.int y8)] := f952.other W930 ne888
  have f954 : own_A Z h935 b593 .int [(.int y0), (.int y1), (.int y2), (.int y3), (.int y4), (.int y5), (.int y6), (.int y7), (.int y8)] := f953.other W936 ne888
  have f955 : own_A Z h941 b593 .int [(.int y0), (.int y1), (.int y2), (.int y3), (.int y4), (.int y5), (.int y6), (.int y7), (.int y8)] := f954.other W942 ne888
  have ne956 : b593 ≠ b949 := Nat.ne_of_lt (by rw [eb950]; exact f955.lt)
  have f957 : own_A Z h878 b646 .int [(.int (0 : Int32)), (.int (3 : Int32)), (.int (6 : Int32)), (.int (9 : Int32))] := f893.ext E879
  have f958 : own_A Z h923 b646 .int [(.int (0 : Int32)), (.int (3 : Int32)), (.int (6 : Int32)), (.int (9 : Int32))] := f957.other W924 ne894
  have f959 : own_A Z h929 b646 .int [(.int (0 : Int32)), (.int (3 : Int32)), (.int (6 : Int32)), (.int (9 : Int32))] := f958.other W930 ne894
  have f960 : own_A Z h935 b646 .int [(.int (0 : Int32)), (.int (3 : Int32)), (.int (6 : Int32)), (.int (9 : Int32))] := f959.other W936 ne894
  have f961 : own_A Z h941 b646 .int [(.int (0 : Int32)), (.int (3 : Int32)), (.int (6 : Int32)), (.int (9 : Int32))] := f960.other W942 ne894
  have ne962 : b646 ≠ b949 := Nat.ne_of_lt (by rw [eb950]; exact f961.lt)
  have f963 : own_A Z h878 b685 .int [(.int (0 : Int32)), (.int (1 : Int32)), (.int (3 : Int32)), (.int (4 : Int32))] := f899.ext E879
  have f964 : own_A Z h923 b685 .int [(.int (0 : Int32)), (.int (1 : Int32)), (.int (3 : Int32)), (.int (4 : Int32))] := f963.other W924 ne900
  have f965 : own_A Z h929 b685 .int [(.int (0 : Int32)), (.int (1 : Int32)), (.int (3 : Int32)), (.int (4 : Int32))] := f964.other W930 ne900
  have f966 : own_A Z h935 b685 .int [(.int (0 : Int32)), (.int (1 : Int32)), (.int (3 : Int32)), (.int (4 : Int32))] := f965.other W936 ne900
  have f967 : own_A Z h941 b685 .int [(.int (0 : Int32)), (.int (1 : Int32)), (.int (3 : Int32)), (.int (4 : Int32))] := f966.other W942 ne900
  have ne968 : b685 ≠ b949 := Nat.ne_of_lt (by rw [eb950]; exact f967.lt)
  have f969 : own_A Z h878 b725 .int [(.int (1 : Int32)), (.int (0 : Int32)), (.int (2 : Int32)), (.int (1 : Int32))] := f905.ext E879
  have f970 : own_A Z h923 b725 .int [(.int (1 : Int32)), (.int (0 : Int32)), (.int (2 : Int32)), (.int (1 : Int32))] := f969.other W924 ne906
  have f971 : own_A Z h929 b725 .int [(.int (1 : Int32)), (.int (0 : Int32)), (.int (2 : Int32)), (.int (1 : Int32))] := f970.other W930 ne906
  have f972 : own_A Z h935 b725 .int [(.int (1 : Int32)), (.int (0 : Int32)), (.int (2 : Int32)), (.int (1 : Int32))] := f971.other W936 ne906
  have f973 : own_A Z h941 b725 .int [(.int (1 : Int32)), (.int (0 : Int32)), (.int (2 : Int32)), (.int (1 : Int32))] := f972.other W942 ne906
  have ne974 : b725 ≠ b949 := Nat.ne_of_lt (by rw [eb950]; exact f973.lt)
  have f975 : own_A Z h941 b771 .int [(.int z0), (.int z1), (.int z2), (.int z3)] := f938.other W942 ne912
  have ne976 : b771 ≠ b949 := Nat.ne_of_lt (by rw [eb950]; exact f975.lt)
  have f977 : own_A Z h878 b823 .int [(.int o0), (.int o1), (.int o2), (.int o3)] := A875.ext E879
  have f978 : own_A Z h923 b823 .int [(.int o0), (.int o1), (.int o2), (.int o3)] := f977.other W924 ne913
  have f979 : own_A Z h929 b823 .int [(.int o0), (.int o1), (.int o2), (.int o3)] := f978.other W930 ne913
  have f980 : own_A Z h935 b823 .int [(.int o0), (.int o1), (.int o2), (.int o3)] := f979.other W936 ne913
  have f981 : own_A Z h941 b823 .int [(.int o0), (.int o1), (.int o2), (.int o3)] := f980.other W942 ne913
  have ne982 : b823 ≠ b949 := Nat.ne_of_lt (by rw [eb950]; exact f981.lt)
  have ne983 : b881 ≠ b949 := Nat.ne_of_lt (by rw [eb950]; exact A943.lt)
  have z985 : n0 ≤ h878.size := Nat.le_trans z919 E879.1
  have z986 : n0 ≤ h923.size := Nat.le_trans z985 (Nat.le_of_eq W924.size.symm)
  have z987 : n0 ≤ h929.size := Nat.le_trans z986 (Nat.le_of_eq W930.size.symm)
  have z988 : n0 ≤ h935.size := Nat.le_trans z987 (Nat.le_of_eq W936.size.symm)
  have z989 : n0 ≤ h941.size := Nat.le_trans z988 (Nat.le_of_eq W942.size.symm)
  have g984 : n0 ≤ b949 := by rw [eb950]; exact z989
  replace A948 : own_A Z h946 b949 .int [(.int (0 : Int32)), (.int (0 : Int32)), (.int (0 : Int32)), (.int (0 : Int32)), (.int (0 : Int32)), (.int (0 : Int32)), (.int (0 : Int32)), (.int (0 : Int32))] := A948
  show own_Ends _ _ _ _ (T944.setTop (mkF m 356 #[.val (.int x0), .val (.int x1), .val (.int x2), .val (.ref b593), .val (.ref b646), .val (.ref b685), .val (.ref b725), .val (.ref b771), .val (.ref b823), .val (.ref b881), .unset, .unset, .unset, .unset, .unset, .unset, .unset, .unset] [(.ref b949)]))
  refine own_st (fun t_ => XS.astore (own_here Y945) hx rfl (hb hby at_356) rfl rfl (l' := #[.val (.int x0), .val (.int x1), .val (.int x2), .val (.ref b593), .val (.ref b646), .val (.ref b685), .val (.ref b725), .val (.ref b771), .val (.ref b823), .val (.ref b881), .val (.ref b949), .unset, .unset, .unset, .unset, .unset, .unset, .unset]) rfl) ?_
  show own_Ends _ _ _ _ (T944.setTop (mkF m 358 #[.val (.int x0), .val (.int x1), .val (.int x2), .val (.ref b593), .val (.ref b646), .val (.ref b685), .val (.ref b725), .val (.ref b771), .val (.ref b823), .val (.ref b881), .val (.ref b949), .unset, .unset, .unset, .unset, .unset, .unset, .unset] []))
  refine own_st (fun t_ => XS.aload (own_here Y945) hx rfl (hb hby at_358) rfl rfl) ?_
  show own_Ends _ _ _ _ (T944.setTop (mkF m 360 #[.val (.int x0), .val (.int x1), .val (.int x2), .val (.ref b593), .val (.ref b646), .val (.ref b685), .val (.ref b725), .val (.ref b771), .val (.ref b823), .val (.ref b881), .val (.ref b949), .unset, .unset, .unset, .unset, .unset, .unset, .unset] [(.ref b949)]))
  refine own_st (fun t_ => XS.aload (own_here Y945) hx rfl (hb hby at_360) rfl rfl) ?_
  show own_Ends _ _ _ _ (T944.setTop (mkF m 362 #[.val (.int x0), .val (.int x1), .val (.int x2), .val (.ref b593), .val (.ref b646), .val (.ref b685), .val (.ref b725), .val (.ref b771), .val (.ref b823), .val (.ref b881), .val (.ref b949), .unset, .unset, .unset, .unset, .unset, .unset, .unset] [(.ref b881), (.ref b949)]))
  refine own_st (fun t_ => XS.iconst (own_here Y945) hx rfl (hb hby at_362) ) ?_
  show own_Ends _ _ _ _ (T944.setTop (mkF m 363 #[.val (.int x0), .val (.int x1), .val (.int x2), .val (.ref b593), .val (.ref b646), .val (.ref b685), .val (.ref b725), .val (.ref b771), .val (.ref b823), .val (.ref b881), .val (.ref b949), .unset, .unset, .unset, .unset, .unset, .unset, .unset] [(.int (0 : Int32)), (.ref b881), (.ref b949)]))
  have f990 : own_A Z h946 b881 .int [(.int (0 : Int32)), (.int z0), (.int m2), (.int m3), (.int m4)] := A943.ext E947
  refine own_ldI Y945 hx hZ f990 (i := 0) (by decide) (by decide) (Nat.le_of_ble_eq_true rfl) (v := (.int (0 : Int32))) rfl rfl rfl (hb hby at_363) ?_
  show own_Ends _ _ _ _ (T944.setTop (mkF m 364 #[.val (.int x0), .val (.int x1), .val (.int x2), .val (.ref b593), .val (.ref b646), .val (.ref b685), .val (.ref b725), .val (.ref b771), .val (.ref b823), .val (.ref b881), .val (.ref b949), .unset, .unset, .unset, .unset, .unset, .unset, .unset] [(.int (0 : Int32)), (.ref b949)]))
  refine own_st (fun t_ => XS.aload (own_here Y945) hx rfl (hb hby at_364) rfl rfl) ?_
  show own_Ends _ _ _ _ (T944.setTop (mkF m 366 #[.val (.int x0), .val (.int x1), .val (.int x2), .val (.ref b593), .val (.ref b646), .val (.ref b685), .val (.ref b725), .val (.ref b771), .val (.ref b823), .val (.ref b881), .val (.ref b949), .unset, .unset, .unset, .unset, .unset, .unset, .unset] [(.ref b771), (.int (0 : Int32)), (.ref b949)]))
  refine own_st (fun t_ => XS.iconst (own_here Y945) hx rfl (hb hby at_366) ) ?_
  show own_Ends _ _ _ _ (T944.setTop (mkF m 367 #[.val (.int x0), .val (.int x1), .val (.int x2), .val (.ref b593), .val (.ref b646), .val (.ref b685), .val (.ref b725), .val (.ref b771), .val (.ref b823), .val (.ref b881), .val (.ref b949), .unset, .unset, .unset, .unset, .unset, .unset, .unset] [(.int (0 : Int32)), (.ref b771), (.int (0 : Int32)), (.ref b949)]))
  have f991 : own_A Z h946 b771 .int [(.int z0), (.int z1), (.int z2), (.int z3)] := f975.ext E947
  refine own_ldI Y945 hx hZ f991 (i := 0) (by decide) (by decide) (Nat.le_of_ble_eq_true rfl) (v := (.int z0)) rfl rfl rfl (hb hby at_367) ?_
  show own_Ends _ _ _ _ (T944.setTop (mkF m 368 #[.val (.int x0), .val (.int x1), .val (.int x2), .val (.ref b593), .val (.ref b646), .val (.ref b685), .val (.ref b725), .val (.ref b771), .val (.ref b823), .val (.ref b881), .val (.ref b949), .unset, .unset, .unset, .unset, .unset, .unset, .unset] [(.int z0), (.int (0 : Int32)), (.ref b949)]))
  refine own_st (fun t_ => XS.aload (own_here Y945) hx rfl (hb hby at_368) rfl rfl) ?_
  show own_Ends _ _ _ _ (T944.setTop (mkF m 370 #[.val (.int x0), .val (.int x1), .val (.int x2), .val (.ref b593), .val (.ref b646), .val (.ref b685), .val (.ref b725), .val (.ref b771), .val (.ref b823), .val (.ref b881), .val (.ref b949), .unset, .unset, .unset, .unset, .unset, .unset, .unset] [(.ref b823), (.int z0), (.int (0 : Int32)), (.ref b949)]))
  refine own_st (fun t_ => XS.iconst (own_here Y945) hx rfl (hb hby at_370) ) ?_
  show own_Ends _ _ _ _ (T944.setTop (mkF m 371 #[.val (.int x0), .val (.int x1), .val (.int x2), .val (.ref b593), .val (.ref b646), .val (.ref b685), .val (.ref b725), .val (.ref b771), .val (.ref b823), .val (.ref b881), .val (.ref b949), .unset, .unset, .unset, .unset, .unset, .unset, .unset] [(.int (0 : Int32)), (.ref b823), (.int z0), (.int (0 : Int32)), (.ref b949)]))
  have f992 : own_A Z h946 b823 .int [(.int o0), (.int o1), (.int o2), (.int o3)] := f981.ext E947
  refine own_ldI Y945 hx hZ f992 (i := 0) (by decide) (by decide) (Nat.le_of_ble_eq_true rfl) (v := (.int o0)) rfl rfl rfl (hb hby at_371) ?_
  show own_Ends _ _ _ _ (T944.setTop (mkF m 372 #[.val (.int x0), .val (.int x1), .val (.int x2), .val (.ref b593), .val (.ref b646), .val (.ref b685), .val (.ref b725), .val (.ref b771), .val (.ref b823), .val (.ref b881), .val (.ref b949), .unset, .unset, .unset, .unset, .unset, .unset, .unset] [(.int o0), (.int z0), (.int (0 : Int32)), (.ref b949)]))
  refine own_callS Y945 hx hZ (y := (⟨"com/example/tierpath/tierpath/BoundsMemberPinLaw", "fill", "([IIII)V"⟩ : MethodName)) hown (hw _ (List.mem_of_getElem? (i := 1) rfl)) (hw _ (List.mem_of_getElem? (i := 2) rfl)) (hw _ (List.mem_of_getElem? (i := 3) rfl)) (hw _ (List.mem_of_getElem? (i := 4) rfl)) (by decide) (argsL := [(.ref b949), (.int (0 : Int32)), (.int z0), (.int o0)]) (rest := []) (own_rm1 l Z a0 hw [] b949 (0 : Int32) z0 o0 (List.replicate 8 (0 : Int32)) 0 h946 n0  A948 g984 rfl (by decide) (by omega)) (W := 0) (by decide) (by decide) (by decide) (by decide) rfl (by rw [hml]; rfl) (lenOf own_pd1 rfl) rfl (by show 2 * 0 + _ ≤ _; exact Nat.le_of_eq rfl) (hb hby at_372) (fun T993 h995 v996 Y994 q997 => ?_)
  obtain ⟨rfl, K998, A999⟩ := q997
  have hwl1 := own_fill_len (List.replicate 8 (0 : Int32)) 0 z0 o0
  generalize hw1 : own_fill (List.replicate 8 (0 : Int32)) 0 z0 o0 = w1 at A999 hwl1
  replace hwl1 : w1.length = 8 := hwl1.trans rfl
  show own_Ends _ _ _ _ (T993.setTop (mkF m 375 #[.val (.int x0), .val (.int x1), .val (.int x2), .val (.ref b593), .val (.ref b646), .val (.ref b685), .val (.ref b725), .val (.ref b771), .val (.ref b823), .val (.ref b881), .val (.ref b949), .unset, .unset, .unset, .unset, .unset, .unset, .unset] []))
  refine own_st (fun t_ => XS.aload (own_here Y994) hx rfl (hb hby at_375) rfl rfl) ?_
  show own_Ends _ _ _ _ (T993.setTop (mkF m 377 #[.val (.int x0), .val (.int x1), .val (.int x2), .val (.ref b593), .val (.ref b646), .val (.ref b685), .val (.ref b725), .val (.ref b771), .val (.ref b823), .val (.ref b881), .val (.ref b949), .unset, .unset, .unset, .unset, .unset, .unset, .unset] [(.ref b949)]))
  refine own_st (fun t_ => XS.aload (own_here Y994) hx rfl (hb hby at_377) rfl rfl) ?_
  show own_Ends _ _ _ _ (T993.setTop (mkF m 379 #[.val (.int x0), .val (.int x1), .val (.int x2), .val (.ref b593), .val (.ref b646), .val (.ref b685), .val (.ref b725), .val (.ref b771), .val (.ref b823), .val (.ref b881), .val (.ref b949), .unset, .unset, .unset, .unset, .unset, .unset, .unset] [(.ref b881), (.ref b949)]))
  refine own_st (fun t_ => XS.iconst (own_here Y994) hx rfl (hb hby at_379) ) ?_
  show own_Ends _ _ _ _ (T993.setTop (mkF m 380 #[.val (.int x0), .val (.int x1), .val (.int x2), .val (.ref b593), .val (.ref b646), .val (.ref b685), .val (.ref b725), .val (.ref b771), .val (.ref b823), .val (.ref b881), .val (.ref b949), .unset, .unset, .unset, .unset, .unset, .unset, .unset] [(.int (1 : Int32)), (.ref b881), (.ref b949)]))
  have f1000 : own_A Z h995 b881 .int [(.int (0 : Int32)), (.int z0), (.int m2), (.int m3), (.int m4)] := f990.keep K998 (ninS ne983 nin0)
  refine own_ldI Y994 hx hZ f1000 (i := 1) (by decide) (by decide) (Nat.le_of_ble_eq_true rfl) (v := (.int z0)) rfl rfl rfl (hb hby at_380) ?_
  show own_Ends _ _ _ _ (T993.setTop (mkF m 381 #[.val (.int x0), .val (.int x1), .val (.int x2), .val (.ref b593), .val (.ref b646), .val (.ref b685), .val (.ref b725), .val (.ref b771), .val (.ref b823), .val (.ref b881), .val (.ref b949), .unset, .unset, .unset, .unset, .unset, .unset, .unset] [(.int z0), (.ref b949)]))
  refine own_st (fun t_ => XS.aload (own_here Y994) hx rfl (hb hby at_381) rfl rfl) ?_
  show own_Ends _ _ _ _ (T993.setTop (mkF m 383 #[.val (.int x0), .val (.int x1), .val (.int x2), .val (.ref b593), .val (.ref b646), .val (.ref b685), .val (.ref b725), .val (.ref b771), .val (.ref b823), .val (.ref b881), .val (.ref b949), .unset, .unset, .unset, .unset, .unset, .unset, .unset] [(.ref b771), (.int z0), (.ref b949)]))
  refine own_st (fun t_ => XS.iconst (own_here Y994) hx rfl (hb hby at_383) ) ?_
  show own_Ends _ _ _ _ (T993.setTop (mkF m 384 #[.val (.int x0), .val (.int x1), .val (.int x2), .val (.ref b593), .val (.ref b646), .val (.ref b685), .val (.ref b725), .val (.ref b771), .val (.ref b823), .val (.ref b881), .val (.ref b949), .unset, .unset, .unset, .unset, .unset, .unset, .unset] [(.int (1 : Int32)), (.ref b771), (.int z0), (.ref b949)]))
  have f1001 : own_A Z h995 b771 .int [(.int z0), (.int z1), (.int z2), (.int z3)] := f991.keep K998 (ninS ne976 nin0)
  refine own_ldI Y994 hx hZ f1001 (i := 1) (by decide) (by decide) (Nat.le_of_ble_eq_true rfl) (v := (.int z1)) rfl rfl rfl (hb hby at_384) ?_
  show own_Ends _ _ _ _ (T993.setTop (mkF m 385 #[.val (.int x0), .val (.int x1), .val (.int x2), .val (.ref b593), .val (.ref b646), .val (.ref b685), .val (.ref b725), .val (.ref b771), .val (.ref b823), .val (.ref b881), .val (.ref b949), .unset, .unset, .unset, .unset, .unset, .unset, .unset] [(.int z1), (.int z0), (.ref b949)]))
  refine own_st (fun t_ => XS.aload (own_here Y994) hx rfl (hb hby at_385) rfl rfl) ?_
  show own_Ends _ _ _ _ (T993.setTop (mkF m 387 #[.val (.int x0), .val (.int x1), .val (.int x2), .val (.ref b593), .val (.ref b646), .val (.ref b685), .val (.ref b725), .val (.ref b771), .val (.ref b823), .val (.ref b881), .val (.ref b949), .unset, .unset, .unset, .unset, .unset, .unset, .unset] [(.ref b823), (.int z1), (.int z0), (.ref b949)]))
  refine own_st (fun t_ => XS.iconst (own_here Y994) hx rfl (hb hby at_387) ) ?_
  show own_Ends _ _ _ _ (T993.setTop (mkF m 388 #[.val (.int x0), .val (.int x1), .val (.int x2), .val (.ref b593), .val (.ref b646), .val (.ref b685), .val (.ref b725), .val (.ref b771), .val (.ref b823), .val (.ref b881), .val (.ref b949), .unset, .unset, .unset, .unset, .unset, .unset, .unset] [(.int (1 : Int32)), (.ref b823), (.int z1), (.int z0), (.ref b949)]))
  have f1002 : own_A Z h995 b823 .int [(.int o0), (.int o1), (.int o2), (.int o3)] := f992.keep K998 (ninS ne982 nin0)
  refine own_ldI Y994 hx hZ f1002 (i := 1) (by decide) (by decide) (Nat.le_of_ble_eq_true rfl) (v := (.int o1)) rfl rfl rfl (hb hby at_388) ?_
  show own_Ends _ _ _ _ (T993.setTop (mkF m 389 #[.val (.int x0), .val (.int x1), .val (.int x2), .val (.ref b593), .val (.ref b646), .val (.ref b685), .val (.ref b725), .val (.ref b771), .val (.ref b823), .val (.ref b881), .val (.ref b949), .unset, .unset, .unset, .unset, .unset, .unset, .unset] [(.int o1), (.int z1), (.int z0), (.ref b949)]))
  refine own_callS Y994 hx hZ (y := (⟨"com/example/tierpath/tierpath/BoundsMemberPinLaw", "fill", "([IIII)V"⟩ : MethodName)) hown (hw _ (List.mem_of_getElem? (i := 1) rfl)) (hw _ (List.mem_of_getElem? (i := 2) rfl)) (hw _ (List.mem_of_getElem? (i := 3) rfl)) (hw _ (List.mem_of_getElem? (i := 4) rfl)) (by decide) (argsL := [(.ref b949), (.int z0), (.int z1), (.int o1)]) (rest := []) (own_rm1 l Z a0 hw [] b949 z0 z1 o1 w1 k0 h995 n0  A999 g984 hz0k (by rw [hwl1]; omega) (by omega)) (W := 0) (by decide) (by decide) (by decide) (by decide) rfl (by rw [hml]; rfl) (lenOf own_pd1 rfl) rfl (by show 2 * 0 + _ ≤ _; exact Nat.le_of_eq rfl) (hb hby at_389) (fun T1003 h1005 v1006 Y1004 q1007 => ?_)
  obtain ⟨rfl, K1008, A1009⟩ := q1007
  have hwl2 := own_fill_len w1 k0 z1 o1
  generalize hw2 : own_fill w1 k0 z1 o1 = w2 at A1009 hwl2
  replace hwl2 : w2.length = 8 := hwl2.trans hwl1
  show own_Ends _ _ _ _ (T1003.setTop (mkF m 392 #[.val (.int x0), .val (.int x1), .val (.int x2), .val (.ref b593), .val (.ref b646), .val (.ref b685), .val (.ref b725), .val (.ref b771), .val (.ref b823), .val (.ref b881), .val (.ref b949), .unset, .unset, .unset, .unset, .unset, .unset, .unset] []))
  refine own_st (fun t_ => XS.aload (own_here Y1004) hx rfl (hb hby at_392) rfl rfl) ?_
  show own_Ends _ _ _ _ (T1003.setTop (mkF m 394 #[.val (.int x0), .val (.int x1), .val (.int x2), .val (.ref b593), .val (.ref b646), .val (.ref b685), .val (.ref b725), .val (.ref b771), .val (.ref b823), .val (.ref b881), .val (.ref b949), .unset, .unset, .unset, .unset, .unset, .unset, .unset] [(.ref b949)]))
  refine own_st (fun t_ => XS.aload (own_here Y1004) hx rfl (hb hby at_394) rfl rfl) ?_
  show own_Ends _ _ _ _ (T1003.setTop (mkF m 396 #[.val (.int x0), .val (.int x1), .val (.int x2), .val (.ref b593), .val (.ref b646), .val (.ref b685), .val (.ref b725), .val (.ref b771), .val (.ref b823), .val (.ref b881), .val (.ref b949), .unset, .unset, .unset, .unset, .unset, .unset, .unset] [(.ref b881), (.ref b949)]))
  refine own_st (fun t_ => XS.iconst (own_here Y1004) hx rfl (hb hby at_396) ) ?_
  show own_Ends _ _ _ _ (T1003.setTop (mkF m 397 #[.val (.int x0), .val (.int x1), .val (.int x2), .val (.ref b593), .val (.ref b646), .val (.ref b685), .val (.ref b725), .val (.ref b771), .val (.ref b823), .val (.ref b881), .val (.ref b949), .unset, .unset, .unset, .unset, .unset, .unset, .unset] [(.int (2 : Int32)), (.ref b881), (.ref b949)]))
  have f1010 : own_A Z h1005 b881 .int [(.int (0 : Int32)), (.int z0), (.int m2), (.int m3), (.int m4)] := f1000.keep K1008 (ninS ne983 nin0)
  refine own_ldI Y1004 hx hZ f1010 (i := 2) (by decide) (by decide) (Nat.le_of_ble_eq_true rfl) (v := (.int m2)) rfl rfl rfl (hb hby at_397) ?_
  show own_Ends _ _ _ _ (T1003.setTop (mkF m 398 #[.val (.int x0), .val (.int x1), .val (.int x2), .val (.ref b593), .val (.ref b646), .val (.ref b685), .val (.ref b725), .val (.ref b771), .val (.ref b823), .val (.ref b881), .val (.ref b949), .unset, .unset, .unset, .unset, .unset, .unset, .unset] [(.int m2), (.ref b949)]))
  refine own_st (fun t_ => XS.aload (own_here Y1004) hx rfl (hb hby at_398) rfl rfl) ?_
  show own_Ends _ _ _ _ (T1003.setTop (mkF m 400 #[.val (.int x0), .val (.int x1), .val (.int x2), .val (.ref b593), .val (.ref b646), .val (.ref b685), .val (.ref b725), .val (.ref b771), .val (.ref b823), .val (.ref b881), .val (.ref b949), .unset, .unset, .unset, .unset, .unset, .unset, .unset] [(.ref b771), (.int m2), (.ref b949)]))
  refine own_st (fun t_ => XS.iconst (own_here Y1004) hx rfl (hb hby at_400) ) ?_
  show own_Ends _ _ _ _ (T1003.setTop (mkF m 401 #[.val (.int x0), .val (.int x1), .val (.int x2), .val (.ref b593), .val (.ref b646), .val (.ref b685), .val (.ref b725), .val (.ref b771), .val (.ref b823), .val (.ref b881), .val (.ref b949), .unset, .unset, .unset, .unset, .unset, .unset, .unset] [(.int (2 : Int32)), (.ref b771), (.int m2), (.ref b949)]))
  have f1011 : own_A Z h1005 b771 .int [(.int z0), (.int z1), (.int z2), (.int z3)] := f1001.keep K1008 (ninS ne976 nin0)
  refine own_ldI Y1004 hx hZ f1011 (i := 2) (by decide) (by decide) (Nat.le_of_ble_eq_true rfl) (v := (.int z2)) rfl rfl rfl (hb hby at_401) ?_
  show own_Ends _ _ _ _ (T1003.setTop (mkF m 402 #[.val (.int x0), .val (.int x1), .val (.int x2), .val (.ref b593), .val (.ref b646), .val (.ref b685), .val (.ref b725), .val (.ref b771), .val (.ref b823), .val (.ref b881), .val (.ref b949), .unset, .unset, .unset, .unset, .unset, .unset, .unset] [(.int z2), (.int m2), (.ref b949)]))
  refine own_st (fun t_ => XS.aload (own_here Y1004) hx rfl (hb hby at_402) rfl rfl) ?_
  show own_Ends _ _ _ _ (T1003.setTop (mkF m 404 #[.val (.int x0), .val (.int x1), .val (.int x2), .val (.ref b593), .val (.ref b646), .val (.ref b685), .val (.ref b725), .val (.ref b771), .val (.ref b823), .val (.ref b881), .val (.ref b949), .unset, .unset, .unset, .unset, .unset, .unset, .unset] [(.ref b823), (.int z2), (.int m2), (.ref b949)]))
  refine own_st (fun t_ => XS.iconst (own_here Y1004) hx rfl (hb hby at_404) ) ?_
  show own_Ends _ _ _ _ (T1003.setTop (mkF m 405 #[.val (.int x0), .val (.int x1), .val (.int x2), .val (.ref b593), .val (.ref b646), .val (.ref b685), .val (.ref b725), .val (.ref b771), .val (.ref b823), .val (.ref b881), .val (.ref b949), .unset, .unset, .unset, .unset, .unset, .unset, .unset] [(.int (2 : Int32)), (.ref b823), (.int z2), (.int m2), (.ref b949)]))
  have f1012 : own_A Z h1005 b823 .int [(.int o0), (.int o1), (.int o2), (.int o3)] := f1002.keep K1008 (ninS ne982 nin0)
  refine own_ldI Y1004 hx hZ f1012 (i := 2) (by decide) (by decide) (Nat.le_of_ble_eq_true rfl) (v := (.int o2)) rfl rfl rfl (hb hby at_405) ?_
  show own_Ends _ _ _ _ (T1003.setTop (mkF m 406 #[.val (.int x0), .val (.int x1), .val (.int x2), .val (.ref b593), .val (.ref b646), .val (.ref b685), .val (.ref b725), .val (.ref b771), .val (.ref b823), .val (.ref b881), .val (.ref b949), .unset, .unset, .unset, .unset, .unset, .unset, .unset] [(.int o2), (.int z2), (.int m2), (.ref b949)]))
  refine own_callS Y1004 hx hZ (y := (⟨"com/example/tierpath/tierpath/BoundsMemberPinLaw", "fill", "([IIII)V"⟩ : MethodName)) hown (hw _ (List.mem_of_getElem? (i := 1) rfl)) (hw _ (List.mem_of_getElem? (i := 2) rfl)) (hw _ (List.mem_of_getElem? (i := 3) rfl)) (hw _ (List.mem_of_getElem? (i := 4) rfl)) (by decide) (argsL := [(.ref b949), (.int m2), (.int z2), (.int o2)]) (rest := []) (own_rm1 l Z a0 hw [] b949 m2 z2 o2 w2 (k0 + k1) h1005 n0  A1009 g984 hm2k (by rw [hwl2]; omega) (by omega)) (W := 0) (by decide) (by decide) (by decide) (by decide) rfl (by rw [hml]; rfl) (lenOf own_pd1 rfl) rfl (by show 2 * 0 + _ ≤ _; exact Nat.le_of_eq rfl) (hb hby at_406) (fun T1013 h1015 v1016 Y1014 q1017 => ?_)
  obtain ⟨rfl, K1018, A1019⟩ := q1017
  have hwl3 := own_fill_len w2 (k0 + k1) z2 o2
  generalize hw3 : own_fill w2 (k0 + k1) z2 o2 = w3 at A1019 hwl3
  replace hwl3 : w3.length = 8 := hwl3.trans hwl2
  show own_Ends _ _ _ _ (T1013.setTop (mkF m 409 #[.val (.int x0), .val (.int x1), .val (.int x2), .val (.ref b593), .val (.ref b646), .val (.ref b685), .val (.ref b725), .val (.ref b771), .val (.ref b823), .val (.ref b881), .val (.ref b949), .unset, .unset, .unset, .unset, .unset, .unset, .unset] []))
  refine own_st (fun t_ => XS.aload (own_here Y1014) hx rfl (hb hby at_409) rfl rfl) ?_
  show own_Ends _ _ _ _ (T1013.setTop (mkF m 411 #[.val (.int x0), .val (.int x1), .val (.int x2), .val (.ref b593), .val (.ref b646), .val (.ref b685), .val (.ref b725), .val (.ref b771), .val (.ref b823), .val (.ref b881), .val (.ref b949), .unset, .unset, .unset, .unset, .unset, .unset, .unset] [(.ref b949)]))
  refine own_st (fun t_ => XS.aload (own_here Y1014) hx rfl (hb hby at_411) rfl rfl) ?_
  show own_Ends _ _ _ _ (T1013.setTop (mkF m 413 #[.val (.int x0), .val (.int x1), .val (.int x2), .val (.ref b593), .val (.ref b646), .val (.ref b685), .val (.ref b725), .val (.ref b771), .val (.ref b823), .val (.ref b881), .val (.ref b949), .unset, .unset, .unset, .unset, .unset, .unset, .unset] [(.ref b881), (.ref b949)]))
  refine own_st (fun t_ => XS.iconst (own_here Y1014) hx rfl (hb hby at_413) ) ?_
  show own_Ends _ _ _ _ (T1013.setTop (mkF m 414 #[.val (.int x0), .val (.int x1), .val (.int x2), .val (.ref b593), .val (.ref b646), .val (.ref b685), .val (.ref b725), .val (.ref b771), .val (.ref b823), .val (.ref b881), .val (.ref b949), .unset, .unset, .unset, .unset, .unset, .unset, .unset] [(.int (3 : Int32)), (.ref b881), (.ref b949)]))
  have f1020 : own_A Z h1015 b881 .int [(.int (0 : Int32)), (.int z0), (.int m2), (.int m3), (.int m4)] := f1010.keep K1018 (ninS ne983 nin0)
  refine own_ldI Y1014 hx hZ f1020 (i := 3) (by decide) (by decide) (Nat.le_of_ble_eq_true rfl) (v := (.int m3)) rfl rfl rfl (hb hby at_414) ?_
  show own_Ends _ _ _ _ (T1013.setTop (mkF m 415 #[.val (.int x0), .val (.int x1), .val (.int x2), .val (.ref b593), .val (.ref b646), .val (.ref b685), .val (.ref b725), .val (.ref b771), .val (.ref b823), .val (.ref b881), .val (.ref b949), .unset, .unset, .unset, .unset, .unset, .unset, .unset] [(.int m3), (.ref b949)]))
  refine own_st (fun t_ => XS.aload (own_here Y1014) hx rfl (hb hby at_415) rfl rfl) ?_
  show own_Ends _ _ _ _ (T1013.setTop (mkF m 417 #[.val (.int x0), .val (.int x1), .val (.int x2), .val (.ref b593), .val (.ref b646), .val (.ref b685), .val (.ref b725), .val (.ref b771), .val (.ref b823), .val (.ref b881), .val (.ref b949), .unset, .unset, .unset, .unset, .unset, .unset, .unset] [(.ref b771), (.int m3), (.ref b949)]))
  refine own_st (fun t_ => XS.iconst (own_here Y1014) hx rfl (hb hby at_417) ) ?_
  show own_Ends _ _ _ _ (T1013.setTop (mkF m 418 #[.val (.int x0), .val (.int x1), .val (.int x2), .val (.ref b593), .val (.ref b646), .val (.ref b685), .val (.ref b725), .val (.ref b771), .val (.ref b823), .val (.ref b881), .val (.ref b949), .unset, .unset, .unset, .unset, .unset, .unset, .unset] [(.int (3 : Int32)), (.ref b771), (.int m3), (.ref b949)]))
  have f1021 : own_A Z h1015 b771 .int [(.int z0), (.int z1), (.int z2), (.int z3)] := f1011.keep K1018 (ninS ne976 nin0)
  refine own_ldI Y1014 hx hZ f1021 (i := 3) (by decide) (by decide) (Nat.le_of_ble_eq_true rfl) (v := (.int z3)) rfl rfl rfl (hb hby at_418) ?_
  show own_Ends _ _ _ _ (T1013.setTop (mkF m 419 #[.val (.int x0), .val (.int x1), .val (.int x2), .val (.ref b593), .val (.ref b646), .val (.ref b685), .val (.ref b725), .val (.ref b771), .val (.ref b823), .val (.ref b881), .val (.ref b949), .unset, .unset, .unset, .unset, .unset, .unset, .unset] [(.int z3), (.int m3), (.ref b949)]))
  refine own_st (fun t_ => XS.aload (own_here Y1014) hx rfl (hb hby at_419) rfl rfl) ?_
  show own_Ends _ _ _ _ (T1013.setTop (mkF m 421 #[.val (.int x0), .val (.int x1), .val (.int x2), .val (.ref b593), .val (.ref b646), .val (.ref b685), .val (.ref b725), .val (.ref b771), .val (.ref b823), .val (.ref b881), .val (.ref b949), .unset, .unset, .unset, .unset, .unset, .unset, .unset] [(.ref b823), (.int z3), (.int m3), (.ref b949)]))
  refine own_st (fun t_ => XS.iconst (own_here Y1014) hx rfl (hb hby at_421) ) ?_
  show own_Ends _ _ _ _ (T1013.setTop (mkF m 422 #[.val (.int x0), .val (.int x1), .val (.int x2), .val (.ref b593), .val (.ref b646), .val (.ref b685), .val (.ref b725), .val (.ref b771), .val (.ref b823), .val (.ref b881), .val (.ref b949), .unset, .unset, .unset, .unset, .unset, .unset, .unset] [(.int (3 : Int32)), (.ref b823), (.int z3), (.int m3), (.ref b949)]))
  have f1022 : own_A Z h1015 b823 .int [(.int o0), (.int o1), (.int o2), (.int o3)] := f1012.keep K1018 (ninS ne982 nin0)
  refine own_ldI Y1014 hx hZ f1022 (i := 3) (by decide) (by decide) (Nat.le_of_ble_eq_true rfl) (v := (.int o3)) rfl rfl rfl (hb hby at_422) ?_
  show own_Ends _ _ _ _ (T1013.setTop (mkF m 423 #[.val (.int x0), .val (.int x1), .val (.int x2), .val (.ref b593), .val (.ref b646), .val (.ref b685), .val (.ref b725), .val (.ref b771), .val (.ref b823), .val (.ref b881), .val (.ref b949), .unset, .unset, .unset, .unset, .unset, .unset, .unset] [(.int o3), (.int z3), (.int m3), (.ref b949)]))
  refine own_callS Y1014 hx hZ (y := (⟨"com/example/tierpath/tierpath/BoundsMemberPinLaw", "fill", "([IIII)V"⟩ : MethodName)) hown (hw _ (List.mem_of_getElem? (i := 1) rfl)) (hw _ (List.mem_of_getElem? (i := 2) rfl)) (hw _ (List.mem_of_getElem? (i := 3) rfl)) (hw _ (List.mem_of_getElem? (i := 4) rfl)) (by decide) (argsL := [(.ref b949), (.int m3), (.int z3), (.int o3)]) (rest := []) (own_rm1 l Z a0 hw [] b949 m3 z3 o3 w3 (k0 + k1 + k2) h1015 n0  A1019 g984 hm3k (by rw [hwl3]; omega) (by omega)) (W := 0) (by decide) (by decide) (by decide) (by decide) rfl (by rw [hml]; rfl) (lenOf own_pd1 rfl) rfl (by show 2 * 0 + _ ≤ _; exact Nat.le_of_eq rfl) (hb hby at_423) (fun T1023 h1025 v1026 Y1024 q1027 => ?_)
  obtain ⟨rfl, K1028, A1029⟩ := q1027
  have hwl4 := own_fill_len w3 (k0 + k1 + k2) z3 o3
  generalize hw4 : own_fill w3 (k0 + k1 + k2) z3 o3 = w4 at A1029 hwl4
  replace hwl4 : w4.length = 8 := hwl4.trans hwl3
  show own_Ends _ _ _ _ (T1023.setTop (mkF m 426 #[.val (.int x0), .val (.int x1), .val (.int x2), .val (.ref b593), .val (.ref b646), .val (.ref b685), .val (.ref b725), .val (.ref b771), .val (.ref b823), .val (.ref b881), .val (.ref b949), .unset, .unset, .unset, .unset, .unset, .unset, .unset] []))
  refine own_new Y1024 hx hZ hown (hw _ (List.mem_of_getElem? (i := 5) rfl)) (hw _ (List.mem_of_getElem? (i := 6) rfl)) (hw _ (List.mem_of_getElem? (i := 7) rfl)) rfl (hb hby at_426) (by decide) (by decide) (fun T1030 h1032 b1036 eb1037 Y1031 E1033 X1034 D1035 => ?_)
  have f1038 : own_A Z h946 b593 .int [(.int y0), (.int y1), (.int y2), (.int y3), (.int y4), (.int y5), (.int y6), (.int y7), (.int y8)] := f955.ext E947
  have f1039 : own_A Z h995 b593 .int [(.int y0), (.int y1), (.int y2), (.int y3), (.int y4), (.int y5), (.int y6), (.int y7), (.int y8)] := f1038.keep K998 (ninS ne956 nin0)
  have f1040 : own_A Z h1005 b593 .int [(.int y0), (.int y1), (.int y2), (.int y3), (.int y4), (.int y5), (.int y6), (.int y7), (.int y8)] := f1039.keep K1008 (ninS ne956 nin0)
  have f1041 : own_A Z h1015 b593 .int [(.int y0), (.int y1), (.int y2), (.int y3), (.int y4), (.int y5), (.int y6), (.int y7), (.int y8)] := f1040.keep K1018 (ninS ne956 nin0)
  have f1042 : own_A Z h1025 b593 .int [(.int y0), (.int y1), (.int y2), (.int y3), (.int y4), (.int y5), (.int y6), (.int y7), (.int y8)] := f1041.keep K1028 (ninS ne956 nin0)
  have ne1043 : b593 ≠ b1036 := Nat.ne_of_lt (by rw [eb1037]; exact f1042.lt)
  have f1044 : own_A Z h946 b646 .int [(.int (0 : Int32)), (.int (3 : Int32)), (.int (6 : Int32)), (.int (9 : Int32))] := f961.ext E947
  have f1045 : own_A Z h995 b646 .int [(.int (0 : Int32)), (.int (3 : Int32)), (.int (6 : Int32)), (.int (9 : Int32))] := f1044.keep K998 (ninS ne962 nin0)
  have f1046 : own_A Z h1005 b646 .int [(.int (0 : Int32)), (.int (3 : Int32)), (.int (6 : Int32)), (.int (9 : Int32))] := f1045.keep K1008 (ninS ne962 nin0)
  have f1047 : own_A Z h1015 b646 .int [(.int (0 : Int32)), (.int (3 : Int32)), (.int (6 : Int32)), (.int (9 : Int32))] := f1046.keep K1018 (ninS ne962 nin0)
  have f1048 : own_A Z h1025 b646 .int [(.int (0 : Int32)), (.int (3 : Int32)), (.int (6 : Int32)), (.int (9 : Int32))] := f1047.keep K1028 (ninS ne962 nin0)
  have ne1049 : b646 ≠ b1036 := Nat.ne_of_lt (by rw [eb1037]; exact f1048.lt)
  have f1050 : own_A Z h946 b685 .int [(.int (0 : Int32)), (.int (1 : Int32)), (.int (3 : Int32)), (.int (4 : Int32))] := f967.ext E947
  have f1051 : own_A Z h995 b685 .int [(.int (0 : Int32)), (.int (1 : Int32)), (.int (3 : Int32)), (.int (4 : Int32))] := f1050.keep K998 (ninS ne968 nin0)
  have f1052 : own_A Z h1005 b685 .int [(.int (0 : Int32)), (.int (1 : Int32)), (.int (3 : Int32)), (.int (4 : Int32))] := f1051.keep K1008 (ninS ne968 nin0)
  have f1053 : own_A Z h1015 b685 .int [(.int (0 : Int32)), (.int (1 : Int32)), (.int (3 : Int32)), (.int (4 : Int32))] := f1052.keep K1018 (ninS ne968 nin0)
  have f1054 : own_A Z h1025 b685 .int [(.int (0 : Int32)), (.int (1 : Int32)), (.int (3 : Int32)), (.int (4 : Int32))] := f1053.keep K1028 (ninS ne968 nin0)
  have ne1055 : b685 ≠ b1036 := Nat.ne_of_lt (by rw [eb1037]; exact f1054.lt)
  have f1056 : own_A Z h946 b725 .int [(.int (1 : Int32)), (.int (0 : Int32)), (.int (2 : Int32)), (.int (1 : Int32))] := f973.ext E947
  have f1057 : own_A Z h995 b725 .int [(.int (1 : Int32)), (.int (0 : Int32)), (.int (2 : Int32)), (.int (1 : Int32))] := f1056.keep K998 (ninS ne974 nin0)
  have f1058 : own_A Z h1005 b725 .int [(.int (1 : Int32)), (.int (0 : Int32)), (.int (2 : Int32)), (.int (1 : Int32))] := f1057.keep K1008 (ninS ne974 nin0)
  have f1059 : own_A Z h1015 b725 .int [(.int (1 : Int32)), (.int (0 : Int32)), (.int (2 : Int32)), (.int (1 : Int32))] := f1058.keep K1018 (ninS ne974 nin0)
  have f1060 : own_A Z h1025 b725 .int [(.int (1 : Int32)), (.int (0 : Int32)), (.int (2 : Int32)), (.int (1 : Int32))] := f1059.keep K1028 (ninS ne974 nin0)
  have ne1061 : b725 ≠ b1036 := Nat.ne_of_lt (by rw [eb1037]; exact f1060.lt)
  have f1062 : own_A Z h1025 b771 .int [(.int z0), (.int z1), (.int z2), (.int z3)] := f1021.keep K1028 (ninS ne976 nin0)
  have ne1063 : b771 ≠ b1036 := Nat.ne_of_lt (by rw [eb1037]; exact f1062.lt)
  have f1064 : own_A Z h1025 b823 .int [(.int o0), (.int o1), (.int o2), (.int o3)] := f1022.keep K1028 (ninS ne982 nin0)
  have ne1065 : b823 ≠ b1036 := Nat.ne_of_lt (by rw [eb1037]; exact f1064.lt)
  have f1066 : own_A Z h1025 b881 .int [(.int (0 : Int32)), (.int z0), (.int m2), (.int m3), (.int m4)] := f1020.keep K1028 (ninS ne983 nin0)
  have ne1067 : b881 ≠ b1036 := Nat.ne_of_lt (by rw [eb1037]; exact f1066.lt)
  have ne1068 : b949 ≠ b1036 := Nat.ne_of_lt (by rw [eb1037]; exact A1029.lt)
  have z1070 : n0 ≤ h946.size := Nat.le_trans z989 E947.1
  have z1071 : n0 ≤ h995.size := Nat.le_trans z1070 K998.1
  have z1072 : n0 ≤ h1005.size := Nat.le_trans z1071 K1008.1
  have z1073 : n0 ≤ h1015.size := Nat.le_trans z1072 K1018.1
  have z1074 : n0 ≤ h1025.size := Nat.le_trans z1073 K1028.1
  have g1069 : n0 ≤ b1036 := by rw [eb1037]; exact z1074
  have F1075 : Fld Z h1032 b1036 "com/example/tierpath/tierpath/Bounds" "boundaryStart" "[I" .null := D1035 _ _ _ (.array .int) (Or.inr (hw _ (List.mem_of_getElem? (i := 16) rfl))) (by decide)
  have F1076 : Fld Z h1032 b1036 "com/example/tierpath/tierpath/Bounds" "boundary" "[I" .null := D1035 _ _ _ (.array .int) (Or.inr (hw _ (List.mem_of_getElem? (i := 18) rfl))) (by decide)
  have F1077 : Fld Z h1032 b1036 "com/example/tierpath/tierpath/Bounds" "setStart" "[I" .null := D1035 _ _ _ (.array .int) (Or.inr (hw _ (List.mem_of_getElem? (i := 20) rfl))) (by decide)
  have F1078 : Fld Z h1032 b1036 "com/example/tierpath/tierpath/Bounds" "neighbour" "[I" .null := D1035 _ _ _ (.array .int) (Or.inr (hw _ (List.mem_of_getElem? (i := 22) rfl))) (by decide)
  have F1079 : Fld Z h1032 b1036 "com/example/tierpath/tierpath/Bounds" "memberStart" "[I" .null := D1035 _ _ _ (.array .int) (Or.inr (hw _ (List.mem_of_getElem? (i := 24) rfl))) (by decide)
  have F1080 : Fld Z h1032 b1036 "com/example/tierpath/tierpath/Bounds" "members" "[I" .null := D1035 _ _ _ (.array .int) (Or.inr (hw _ (List.mem_of_getElem? (i := 26) rfl))) (by decide)
  have F1081 : Fld Z h1032 b1036 "com/example/tierpath/tierpath/Bounds" "alpha" "[J" .null := D1035 _ _ _ (.array .long) (Or.inr (hw _ (List.mem_of_getElem? (i := 28) rfl))) (by decide)
  have F1082 : Fld Z h1032 b1036 "com/example/tierpath/tierpath/Bounds" "beta" "[J" .null := D1035 _ _ _ (.array .long) (Or.inr (hw _ (List.mem_of_getElem? (i := 30) rfl))) (by decide)
  have F1083 : Fld Z h1032 b1036 "com/example/tierpath/tierpath/Bounds" "number" "[I" .null := D1035 _ _ _ (.array .int) (Or.inr (hw _ (List.mem_of_getElem? (i := 32) rfl))) (by decide)
  have F1084 : Fld Z h1032 b1036 "com/example/tierpath/tierpath/Bounds" "setLeaf" "[I" .null := D1035 _ _ _ (.array .int) (Or.inr (hw _ (List.mem_of_getElem? (i := 34) rfl))) (by decide)
  show own_Ends _ _ _ _ (T1030.setTop (mkF m 429 #[.val (.int x0), .val (.int x1), .val (.int x2), .val (.ref b593), .val (.ref b646), .val (.ref b685), .val (.ref b725), .val (.ref b771), .val (.ref b823), .val (.ref b881), .val (.ref b949), .unset, .unset, .unset, .unset, .unset, .unset, .unset] [(.ref b1036)]))
  refine own_st (fun t_ => XS.dup (own_here Y1031) hx rfl (hb hby at_429) rfl rfl) ?_
  show own_Ends _ _ _ _ (T1030.setTop (mkF m 430 #[.val (.int x0), .val (.int x1), .val (.int x2), .val (.ref b593), .val (.ref b646), .val (.ref b685), .val (.ref b725), .val (.ref b771), .val (.ref b823), .val (.ref b881), .val (.ref b949), .unset, .unset, .unset, .unset, .unset, .unset, .unset] [(.ref b1036), (.ref b1036)]))
  refine own_st (fun t_ => XS.bipush (own_here Y1031) hx rfl (hb hby at_430) ) ?_
  show own_Ends _ _ _ _ (T1030.setTop (mkF m 432 #[.val (.int x0), .val (.int x1), .val (.int x2), .val (.ref b593), .val (.ref b646), .val (.ref b685), .val (.ref b725), .val (.ref b771), .val (.ref b823), .val (.ref b881), .val (.ref b949), .unset, .unset, .unset, .unset, .unset, .unset, .unset] [(.int (40 : Int32)), (.ref b1036), (.ref b1036)]))
  refine own_st (fun t_ => XS.aload (own_here Y1031) hx rfl (hb hby at_432) rfl rfl) ?_
  show own_Ends _ _ _ _ (T1030.setTop (mkF m 434 #[.val (.int x0), .val (.int x1), .val (.int x2), .val (.ref b593), .val (.ref b646), .val (.ref b685), .val (.ref b725), .val (.ref b771), .val (.ref b823), .val (.ref b881), .val (.ref b949), .unset, .unset, .unset, .unset, .unset, .unset, .unset] [(.ref b646), (.int (40 : Int32)), (.ref b1036), (.ref b1036)]))
  refine own_st (fun t_ => XS.aloadN (own_here Y1031) hx rfl (hb hby at_434) rfl rfl) ?_
  show own_Ends _ _ _ _ (T1030.setTop (mkF m 435 #[.val (.int x0), .val (.int x1), .val (.int x2), .val (.ref b593), .val (.ref b646), .val (.ref b685), .val (.ref b725), .val (.ref b771), .val (.ref b823), .val (.ref b881), .val (.ref b949), .unset, .unset, .unset, .unset, .unset, .unset, .unset] [(.ref b593), (.ref b646), (.int (40 : Int32)), (.ref b1036), (.ref b1036)]))
  refine own_st (fun t_ => XS.aload (own_here Y1031) hx rfl (hb hby at_435) rfl rfl) ?_
  show own_Ends _ _ _ _ (T1030.setTop (mkF m 437 #[.val (.int x0), .val (.int x1), .val (.int x2), .val (.ref b593), .val (.ref b646), .val (.ref b685), .val (.ref b725), .val (.ref b771), .val (.ref b823), .val (.ref b881), .val (.ref b949), .unset, .unset, .unset, .unset, .unset, .unset, .unset] [(.ref b685), (.ref b593), (.ref b646), (.int (40 : Int32)), (.ref b1036), (.ref b1036)]))
  refine own_st (fun t_ => XS.aload (own_here Y1031) hx rfl (hb hby at_437) rfl rfl) ?_
  show own_Ends _ _ _ _ (T1030.setTop (mkF m 439 #[.val (.int x0), .val (.int x1), .val (.int x2), .val (.ref b593), .val (.ref b646), .val (.ref b685), .val (.ref b725), .val (.ref b771), .val (.ref b823), .val (.ref b881), .val (.ref b949), .unset, .unset, .unset, .unset, .unset, .unset, .unset] [(.ref b725), (.ref b685), (.ref b593), (.ref b646), (.int (40 : Int32)), (.ref b1036), (.ref b1036)]))
  refine own_st (fun t_ => XS.aload (own_here Y1031) hx rfl (hb hby at_439) rfl rfl) ?_
  show own_Ends _ _ _ _ (T1030.setTop (mkF m 441 #[.val (.int x0), .val (.int x1), .val (.int x2), .val (.ref b593), .val (.ref b646), .val (.ref b685), .val (.ref b725), .val (.ref b771), .val (.ref b823), .val (.ref b881), .val (.ref b949), .unset, .unset, .unset, .unset, .unset, .unset, .unset] [(.ref b881), (.ref b725), (.ref b685), (.ref b593), (.ref b646), (.int (40 : Int32)), (.ref b1036), (.ref b1036)]))
  refine own_st (fun t_ => XS.aload (own_here Y1031) hx rfl (hb hby at_441) rfl rfl) ?_
  show own_Ends _ _ _ _ (T1030.setTop (mkF m 443 #[.val (.int x0), .val (.int x1), .val (.int x2), .val (.ref b593), .val (.ref b646), .val (.ref b685), .val (.ref b725), .val (.ref b771), .val (.ref b823), .val (.ref b881), .val (.ref b949), .unset, .unset, .unset, .unset, .unset, .unset, .unset] [(.ref b949), (.ref b881), (.ref b725), (.ref b685), (.ref b593), (.ref b646), (.int (40 : Int32)), (.ref b1036), (.ref b1036)]))
  refine own_st (fun t_ => XS.bipush (own_here Y1031) hx rfl (hb hby at_443) ) ?_
  show own_Ends _ _ _ _ (T1030.setTop (mkF m 445 #[.val (.int x0), .val (.int x1), .val (.int x2), .val (.ref b593), .val (.ref b646), .val (.ref b685), .val (.ref b725), .val (.ref b771), .val (.ref b823), .val (.ref b881), .val (.ref b949), .unset, .unset, .unset, .unset, .unset, .unset, .unset] [(.int (16 : Int32)), (.ref b949), (.ref b881), (.ref b725), (.ref b685), (.ref b593), (.ref b646), (.int (40 : Int32)), (.ref b1036), (.ref b1036)]))
  refine own_newP Y1031 hx hZ (hw _ (List.mem_of_getElem? (i := 8) rfl)) rfl (hb hby at_445) rfl (by decide) (nz := 16) (cap := 16) (by decide) (by decide) (by decide) (by decide) (by decide) (ty := .long) rfl (fun T1085 h1087 b1090 eb1091 Y1086 E1088 A1089 => ?_)
  have f1092 : own_A Z h1032 b593 .int [(.int y0), (.int y1), (.int y2), (.int y3), (.int y4), (.int y5), (.int y6), (.int y7), (.int y8)] := f1042.ext E1033
  have ne1093 : b593 ≠ b1090 := Nat.ne_of_lt (by rw [eb1091]; exact f1092.lt)
  have f1094 : own_A Z h1032 b646 .int [(.int (0 : Int32)), (.int (3 : Int32)), (.int (6 : Int32)), (.int (9 : Int32))] := f1048.ext E1033
  have ne1095 : b646 ≠ b1090 := Nat.ne_of_lt (by rw [eb1091]; exact f1094.lt)
  have f1096 : own_A Z h1032 b685 .int [(.int (0 : Int32)), (.int (1 : Int32)), (.int (3 : Int32)), (.int (4 : Int32))] := f1054.ext E1033
  have ne1097 : b685 ≠ b1090 := Nat.ne_of_lt (by rw [eb1091]; exact f1096.lt)
  have f1098 : own_A Z h1032 b725 .int [(.int (1 : Int32)), (.int (0 : Int32)), (.int (2 : Int32)), (.int (1 : Int32))] := f1060.ext E1033
  have ne1099 : b725 ≠ b1090 := Nat.ne_of_lt (by rw [eb1091]; exact f1098.lt)
  have f1100 : own_A Z h1032 b771 .int [(.int z0), (.int z1), (.int z2), (.int z3)] := f1062.ext E1033
  have ne1101 : b771 ≠ b1090 := Nat.ne_of_lt (by rw [eb1091]; exact f1100.lt)
  have f1102 : own_A Z h1032 b823 .int [(.int o0), (.int o1), (.int o2), (.int o3)] := f1064.ext E1033
  have ne1103 : b823 ≠ b1090 := Nat.ne_of_lt (by rw [eb1091]; exact f1102.lt)
  have f1104 : own_A Z h1032 b881 .int [(.int (0 : Int32)), (.int z0), (.int m2), (.int m3), (.int m4)] := f1066.ext E1033
  have ne1105 : b881 ≠ b1090 := Nat.ne_of_lt (by rw [eb1091]; exact f1104.lt)
  have f1106 : own_A Z h1032 b949 .int (w4.map Value.int) := A1029.ext E1033
  have ne1107 : b949 ≠ b1090 := Nat.ne_of_lt (by rw [eb1091]; exact f1106.lt)
  have ne1108 : b1036 ≠ b1090 := Nat.ne_of_lt (by rw [eb1091]; exact X1034.lt)
  have z1110 : n0 ≤ h1032.size := Nat.le_trans z1074 E1033.1
  have g1109 : n0 ≤ b1090 := by rw [eb1091]; exact z1110
  replace A1089 : own_A Z h1087 b1090 .long [(.long (0 : Int64)), (.long (0 : Int64)), (.long (0 : Int64)), (.long (0 : Int64)), (.long (0 : Int64)), (.long (0 : Int64)), (.long (0 : Int64)), (.long (0 : Int64)), (.long (0 : Int64)), (.long (0 : Int64)), (.long (0 : Int64)), (.long (0 : Int64)), (.long (0 : Int64)), (.long (0 : Int64)), (.long (0 : Int64)), (.long (0 : Int64))] := A1089
  show own_Ends _ _ _ _ (T1085.setTop (mkF m 447 #[.val (.int x0), .val (.int x1), .val (.int x2), .val (.ref b593), .val (.ref b646), .val (.ref b685), .val (.ref b725), .val (.ref b771), .val (.ref b823), .val (.ref b881), .val (.ref b949), .unset, .unset, .unset, .unset, .unset, .unset, .unset] [(.ref b1090), (.ref b949), (.ref b881), (.ref b725), (.ref b685), (.ref b593), (.ref b646), (.int (40 : Int32)), (.ref b1036), (.ref b1036)]))
  refine own_st (fun t_ => XS.bipush (own_here Y1086) hx rfl (hb hby at_447) ) ?_
  show own_Ends _ _ _ _ (T1085.setTop (mkF m 449 #[.val (.int x0), .val (.int x1), .val (.int x2), .val (.ref b593), .val (.ref b646), .val (.ref b685), .val (.ref b725), .val (.ref b771), .val (.ref b823), .val (.ref b881), .val (.ref b949), .unset, .unset, .unset, .unset, .unset, .unset, .unset] [(.int (16 : Int32)), (.ref b1090), (.ref b949), (.ref b881), (.ref b725), (.ref b685), (.ref b593), (.ref b646), (.int (40 : Int32)), (.ref b1036), (.ref b1036)]))
  refine own_newP Y1086 hx hZ (hw _ (List.mem_of_getElem? (i := 8) rfl)) rfl (hb hby at_449) rfl (by decide) (nz := 16) (cap := 16) (by decide) (by decide) (by decide) (by decide) (by decide) (ty := .long) rfl (fun T1111 h1113 b1116 eb1117 Y1112 E1114 A1115 => ?_)
  have f1118 : own_A Z h1087 b593 .int [(.int y0), (.int y1), (.int y2), (.int y3), (.int y4), (.int y5), (.int y6), (.int y7), (.int y8)] := f1092.ext E1088
  have ne1119 : b593 ≠ b1116 := Nat.ne_of_lt (by rw [eb1117]; exact f1118.lt)
  have f1120 : own_A Z h1087 b646 .int [(.int (0 : Int32)), (.int (3 : Int32)), (.int (6 : Int32)), (.int (9 : Int32))] := f1094.ext E1088
  have ne1121 : b646 ≠ b1116 := Nat.ne_of_lt (by rw [eb1117]; exact f1120.lt)
  have f1122 : own_A Z h1087 b685 .int [(.int (0 : Int32)), (.int (1 : Int32)), (.int (3 : Int32)), (.int (4 : Int32))] := f1096.ext E1088
  have ne1123 : b685 ≠ b1116 := Nat.ne_of_lt (by rw [eb1117]; exact f1122.lt)
  have f1124 : own_A Z h1087 b725 .int [(.int (1 : Int32)), (.int (0 : Int32)), (.int (2 : Int32)), (.int (1 : Int32))] := f1098.ext E1088
  have ne1125 : b725 ≠ b1116 := Nat.ne_of_lt (by rw [eb1117]; exact f1124.lt)
  have f1126 : own_A Z h1087 b771 .int [(.int z0), (.int z1), (.int z2), (.int z3)] := f1100.ext E1088
  have ne1127 : b771 ≠ b1116 := Nat.ne_of_lt (by rw [eb1117]; exact f1126.lt)
  have f1128 : own_A Z h1087 b823 .int [(.int o0), (.int o1), (.int o2), (.int o3)] := f1102.ext E1088
  have ne1129 : b823 ≠ b1116 := Nat.ne_of_lt (by rw [eb1117]; exact f1128.lt)
  have f1130 : own_A Z h1087 b881 .int [(.int (0 : Int32)), (.int z0), (.int m2), (.int m3), (.int m4)] := f1104.ext E1088
  have ne1131 : b881 ≠ b1116 := Nat.ne_of_lt (by rw [eb1117]; exact f1130.lt)
  have f1132 : own_A Z h1087 b949 .int (w4.map Value.int) := f1106.ext E1088
  have ne1133 : b949 ≠ b1116 := Nat.ne_of_lt (by rw [eb1117]; exact f1132.lt)
  have f1134 : Exa Z h1087 b1036 "com/example/tierpath/tierpath/Bounds" := X1034.ext E1088
  have ne1135 : b1036 ≠ b1116 := Nat.ne_of_lt (by rw [eb1117]; exact f1134.lt)
  have ne1136 : b1090 ≠ b1116 := Nat.ne_of_lt (by rw [eb1117]; exact A1089.lt)
  have z1138 : n0 ≤ h1087.size := Nat.le_trans z1110 E1088.1
  have g1137 : n0 ≤ b1116 := by rw [eb1117]; exact z1138
  replace A1115 : own_A Z h1113 b1116 .long [(.long (0 : Int64)), (.long (0 : Int64)), (.long (0 : Int64)), (.long (0 : Int64)), (.long (0 : Int64)), (.long (0 : Int64)), (.long (0 : Int64)), (.long (0 : Int64)), (.long (0 : Int64)), (.long (0 : Int64)), (.long (0 : Int64)), (.long (0 : Int64)), (.long (0 : Int64)), (.long (0 : Int64)), (.long (0 : Int64)), (.long (0 : Int64))] := A1115
  show own_Ends _ _ _ _ (T1111.setTop (mkF m 451 #[.val (.int x0), .val (.int x1), .val (.int x2), .val (.ref b593), .val (.ref b646), .val (.ref b685), .val (.ref b725), .val (.ref b771), .val (.ref b823), .val (.ref b881), .val (.ref b949), .unset, .unset, .unset, .unset, .unset, .unset, .unset] [(.ref b1116), (.ref b1090), (.ref b949), (.ref b881), (.ref b725), (.ref b685), (.ref b593), (.ref b646), (.int (40 : Int32)), (.ref b1036), (.ref b1036)]))
  have f1139 : Exa Z h1113 b1036 "com/example/tierpath/tierpath/Bounds" := f1134.ext E1114
  have f1140 : Fld Z h1087 b1036 "com/example/tierpath/tierpath/Bounds" "boundaryStart" "[I" .null := F1075.ext E1088
  have f1141 : Fld Z h1113 b1036 "com/example/tierpath/tierpath/Bounds" "boundaryStart" "[I" .null := f1140.ext E1114
  have f1142 : Fld Z h1087 b1036 "com/example/tierpath/tierpath/Bounds" "boundary" "[I" .null := F1076.ext E1088
  have f1143 : Fld Z h1113 b1036 "com/example/tierpath/tierpath/Bounds" "boundary" "[I" .null := f1142.ext E1114
  have f1144 : Fld Z h1087 b1036 "com/example/tierpath/tierpath/Bounds" "setStart" "[I" .null := F1077.ext E1088
  have f1145 : Fld Z h1113 b1036 "com/example/tierpath/tierpath/Bounds" "setStart" "[I" .null := f1144.ext E1114
  have f1146 : Fld Z h1087 b1036 "com/example/tierpath/tierpath/Bounds" "neighbour" "[I" .null := F1078.ext E1088
  have f1147 : Fld Z h1113 b1036 "com/example/tierpath/tierpath/Bounds" "neighbour" "[I" .null := f1146.ext E1114
  have f1148 : Fld Z h1087 b1036 "com/example/tierpath/tierpath/Bounds" "memberStart" "[I" .null := F1079.ext E1088
  have f1149 : Fld Z h1113 b1036 "com/example/tierpath/tierpath/Bounds" "memberStart" "[I" .null := f1148.ext E1114
  have f1150 : Fld Z h1087 b1036 "com/example/tierpath/tierpath/Bounds" "members" "[I" .null := F1080.ext E1088
  have f1151 : Fld Z h1113 b1036 "com/example/tierpath/tierpath/Bounds" "members" "[I" .null := f1150.ext E1114
  have f1152 : Fld Z h1087 b1036 "com/example/tierpath/tierpath/Bounds" "alpha" "[J" .null := F1081.ext E1088
  have f1153 : Fld Z h1113 b1036 "com/example/tierpath/tierpath/Bounds" "alpha" "[J" .null := f1152.ext E1114
  have f1154 : Fld Z h1087 b1036 "com/example/tierpath/tierpath/Bounds" "beta" "[J" .null := F1082.ext E1088
  have f1155 : Fld Z h1113 b1036 "com/example/tierpath/tierpath/Bounds" "beta" "[J" .null := f1154.ext E1114
  have f1156 : Fld Z h1087 b1036 "com/example/tierpath/tierpath/Bounds" "number" "[I" .null := F1083.ext E1088
  have f1157 : Fld Z h1113 b1036 "com/example/tierpath/tierpath/Bounds" "number" "[I" .null := f1156.ext E1114
  have f1158 : Fld Z h1087 b1036 "com/example/tierpath/tierpath/Bounds" "setLeaf" "[I" .null := F1084.ext E1088
  have f1159 : Fld Z h1113 b1036 "com/example/tierpath/tierpath/Bounds" "setLeaf" "[I" .null := f1158.ext E1114
  have f1160 : own_A Z h1113 b593 .int [(.int y0), (.int y1), (.int y2), (.int y3), (.int y4), (.int y5), (.int y6), (.int y7), (.int y8)] := f1118.ext E1114
  have f1161 : own_A Z h1113 b685 .int [(.int (0 : Int32)), (.int (1 : Int32)), (.int (3 : Int32)), (.int (4 : Int32))] := f1122.ext E1114
  have f1162 : own_A Z h1113 b725 .int [(.int (1 : Int32)), (.int (0 : Int32)), (.int (2 : Int32)), (.int (1 : Int32))] := f1124.ext E1114
  have z1163 : n0 ≤ h1113.size := Nat.le_trans z1138 E1114.1
  refine own_callN Y1112 hx hZ (y := (⟨"com/example/tierpath/tierpath/Bounds", "<init>", "(I[I[I[I[I[I[I[J[J)V"⟩ : MethodName)) rfl hown (hw _ (List.mem_of_getElem? (i := 9) rfl)) (hw _ (List.mem_of_getElem? (i := 10) rfl)) (hw _ (List.mem_of_getElem? (i := 7) rfl)) (hw _ (List.mem_of_getElem? (i := 11) rfl)) (by decide) (a := b1036) (argsL := [(.int (40 : Int32)), (.ref b646), (.ref b593), (.ref b685), (.ref b725), (.ref b881), (.ref b949), (.ref b1090), (.ref b1116)]) (rest := [(.ref b1036)]) (own_rm2 l Z a0 hw [] b1036 b646 b593 b685 b725 b881 b949 b1090 b1116 y0 y1 y2 y3 y4 y5 y6 y7 y8 h1113 n0 z1163 f1139 f1141 f1143 f1145 f1147 f1149 f1151 f1153 f1155 f1157 f1159 g1069 f1160 f1161 f1162 ⟨gy0.1, by omega⟩ ⟨gy1.1, by omega⟩ ⟨gy2.1, by omega⟩ ⟨gy3.1, by omega⟩ ⟨gy4.1, by omega⟩ ⟨gy5.1, by omega⟩ ⟨gy6.1, by omega⟩ ⟨gy7.1, by omega⟩ ⟨gy8.1, by omega⟩ ne1043 ne1055 ne1061) (W := 1) (by decide) (by decide) (by decide) (by decide) rfl (by rw [hml]; rfl) (lenOf own_pd2 rfl) rfl (by show 2 * 0 + _ ≤ _; exact Nat.le_of_eq rfl) (hb hby at_451) (fun T1164 h1166 v1167 Y1165 q1168 => ?_)
  obtain ⟨sl, rfl, K1169, F1170, F1171, F1172, F1173, F1174, F1175⟩ := q1168
  show own_Ends _ _ _ _ (T1164.setTop (mkF m 454 #[.val (.int x0), .val (.int x1), .val (.int x2), .val (.ref b593), .val (.ref b646), .val (.ref b685), .val (.ref b725), .val (.ref b771), .val (.ref b823), .val (.ref b881), .val (.ref b949), .unset, .unset, .unset, .unset, .unset, .unset, .unset] [(.ref b1036)]))
  refine own_st (fun t_ => XS.astore (own_here Y1165) hx rfl (hb hby at_454) rfl rfl (l' := #[.val (.int x0), .val (.int x1), .val (.int x2), .val (.ref b593), .val (.ref b646), .val (.ref b685), .val (.ref b725), .val (.ref b771), .val (.ref b823), .val (.ref b881), .val (.ref b949), .val (.ref b1036), .unset, .unset, .unset, .unset, .unset, .unset]) rfl) ?_
  show own_Ends _ _ _ _ (T1164.setTop (mkF m 456 #[.val (.int x0), .val (.int x1), .val (.int x2), .val (.ref b593), .val (.ref b646), .val (.ref b685), .val (.ref b725), .val (.ref b771), .val (.ref b823), .val (.ref b881), .val (.ref b949), .val (.ref b1036), .unset, .unset, .unset, .unset, .unset, .unset] []))
  refine own_st (fun t_ => XS.iloadN (own_here Y1165) hx rfl (hb hby at_456) rfl) ?_
  show own_Ends _ _ _ _ (T1164.setTop (mkF m 457 #[.val (.int x0), .val (.int x1), .val (.int x2), .val (.ref b593), .val (.ref b646), .val (.ref b685), .val (.ref b725), .val (.ref b771), .val (.ref b823), .val (.ref b881), .val (.ref b949), .val (.ref b1036), .unset, .unset, .unset, .unset, .unset, .unset] [(.int x2)]))
  refine own_st (fun t_ => XS.iconst (own_here Y1165) hx rfl (hb hby at_457) ) ?_
  show own_Ends _ _ _ _ (T1164.setTop (mkF m 458 #[.val (.int x0), .val (.int x1), .val (.int x2), .val (.ref b593), .val (.ref b646), .val (.ref b685), .val (.ref b725), .val (.ref b771), .val (.ref b823), .val (.ref b881), .val (.ref b949), .val (.ref b1036), .unset, .unset, .unset, .unset, .unset, .unset] [(.int (3 : Int32)), (.int x2)]))
  refine own_st (fun t_ => XS.iand (own_here Y1165) hx rfl (hb hby at_458) rfl) ?_
  show own_Ends _ _ _ _ (T1164.setTop (mkF m 459 #[.val (.int x0), .val (.int x1), .val (.int x2), .val (.ref b593), .val (.ref b646), .val (.ref b685), .val (.ref b725), .val (.ref b771), .val (.ref b823), .val (.ref b881), .val (.ref b949), .val (.ref b1036), .unset, .unset, .unset, .unset, .unset, .unset] [(.int (x2 &&& (3 : Int32)))]))
  refine own_st (fun t_ => XS.istore (own_here Y1165) hx rfl (hb hby at_459) rfl (l' := #[.val (.int x0), .val (.int x1), .val (.int x2), .val (.ref b593), .val (.ref b646), .val (.ref b685), .val (.ref b725), .val (.ref b771), .val (.ref b823), .val (.ref b881), .val (.ref b949), .val (.ref b1036), .val (.int (x2 &&& (3 : Int32))), .unset, .unset, .unset, .unset, .unset]) rfl) ?_
  show own_Ends _ _ _ _ (T1164.setTop (mkF m 461 #[.val (.int x0), .val (.int x1), .val (.int x2), .val (.ref b593), .val (.ref b646), .val (.ref b685), .val (.ref b725), .val (.ref b771), .val (.ref b823), .val (.ref b881), .val (.ref b949), .val (.ref b1036), .val (.int (x2 &&& (3 : Int32))), .unset, .unset, .unset, .unset, .unset] []))
  generalize hs_ : (x2 &&& (3 : Int32)) = s_
  have hs4 : s_ = 0 ∨ s_ = 1 ∨ s_ = 2 ∨ s_ = 3 := by
    have a := c_and x2 3 (by decide); rw [hs_] at a
    have l3 : (3 : Int32).toInt = 3 := rfl
    have : s_.toInt = 0 ∨ s_.toInt = 1 ∨ s_.toInt = 2 ∨ s_.toInt = 3 := by omega
    simp only [own_eq]; exact this
  have hfin := own_fin o0 o1 o2 o3 hz012 hz112 hz212 hz312 hz0k hz1k hz2k
  rw [show own_W k0 k1 k2 z0 z1 z2 z3 o0 o1 o2 o3 = w4 by rw [own_W, hw1, hw2, hw3, hw4]] at hfin
  rcases hs4 with rfl | rfl | rfl | rfl
  ·
   have hg := hfin.1
   show own_Ends _ _ _ _ (T1164.setTop (mkF m 461 #[.val (.int x0), .val (.int x1), .val (.int x2), .val (.ref b593), .val (.ref b646), .val (.ref b685), .val (.ref b725), .val (.ref b771), .val (.ref b823), .val (.ref b881), .val (.ref b949), .val (.ref b1036), .val (.int (0 : Int32)), .unset, .unset, .unset, .unset, .unset] []))
   refine own_st (fun t_ => XS.iload (own_here Y1165) hx rfl (hb hby at_461) rfl) ?_
   show own_Ends _ _ _ _ (T1164.setTop (mkF m 463 #[.val (.int x0), .val (.int x1), .val (.int x2), .val (.ref b593), .val (.ref b646), .val (.ref b685), .val (.ref b725), .val (.ref b771), .val (.ref b823), .val (.ref b881), .val (.ref b949), .val (.ref b1036), .val (.int (0 : Int32)), .unset, .unset, .unset, .unset, .unset] [(.int (0 : Int32))]))
   refine own_st (fun t_ => XS.ifNo (own_here Y1165) hx rfl (hb hby at_463) rfl (XT.i0_ne_f (by decide))) ?_
   show own_Ends _ _ _ _ (T1164.setTop (mkF m 466 #[.val (.int x0), .val (.int x1), .val (.int x2), .val (.ref b593), .val (.ref b646), .val (.ref b685), .val (.ref b725), .val (.ref b771), .val (.ref b823), .val (.ref b881), .val (.ref b949), .val (.ref b1036), .val (.int (0 : Int32)), .unset, .unset, .unset, .unset, .unset] []))
   refine own_st (fun t_ => XS.iconst (own_here Y1165) hx rfl (hb hby at_466) ) ?_
   show own_Ends _ _ _ _ (T1164.setTop (mkF m 467 #[.val (.int x0), .val (.int x1), .val (.int x2), .val (.ref b593), .val (.ref b646), .val (.ref b685), .val (.ref b725), .val (.ref b771), .val (.ref b823), .val (.ref b881), .val (.ref b949), .val (.ref b1036), .val (.int (0 : Int32)), .unset, .unset, .unset, .unset, .unset] [(.int (0 : Int32))]))
   refine own_st (fun t_ => XS.goto (own_here Y1165) hx rfl (pc0 := 467) (pc' := 481) rfl (hb hby at_467) (by decide) (by decide)) ?_
   show own_Ends _ _ _ _ (T1164.setTop (mkF m 481 #[.val (.int x0), .val (.int x1), .val (.int x2), .val (.ref b593), .val (.ref b646), .val (.ref b685), .val (.ref b725), .val (.ref b771), .val (.ref b823), .val (.ref b881), .val (.ref b949), .val (.ref b1036), .val (.int (0 : Int32)), .unset, .unset, .unset, .unset, .unset] [(.int (0 : Int32))]))
   refine own_st (fun t_ => XS.istore (own_here Y1165) hx rfl (hb hby at_481) rfl (l' := #[.val (.int x0), .val (.int x1), .val (.int x2), .val (.ref b593), .val (.ref b646), .val (.ref b685), .val (.ref b725), .val (.ref b771), .val (.ref b823), .val (.ref b881), .val (.ref b949), .val (.ref b1036), .val (.int (0 : Int32)), .val (.int (0 : Int32)), .unset, .unset, .unset, .unset]) rfl) ?_
   show own_Ends _ _ _ _ (T1164.setTop (mkF m 483 #[.val (.int x0), .val (.int x1), .val (.int x2), .val (.ref b593), .val (.ref b646), .val (.ref b685), .val (.ref b725), .val (.ref b771), .val (.ref b823), .val (.ref b881), .val (.ref b949), .val (.ref b1036), .val (.int (0 : Int32)), .val (.int (0 : Int32)), .unset, .unset, .unset, .unset] []))
   refine own_st (fun t_ => XS.iconst (own_here Y1165) hx rfl (hb hby at_483) ) ?_
   show own_Ends _ _ _ _ (T1164.setTop (mkF m 484 #[.val (.int x0), .val (.int x1), .val (.int x2), .val (.ref b593), .val (.ref b646), .val (.ref b685), .val (.ref b725), .val (.ref b771), .val (.ref b823), .val (.ref b881), .val (.ref b949), .val (.ref b1036), .val (.int (0 : Int32)), .val (.int (0 : Int32)), .unset, .unset, .unset, .unset] [(.int (3 : Int32))]))
   refine own_st (fun t_ => XS.iload (own_here Y1165) hx rfl (hb hby at_484) rfl) ?_
   show own_Ends _ _ _ _ (T1164.setTop (mkF m 486 #[.val (.int x0), .val (.int x1), .val (.int x2), .val (.ref b593), .val (.ref b646), .val (.ref b685), .val (.ref b725), .val (.ref b771), .val (.ref b823), .val (.ref b881), .val (.ref b949), .val (.ref b1036), .val (.int (0 : Int32)), .val (.int (0 : Int32)), .unset, .unset, .unset, .unset] [(.int (0 : Int32)), (.int (3 : Int32))]))
   refine own_st (fun t_ => XS.imul (own_here Y1165) hx rfl (hb hby at_486) rfl) ?_
   show own_Ends _ _ _ _ (T1164.setTop (mkF m 487 #[.val (.int x0), .val (.int x1), .val (.int x2), .val (.ref b593), .val (.ref b646), .val (.ref b685), .val (.ref b725), .val (.ref b771), .val (.ref b823), .val (.ref b881), .val (.ref b949), .val (.ref b1036), .val (.int (0 : Int32)), .val (.int (0 : Int32)), .unset, .unset, .unset, .unset] [(.int (0 : Int32))]))
   refine own_st (fun t_ => XS.istore (own_here Y1165) hx rfl (hb hby at_487) rfl (l' := #[.val (.int x0), .val (.int x1), .val (.int x2), .val (.ref b593), .val (.ref b646), .val (.ref b685), .val (.ref b725), .val (.ref b771), .val (.ref b823), .val (.ref b881), .val (.ref b949), .val (.ref b1036), .val (.int (0 : Int32)), .val (.int (0 : Int32)), .val (.int (0 : Int32)), .unset, .unset, .unset]) rfl) ?_
   show own_Ends _ _ _ _ (T1164.setTop (mkF m 489 #[.val (.int x0), .val (.int x1), .val (.int x2), .val (.ref b593), .val (.ref b646), .val (.ref b685), .val (.ref b725), .val (.ref b771), .val (.ref b823), .val (.ref b881), .val (.ref b949), .val (.ref b1036), .val (.int (0 : Int32)), .val (.int (0 : Int32)), .val (.int (0 : Int32)), .unset, .unset, .unset] []))
   refine own_st (fun t_ => XS.aload (own_here Y1165) hx rfl (hb hby at_489) rfl rfl) ?_
   show own_Ends _ _ _ _ (T1164.setTop (mkF m 491 #[.val (.int x0), .val (.int x1), .val (.int x2), .val (.ref b593), .val (.ref b646), .val (.ref b685), .val (.ref b725), .val (.ref b771), .val (.ref b823), .val (.ref b881), .val (.ref b949), .val (.ref b1036), .val (.int (0 : Int32)), .val (.int (0 : Int32)), .val (.int (0 : Int32)), .unset, .unset, .unset] [(.ref b823)]))
   refine own_st (fun t_ => XS.iload (own_here Y1165) hx rfl (hb hby at_491) rfl) ?_
   show own_Ends _ _ _ _ (T1164.setTop (mkF m 493 #[.val (.int x0), .val (.int x1), .val (.int x2), .val (.ref b593), .val (.ref b646), .val (.ref b685), .val (.ref b725), .val (.ref b771), .val (.ref b823), .val (.ref b881), .val (.ref b949), .val (.ref b1036), .val (.int (0 : Int32)), .val (.int (0 : Int32)), .val (.int (0 : Int32)), .unset, .unset, .unset] [(.int (0 : Int32)), (.ref b823)]))
   have f1176 : own_A Z h1113 b823 .int [(.int o0), (.int o1), (.int o2), (.int o3)] := f1128.ext E1114
   have f1177 : own_A Z h1166 b823 .int [(.int o0), (.int o1), (.int o2), (.int o3)] := f1176.keep K1169 (ninS ne1065 nin0)
   refine own_ldI Y1165 hx hZ f1177 (i := 0) (by decide) (by decide) (Nat.le_of_ble_eq_true rfl) (v := (.int o0)) rfl rfl rfl (hb hby at_493) ?_
   show own_Ends _ _ _ _ (T1164.setTop (mkF m 494 #[.val (.int x0), .val (.int x1), .val (.int x2), .val (.ref b593), .val (.ref b646), .val (.ref b685), .val (.ref b725), .val (.ref b771), .val (.ref b823), .val (.ref b881), .val (.ref b949), .val (.ref b1036), .val (.int (0 : Int32)), .val (.int (0 : Int32)), .val (.int (0 : Int32)), .unset, .unset, .unset] [(.int o0)]))
   refine own_st (fun t_ => XS.istore (own_here Y1165) hx rfl (hb hby at_494) rfl (l' := #[.val (.int x0), .val (.int x1), .val (.int x2), .val (.ref b593), .val (.ref b646), .val (.ref b685), .val (.ref b725), .val (.ref b771), .val (.ref b823), .val (.ref b881), .val (.ref b949), .val (.ref b1036), .val (.int (0 : Int32)), .val (.int (0 : Int32)), .val (.int (0 : Int32)), .val (.int o0), .unset, .unset]) rfl) ?_
   show own_Ends _ _ _ _ (T1164.setTop (mkF m 496 #[.val (.int x0), .val (.int x1), .val (.int x2), .val (.ref b593), .val (.ref b646), .val (.ref b685), .val (.ref b725), .val (.ref b771), .val (.ref b823), .val (.ref b881), .val (.ref b949), .val (.ref b1036), .val (.int (0 : Int32)), .val (.int (0 : Int32)), .val (.int (0 : Int32)), .val (.int o0), .unset, .unset] []))
   refine own_st (fun t_ => XS.aload (own_here Y1165) hx rfl (hb hby at_496) rfl rfl) ?_
   show own_Ends _ _ _ _ (T1164.setTop (mkF m 498 #[.val (.int x0), .val (.int x1), .val (.int x2), .val (.ref b593), .val (.ref b646), .val (.ref b685), .val (.ref b725), .val (.ref b771), .val (.ref b823), .val (.ref b881), .val (.ref b949), .val (.ref b1036), .val (.int (0 : Int32)), .val (.int (0 : Int32)), .val (.int (0 : Int32)), .val (.int o0), .unset, .unset] [(.ref b771)]))
   refine own_st (fun t_ => XS.iload (own_here Y1165) hx rfl (hb hby at_498) rfl) ?_
   show own_Ends _ _ _ _ (T1164.setTop (mkF m 500 #[.val (.int x0), .val (.int x1), .val (.int x2), .val (.ref b593), .val (.ref b646), .val (.ref b685), .val (.ref b725), .val (.ref b771), .val (.ref b823), .val (.ref b881), .val (.ref b949), .val (.ref b1036), .val (.int (0 : Int32)), .val (.int (0 : Int32)), .val (.int (0 : Int32)), .val (.int o0), .unset, .unset] [(.int (0 : Int32)), (.ref b771)]))
   have f1178 : own_A Z h1113 b771 .int [(.int z0), (.int z1), (.int z2), (.int z3)] := f1126.ext E1114
   have f1179 : own_A Z h1166 b771 .int [(.int z0), (.int z1), (.int z2), (.int z3)] := f1178.keep K1169 (ninS ne1063 nin0)
   refine own_ldI Y1165 hx hZ f1179 (i := 0) (by decide) (by decide) (Nat.le_of_ble_eq_true rfl) (v := (.int z0)) rfl rfl rfl (hb hby at_500) ?_
   show own_Ends _ _ _ _ (T1164.setTop (mkF m 501 #[.val (.int x0), .val (.int x1), .val (.int x2), .val (.ref b593), .val (.ref b646), .val (.ref b685), .val (.ref b725), .val (.ref b771), .val (.ref b823), .val (.ref b881), .val (.ref b949), .val (.ref b1036), .val (.int (0 : Int32)), .val (.int (0 : Int32)), .val (.int (0 : Int32)), .val (.int o0), .unset, .unset] [(.int z0)]))
   refine own_st (fun t_ => XS.iconst (own_here Y1165) hx rfl (hb hby at_501) ) ?_
   show own_Ends _ _ _ _ (T1164.setTop (mkF m 502 #[.val (.int x0), .val (.int x1), .val (.int x2), .val (.ref b593), .val (.ref b646), .val (.ref b685), .val (.ref b725), .val (.ref b771), .val (.ref b823), .val (.ref b881), .val (.ref b949), .val (.ref b1036), .val (.int (0 : Int32)), .val (.int (0 : Int32)), .val (.int (0 : Int32)), .val (.int o0), .unset, .unset] [(.int (1 : Int32)), (.int z0)]))
   by_cases c502_1180 : z0 = (1 : Int32)
   ·
    refine own_st (fun t_ => XS.icmpNo (own_here Y1165) hx rfl (hb hby at_502) rfl (XT.ii_ne_f c502_1180)) ?_
    show own_Ends _ _ _ _ (T1164.setTop (mkF m 505 #[.val (.int x0), .val (.int x1), .val (.int x2), .val (.ref b593), .val (.ref b646), .val (.ref b685), .val (.ref b725), .val (.ref b771), .val (.ref b823), .val (.ref b881), .val (.ref b949), .val (.ref b1036), .val (.int (0 : Int32)), .val (.int (0 : Int32)), .val (.int (0 : Int32)), .val (.int o0), .unset, .unset] []))
    refine own_st (fun t_ => XS.aload (own_here Y1165) hx rfl (hb hby at_505) rfl rfl) ?_
    show own_Ends _ _ _ _ (T1164.setTop (mkF m 507 #[.val (.int x0), .val (.int x1), .val (.int x2), .val (.ref b593), .val (.ref b646), .val (.ref b685), .val (.ref b725), .val (.ref b771), .val (.ref b823), .val (.ref b881), .val (.ref b949), .val (.ref b1036), .val (.int (0 : Int32)), .val (.int (0 : Int32)), .val (.int (0 : Int32)), .val (.int o0), .unset, .unset] [(.ref b1036)]))
    refine own_st (fun t_ => XS.iload (own_here Y1165) hx rfl (hb hby at_507) rfl) ?_
    show own_Ends _ _ _ _ (T1164.setTop (mkF m 509 #[.val (.int x0), .val (.int x1), .val (.int x2), .val (.ref b593), .val (.ref b646), .val (.ref b685), .val (.ref b725), .val (.ref b771), .val (.ref b823), .val (.ref b881), .val (.ref b949), .val (.ref b1036), .val (.int (0 : Int32)), .val (.int (0 : Int32)), .val (.int (0 : Int32)), .val (.int o0), .unset, .unset] [(.int (0 : Int32)), (.ref b1036)]))
    refine own_st (fun t_ => XS.iconst (own_here Y1165) hx rfl (hb hby at_509) ) ?_
    show own_Ends _ _ _ _ (T1164.setTop (mkF m 510 #[.val (.int x0), .val (.int x1), .val (.int x2), .val (.ref b593), .val (.ref b646), .val (.ref b685), .val (.ref b725), .val (.ref b771), .val (.ref b823), .val (.ref b881), .val (.ref b949), .val (.ref b1036), .val (.int (0 : Int32)), .val (.int (0 : Int32)), .val (.int (0 : Int32)), .val (.int o0), .unset, .unset] [(.int (0 : Int32)), (.int (0 : Int32)), (.ref b1036)]))
    have f1181 : own_A Z h1166 b593 .int [(.int y0), (.int y1), (.int y2), (.int y3), (.int y4), (.int y5), (.int y6), (.int y7), (.int y8)] := f1160.keep K1169 (ninS ne1043 nin0)
    have f1182 : own_A Z h1113 b646 .int [(.int (0 : Int32)), (.int (3 : Int32)), (.int (6 : Int32)), (.int (9 : Int32))] := f1120.ext E1114
    have f1183 : own_A Z h1166 b646 .int [(.int (0 : Int32)), (.int (3 : Int32)), (.int (6 : Int32)), (.int (9 : Int32))] := f1182.keep K1169 (ninS ne1049 nin0)
    have f1184 : own_A Z h1113 b949 .int (w4.map Value.int) := f1132.ext E1114
    have f1185 : own_A Z h1166 b949 .int (w4.map Value.int) := f1184.keep K1169 (ninS ne1068 nin0)
    have f1186 : own_A Z h1113 b881 .int [(.int (0 : Int32)), (.int z0), (.int m2), (.int m3), (.int m4)] := f1130.ext E1114
    have f1187 : own_A Z h1166 b881 .int [(.int (0 : Int32)), (.int z0), (.int m2), (.int m3), (.int m4)] := f1186.keep K1169 (ninS ne1067 nin0)
    have f1193 : Exa Z h1166 b1036 "com/example/tierpath/tierpath/Bounds" := f1139.keep K1169
    refine own_callV Y1165 hx hZ (y := (⟨"com/example/tierpath/tierpath/Bounds", "member", "(II)I"⟩ : MethodName)) (z := (⟨"com/example/tierpath/tierpath/Bounds", "member", "(II)I"⟩ : MethodName)) hown (hw _ (List.mem_of_getElem? (i := 42) rfl)) (hw _ (List.mem_of_getElem? (i := 43) rfl)) (notFace_of_selects (args := #[]) (mvT hZ (hw _ (List.mem_of_getElem? (i := 45) rfl)))) (hw _ (List.mem_of_getElem? (i := 45) rfl)) (hw _ (List.mem_of_getElem? (i := 44) rfl)) (hw _ (List.mem_of_getElem? (i := 7) rfl)) (hw _ (List.mem_of_getElem? (i := 46) rfl)) (by decide) (a := b1036) f1193 (argsL := [(.int (0 : Int32)), (.int (0 : Int32))]) (rest := []) (own_rm6_0 l Z a0 hw [] b1036 (0 : Int32) b593 b646 sl b949 b881 [y0, y1, y2, y3, y4, y5, y6, y7, y8] w4 (0 : Int32) z0 m2 m3 m4 (0 + 0) j0 h1166 n0  F1171 F1170 F1174 F1173 F1172 f1181 f1183 F1175 f1185 f1187 (own_add own_l0 own_l0 (by omega)) (by rw [hwl4]; omega) ((congrArg Int32.toInt (hg.1 c502_1180)).trans ho0k) (by omega) rfl) (W := 0) (by decide) (by decide) (by decide) (by decide) rfl (by rw [hml]; rfl) (lenOf own_pd3 rfl) rfl (by show 2 * 0 + _ ≤ _; exact Nat.le_of_eq rfl) (hb hby at_510) (fun T1188 h1190 v1191 Y1189 q1192 => ?_)
    obtain ⟨rfl, rfl⟩ := q1192
    show own_Ends _ _ _ _ (T1188.setTop (mkF m 513 #[.val (.int x0), .val (.int x1), .val (.int x2), .val (.ref b593), .val (.ref b646), .val (.ref b685), .val (.ref b725), .val (.ref b771), .val (.ref b823), .val (.ref b881), .val (.ref b949), .val (.ref b1036), .val (.int (0 : Int32)), .val (.int (0 : Int32)), .val (.int (0 : Int32)), .val (.int o0), .unset, .unset] [(.int (own_g [y0, y1, y2, y3, y4, y5, y6, y7, y8] (0 + j0)))]))
    refine own_st (fun t_ => XS.aloadN (own_here Y1189) hx rfl (hb hby at_513) rfl rfl) ?_
    show own_Ends _ _ _ _ (T1188.setTop (mkF m 514 #[.val (.int x0), .val (.int x1), .val (.int x2), .val (.ref b593), .val (.ref b646), .val (.ref b685), .val (.ref b725), .val (.ref b771), .val (.ref b823), .val (.ref b881), .val (.ref b949), .val (.ref b1036), .val (.int (0 : Int32)), .val (.int (0 : Int32)), .val (.int (0 : Int32)), .val (.int o0), .unset, .unset] [(.ref b593), (.int (own_g [y0, y1, y2, y3, y4, y5, y6, y7, y8] (0 + j0)))]))
    refine own_st (fun t_ => XS.iload (own_here Y1189) hx rfl (hb hby at_514) rfl) ?_
    show own_Ends _ _ _ _ (T1188.setTop (mkF m 516 #[.val (.int x0), .val (.int x1), .val (.int x2), .val (.ref b593), .val (.ref b646), .val (.ref b685), .val (.ref b725), .val (.ref b771), .val (.ref b823), .val (.ref b881), .val (.ref b949), .val (.ref b1036), .val (.int (0 : Int32)), .val (.int (0 : Int32)), .val (.int (0 : Int32)), .val (.int o0), .unset, .unset] [(.int (0 : Int32)), (.ref b593), (.int (own_g [y0, y1, y2, y3, y4, y5, y6, y7, y8] (0 + j0)))]))
    refine own_st (fun t_ => XS.iload (own_here Y1189) hx rfl (hb hby at_516) rfl) ?_
    show own_Ends _ _ _ _ (T1188.setTop (mkF m 518 #[.val (.int x0), .val (.int x1), .val (.int x2), .val (.ref b593), .val (.ref b646), .val (.ref b685), .val (.ref b725), .val (.ref b771), .val (.ref b823), .val (.ref b881), .val (.ref b949), .val (.ref b1036), .val (.int (0 : Int32)), .val (.int (0 : Int32)), .val (.int (0 : Int32)), .val (.int o0), .unset, .unset] [(.int o0), (.int (0 : Int32)), (.ref b593), (.int (own_g [y0, y1, y2, y3, y4, y5, y6, y7, y8] (0 + j0)))]))
    refine own_st (fun t_ => XS.iadd (own_here Y1189) hx rfl (hb hby at_518) rfl) ?_
    show own_Ends _ _ _ _ (T1188.setTop (mkF m 519 #[.val (.int x0), .val (.int x1), .val (.int x2), .val (.ref b593), .val (.ref b646), .val (.ref b685), .val (.ref b725), .val (.ref b771), .val (.ref b823), .val (.ref b881), .val (.ref b949), .val (.ref b1036), .val (.int (0 : Int32)), .val (.int (0 : Int32)), .val (.int (0 : Int32)), .val (.int o0), .unset, .unset] [(.int ((0 : Int32) + o0)), (.ref b593), (.int (own_g [y0, y1, y2, y3, y4, y5, y6, y7, y8] (0 + j0)))]))
    obtain ⟨t0, t1⟩ := own_nat (own_add own_l0 ho0k (by omega))
    refine own_ldI Y1189 hx hZ f1181 (i := (0 + j0)) t0 t1 (own_mlen (xs := [y0, y1, y2, y3, y4, y5, y6, y7, y8]) (by show 0 + j0 < 9; omega)) (v := (.int (own_g [y0, y1, y2, y3, y4, y5, y6, y7, y8] (0 + j0)))) (own_mget (xs := [y0, y1, y2, y3, y4, y5, y6, y7, y8]) (own_mlen (by show 0 + j0 < 9; omega))) rfl rfl (hb hby at_519) ?_
    show own_Ends _ _ _ _ (T1188.setTop (mkF m 520 #[.val (.int x0), .val (.int x1), .val (.int x2), .val (.ref b593), .val (.ref b646), .val (.ref b685), .val (.ref b725), .val (.ref b771), .val (.ref b823), .val (.ref b881), .val (.ref b949), .val (.ref b1036), .val (.int (0 : Int32)), .val (.int (0 : Int32)), .val (.int (0 : Int32)), .val (.int o0), .unset, .unset] [(.int (own_g [y0, y1, y2, y3, y4, y5, y6, y7, y8] (0 + j0))), (.int (own_g [y0, y1, y2, y3, y4, y5, y6, y7, y8] (0 + j0)))]))
    refine own_st (fun t_ => XS.icmpNo (own_here Y1189) hx rfl (hb hby at_520) rfl (XT.ii_ne_f rfl)) ?_
    show own_Ends _ _ _ _ (T1188.setTop (mkF m 523 #[.val (.int x0), .val (.int x1), .val (.int x2), .val (.ref b593), .val (.ref b646), .val (.ref b685), .val (.ref b725), .val (.ref b771), .val (.ref b823), .val (.ref b881), .val (.ref b949), .val (.ref b1036), .val (.int (0 : Int32)), .val (.int (0 : Int32)), .val (.int (0 : Int32)), .val (.int o0), .unset, .unset] []))
    refine own_st (fun t_ => XS.iconst (own_here Y1189) hx rfl (hb hby at_523) ) ?_
    show own_Ends _ _ _ _ (T1188.setTop (mkF m 524 #[.val (.int x0), .val (.int x1), .val (.int x2), .val (.ref b593), .val (.ref b646), .val (.ref b685), .val (.ref b725), .val (.ref b771), .val (.ref b823), .val (.ref b881), .val (.ref b949), .val (.ref b1036), .val (.int (0 : Int32)), .val (.int (0 : Int32)), .val (.int (0 : Int32)), .val (.int o0), .unset, .unset] [(.int (1 : Int32))]))
    refine own_st (fun t_ => XS.goto (own_here Y1189) hx rfl (pc0 := 524) (pc' := 528) rfl (hb hby at_524) (by decide) (by decide)) ?_
    show own_Ends _ _ _ _ (T1188.setTop (mkF m 528 #[.val (.int x0), .val (.int x1), .val (.int x2), .val (.ref b593), .val (.ref b646), .val (.ref b685), .val (.ref b725), .val (.ref b771), .val (.ref b823), .val (.ref b881), .val (.ref b949), .val (.ref b1036), .val (.int (0 : Int32)), .val (.int (0 : Int32)), .val (.int (0 : Int32)), .val (.int o0), .unset, .unset] [(.int (1 : Int32))]))
    refine own_retN Y1189 hx hlk (t := .boolean) hret (by simp) (hb hby at_528) (by decide) (by decide) ?_
    exact rfl
   ·
    refine own_st (fun t_ => XS.icmpYes (own_here Y1165) hx rfl (pc0 := 502) (pc' := 529) rfl (hb hby at_502) rfl (XT.ii_ne_t c502_1180) (by decide) (by decide)) ?_
    show own_Ends _ _ _ _ (T1164.setTop (mkF m 529 #[.val (.int x0), .val (.int x1), .val (.int x2), .val (.ref b593), .val (.ref b646), .val (.ref b685), .val (.ref b725), .val (.ref b771), .val (.ref b823), .val (.ref b881), .val (.ref b949), .val (.ref b1036), .val (.int (0 : Int32)), .val (.int (0 : Int32)), .val (.int (0 : Int32)), .val (.int o0), .unset, .unset] []))
    have hz2 : z0 = 2 := hz012.resolve_left c502_1180
    have ho3 : o0 = 0 ∨ o0 = 1 ∨ o0 = 2 := by
      have : o0.toInt = 0 ∨ o0.toInt = 1 ∨ o0.toInt = 2 := by omega
      simp only [own_eq]; exact this
    rcases ho3 with q | q | q
    ·
     rw [q] at hg ⊢
     show own_Ends _ _ _ _ (T1164.setTop (mkF m 529 #[.val (.int x0), .val (.int x1), .val (.int x2), .val (.ref b593), .val (.ref b646), .val (.ref b685), .val (.ref b725), .val (.ref b771), .val (.ref b823), .val (.ref b881), .val (.ref b949), .val (.ref b1036), .val (.int (0 : Int32)), .val (.int (0 : Int32)), .val (.int (0 : Int32)), .val (.int (0 : Int32)), .unset, .unset] []))
     refine own_st (fun t_ => XS.iconst (own_here Y1165) hx rfl (hb hby at_529) ) ?_
     show own_Ends _ _ _ _ (T1164.setTop (mkF m 530 #[.val (.int x0), .val (.int x1), .val (.int x2), .val (.ref b593), .val (.ref b646), .val (.ref b685), .val (.ref b725), .val (.ref b771), .val (.ref b823), .val (.ref b881), .val (.ref b949), .val (.ref b1036), .val (.int (0 : Int32)), .val (.int (0 : Int32)), .val (.int (0 : Int32)), .val (.int (0 : Int32)), .unset, .unset] [(.int (0 : Int32))]))
     refine own_st (fun t_ => XS.iload (own_here Y1165) hx rfl (hb hby at_530) rfl) ?_
     show own_Ends _ _ _ _ (T1164.setTop (mkF m 532 #[.val (.int x0), .val (.int x1), .val (.int x2), .val (.ref b593), .val (.ref b646), .val (.ref b685), .val (.ref b725), .val (.ref b771), .val (.ref b823), .val (.ref b881), .val (.ref b949), .val (.ref b1036), .val (.int (0 : Int32)), .val (.int (0 : Int32)), .val (.int (0 : Int32)), .val (.int (0 : Int32)), .unset, .unset] [(.int (0 : Int32)), (.int (0 : Int32))]))
     refine own_st (fun t_ => XS.icmpYes (own_here Y1165) hx rfl (pc0 := 532) (pc' := 539) rfl (hb hby at_532) rfl (XT.ii_ge_t (by decide)) (by decide) (by decide)) ?_
     show own_Ends _ _ _ _ (T1164.setTop (mkF m 539 #[.val (.int x0), .val (.int x1), .val (.int x2), .val (.ref b593), .val (.ref b646), .val (.ref b685), .val (.ref b725), .val (.ref b771), .val (.ref b823), .val (.ref b881), .val (.ref b949), .val (.ref b1036), .val (.int (0 : Int32)), .val (.int (0 : Int32)), .val (.int (0 : Int32)), .val (.int (0 : Int32)), .unset, .unset] []))
     refine own_st (fun t_ => XS.iconst (own_here Y1165) hx rfl (hb hby at_539) ) ?_
     show own_Ends _ _ _ _ (T1164.setTop (mkF m 540 #[.val (.int x0), .val (.int x1), .val (.int x2), .val (.ref b593), .val (.ref b646), .val (.ref b685), .val (.ref b725), .val (.ref b771), .val (.ref b823), .val (.ref b881), .val (.ref b949), .val (.ref b1036), .val (.int (0 : Int32)), .val (.int (0 : Int32)), .val (.int (0 : Int32)), .val (.int (0 : Int32)), .unset, .unset] [(.int (1 : Int32))]))
     refine own_st (fun t_ => XS.istore (own_here Y1165) hx rfl (hb hby at_540) rfl (l' := #[.val (.int x0), .val (.int x1), .val (.int x2), .val (.ref b593), .val (.ref b646), .val (.ref b685), .val (.ref b725), .val (.ref b771), .val (.ref b823), .val (.ref b881), .val (.ref b949), .val (.ref b1036), .val (.int (0 : Int32)), .val (.int (0 : Int32)), .val (.int (0 : Int32)), .val (.int (0 : Int32)), .val (.int (1 : Int32)), .unset]) rfl) ?_
     show own_Ends _ _ _ _ (T1164.setTop (mkF m 542 #[.val (.int x0), .val (.int x1), .val (.int x2), .val (.ref b593), .val (.ref b646), .val (.ref b685), .val (.ref b725), .val (.ref b771), .val (.ref b823), .val (.ref b881), .val (.ref b949), .val (.ref b1036), .val (.int (0 : Int32)), .val (.int (0 : Int32)), .val (.int (0 : Int32)), .val (.int (0 : Int32)), .val (.int (1 : Int32)), .unset] []))
     refine own_st (fun t_ => XS.iconst (own_here Y1165) hx rfl (hb hby at_542) ) ?_
     show own_Ends _ _ _ _ (T1164.setTop (mkF m 543 #[.val (.int x0), .val (.int x1), .val (.int x2), .val (.ref b593), .val (.ref b646), .val (.ref b685), .val (.ref b725), .val (.ref b771), .val (.ref b823), .val (.ref b881), .val (.ref b949), .val (.ref b1036), .val (.int (0 : Int32)), .val (.int (0 : Int32)), .val (.int (0 : Int32)), .val (.int (0 : Int32)), .val (.int (1 : Int32)), .unset] [(.int (1 : Int32))]))
     refine own_st (fun t_ => XS.iload (own_here Y1165) hx rfl (hb hby at_543) rfl) ?_
     show own_Ends _ _ _ _ (T1164.setTop (mkF m 545 #[.val (.int x0), .val (.int x1), .val (.int x2), .val (.ref b593), .val (.ref b646), .val (.ref b685), .val (.ref b725), .val (.ref b771), .val (.ref b823), .val (.ref b881), .val (.ref b949), .val (.ref b1036), .val (.int (0 : Int32)), .val (.int (0 : Int32)), .val (.int (0 : Int32)), .val (.int (0 : Int32)), .val (.int (1 : Int32)), .unset] [(.int (0 : Int32)), (.int (1 : Int32))]))
     refine own_st (fun t_ => XS.icmpYes (own_here Y1165) hx rfl (pc0 := 545) (pc' := 552) rfl (hb hby at_545) rfl (XT.ii_ge_t (by decide)) (by decide) (by decide)) ?_
     show own_Ends _ _ _ _ (T1164.setTop (mkF m 552 #[.val (.int x0), .val (.int x1), .val (.int x2), .val (.ref b593), .val (.ref b646), .val (.ref b685), .val (.ref b725), .val (.ref b771), .val (.ref b823), .val (.ref b881), .val (.ref b949), .val (.ref b1036), .val (.int (0 : Int32)), .val (.int (0 : Int32)), .val (.int (0 : Int32)), .val (.int (0 : Int32)), .val (.int (1 : Int32)), .unset] []))
     refine own_st (fun t_ => XS.iconst (own_here Y1165) hx rfl (hb hby at_552) ) ?_
     show own_Ends _ _ _ _ (T1164.setTop (mkF m 553 #[.val (.int x0), .val (.int x1), .val (.int x2), .val (.ref b593), .val (.ref b646), .val (.ref b685), .val (.ref b725), .val (.ref b771), .val (.ref b823), .val (.ref b881), .val (.ref b949), .val (.ref b1036), .val (.int (0 : Int32)), .val (.int (0 : Int32)), .val (.int (0 : Int32)), .val (.int (0 : Int32)), .val (.int (1 : Int32)), .unset] [(.int (2 : Int32))]))
     refine own_st (fun t_ => XS.istore (own_here Y1165) hx rfl (hb hby at_553) rfl (l' := #[.val (.int x0), .val (.int x1), .val (.int x2), .val (.ref b593), .val (.ref b646), .val (.ref b685), .val (.ref b725), .val (.ref b771), .val (.ref b823), .val (.ref b881), .val (.ref b949), .val (.ref b1036), .val (.int (0 : Int32)), .val (.int (0 : Int32)), .val (.int (0 : Int32)), .val (.int (0 : Int32)), .val (.int (1 : Int32)), .val (.int (2 : Int32))]) rfl) ?_
     show own_Ends _ _ _ _ (T1164.setTop (mkF m 555 #[.val (.int x0), .val (.int x1), .val (.int x2), .val (.ref b593), .val (.ref b646), .val (.ref b685), .val (.ref b725), .val (.ref b771), .val (.ref b823), .val (.ref b881), .val (.ref b949), .val (.ref b1036), .val (.int (0 : Int32)), .val (.int (0 : Int32)), .val (.int (0 : Int32)), .val (.int (0 : Int32)), .val (.int (1 : Int32)), .val (.int (2 : Int32))] []))
     refine own_st (fun t_ => XS.aload (own_here Y1165) hx rfl (hb hby at_555) rfl rfl) ?_
     show own_Ends _ _ _ _ (T1164.setTop (mkF m 557 #[.val (.int x0), .val (.int x1), .val (.int x2), .val (.ref b593), .val (.ref b646), .val (.ref b685), .val (.ref b725), .val (.ref b771), .val (.ref b823), .val (.ref b881), .val (.ref b949), .val (.ref b1036), .val (.int (0 : Int32)), .val (.int (0 : Int32)), .val (.int (0 : Int32)), .val (.int (0 : Int32)), .val (.int (1 : Int32)), .val (.int (2 : Int32))] [(.ref b1036)]))
     refine own_st (fun t_ => XS.iload (own_here Y1165) hx rfl (hb hby at_557) rfl) ?_
     show own_Ends _ _ _ _ (T1164.setTop (mkF m 559 #[.val (.int x0), .val (.int x1), .val (.int x2), .val (.ref b593), .val (.ref b646), .val (.ref b685), .val (.ref b725), .val (.ref b771), .val (.ref b823), .val (.ref b881), .val (.ref b949), .val (.ref b1036), .val (.int (0 : Int32)), .val (.int (0 : Int32)), .val (.int (0 : Int32)), .val (.int (0 : Int32)), .val (.int (1 : Int32)), .val (.int (2 : Int32))] [(.int (0 : Int32)), (.ref b1036)]))
     refine own_st (fun t_ => XS.iconst (own_here Y1165) hx rfl (hb hby at_559) ) ?_
     show own_Ends _ _ _ _ (T1164.setTop (mkF m 560 #[.val (.int x0), .val (.int x1), .val (.int x2), .val (.ref b593), .val (.ref b646), .val (.ref b685), .val (.ref b725), .val (.ref b771), .val (.ref b823), .val (.ref b881), .val (.ref b949), .val (.ref b1036), .val (.int (0 : Int32)), .val (.int (0 : Int32)), .val (.int (0 : Int32)), .val (.int (0 : Int32)), .val (.int (1 : Int32)), .val (.int (2 : Int32))] [(.int (0 : Int32)), (.int (0 : Int32)), (.ref b1036)]))
     have f1194 : own_A Z h1166 b593 .int [(.int y0), (.int y1), (.int y2), (.int y3), (.int y4), (.int y5), (.int y6), (.int y7), (.int y8)] := f1160.keep K1169 (ninS ne1043 nin0)
     have f1195 : own_A Z h1113 b646 .int [(.int (0 : Int32)), (.int (3 : Int32)), (.int (6 : Int32)), (.int (9 : Int32))] := f1120.ext E1114
     have f1196 : own_A Z h1166 b646 .int [(.int (0 : Int32)), (.int (3 : Int32)), (.int (6 : Int32)), (.int (9 : Int32))] := f1195.keep K1169 (ninS ne1049 nin0)
     have f1197 : own_A Z h1113 b949 .int (w4.map Value.int) := f1132.ext E1114
     have f1198 : own_A Z h1166 b949 .int (w4.map Value.int) := f1197.keep K1169 (ninS ne1068 nin0)
     have f1199 : own_A Z h1113 b881 .int [(.int (0 : Int32)), (.int z0), (.int m2), (.int m3), (.int m4)] := f1130.ext E1114
     have f1200 : own_A Z h1166 b881 .int [(.int (0 : Int32)), (.int z0), (.int m2), (.int m3), (.int m4)] := f1199.keep K1169 (ninS ne1067 nin0)
     have f1206 : Exa Z h1166 b1036 "com/example/tierpath/tierpath/Bounds" := f1139.keep K1169
     refine own_callV Y1165 hx hZ (y := (⟨"com/example/tierpath/tierpath/Bounds", "member", "(II)I"⟩ : MethodName)) (z := (⟨"com/example/tierpath/tierpath/Bounds", "member", "(II)I"⟩ : MethodName)) hown (hw _ (List.mem_of_getElem? (i := 42) rfl)) (hw _ (List.mem_of_getElem? (i := 43) rfl)) (notFace_of_selects (args := #[]) (mvT hZ (hw _ (List.mem_of_getElem? (i := 45) rfl)))) (hw _ (List.mem_of_getElem? (i := 45) rfl)) (hw _ (List.mem_of_getElem? (i := 44) rfl)) (hw _ (List.mem_of_getElem? (i := 7) rfl)) (hw _ (List.mem_of_getElem? (i := 46) rfl)) (by decide) (a := b1036) f1206 (argsL := [(.int (0 : Int32)), (.int (0 : Int32))]) (rest := []) (own_rm6_0 l Z a0 hw [] b1036 (0 : Int32) b593 b646 sl b949 b881 [y0, y1, y2, y3, y4, y5, y6, y7, y8] w4 (0 : Int32) z0 m2 m3 m4 (0 + 0) 1 h1166 n0  F1171 F1170 F1174 F1173 F1172 f1194 f1196 F1175 f1198 f1200 (own_add own_l0 own_l0 (by omega)) (by rw [hwl4]; omega) ((congrArg Int32.toInt (hg.2 hz2).1).trans rfl) (by omega) rfl) (W := 0) (by decide) (by decide) (by decide) (by decide) rfl (by rw [hml]; rfl) (lenOf own_pd3 rfl) rfl (by show 2 * 0 + _ ≤ _; exact Nat.le_of_eq rfl) (hb hby at_560) (fun T1201 h1203 v1204 Y1202 q1205 => ?_)
     obtain ⟨rfl, rfl⟩ := q1205
     show own_Ends _ _ _ _ (T1201.setTop (mkF m 563 #[.val (.int x0), .val (.int x1), .val (.int x2), .val (.ref b593), .val (.ref b646), .val (.ref b685), .val (.ref b725), .val (.ref b771), .val (.ref b823), .val (.ref b881), .val (.ref b949), .val (.ref b1036), .val (.int (0 : Int32)), .val (.int (0 : Int32)), .val (.int (0 : Int32)), .val (.int (0 : Int32)), .val (.int (1 : Int32)), .val (.int (2 : Int32))] [(.int (own_g [y0, y1, y2, y3, y4, y5, y6, y7, y8] (0 + 1)))]))
     refine own_st (fun t_ => XS.aloadN (own_here Y1202) hx rfl (hb hby at_563) rfl rfl) ?_
     show own_Ends _ _ _ _ (T1201.setTop (mkF m 564 #[.val (.int x0), .val (.int x1), .val (.int x2), .val (.ref b593), .val (.ref b646), .val (.ref b685), .val (.ref b725), .val (.ref b771), .val (.ref b823), .val (.ref b881), .val (.ref b949), .val (.ref b1036), .val (.int (0 : Int32)), .val (.int (0 : Int32)), .val (.int (0 : Int32)), .val (.int (0 : Int32)), .val (.int (1 : Int32)), .val (.int (2 : Int32))] [(.ref b593), (.int (own_g [y0, y1, y2, y3, y4, y5, y6, y7, y8] (0 + 1)))]))
     refine own_st (fun t_ => XS.iload (own_here Y1202) hx rfl (hb hby at_564) rfl) ?_
     show own_Ends _ _ _ _ (T1201.setTop (mkF m 566 #[.val (.int x0), .val (.int x1), .val (.int x2), .val (.ref b593), .val (.ref b646), .val (.ref b685), .val (.ref b725), .val (.ref b771), .val (.ref b823), .val (.ref b881), .val (.ref b949), .val (.ref b1036), .val (.int (0 : Int32)), .val (.int (0 : Int32)), .val (.int (0 : Int32)), .val (.int (0 : Int32)), .val (.int (1 : Int32)), .val (.int (2 : Int32))] [(.int (0 : Int32)), (.ref b593), (.int (own_g [y0, y1, y2, y3, y4, y5, y6, y7, y8] (0 + 1)))]))
     refine own_st (fun t_ => XS.iload (own_here Y1202) hx rfl (hb hby at_566) rfl) ?_
     show own_Ends _ _ _ _ (T1201.setTop (mkF m 568 #[.val (.int x0), .val (.int x1), .val (.int x2), .val (.ref b593), .val (.ref b646), .val (.ref b685), .val (.ref b725), .val (.ref b771), .val (.ref b823), .val (.ref b881), .val (.ref b949), .val (.ref b1036), .val (.int (0 : Int32)), .val (.int (0 : Int32)), .val (.int (0 : Int32)), .val (.int (0 : Int32)), .val (.int (1 : Int32)), .val (.int (2 : Int32))] [(.int (1 : Int32)), (.int (0 : Int32)), (.ref b593), (.int (own_g [y0, y1, y2, y3, y4, y5, y6, y7, y8] (0 + 1)))]))
     refine own_st (fun t_ => XS.iadd (own_here Y1202) hx rfl (hb hby at_568) rfl) ?_
     show own_Ends _ _ _ _ (T1201.setTop (mkF m 569 #[.val (.int x0), .val (.int x1), .val (.int x2), .val (.ref b593), .val (.ref b646), .val (.ref b685), .val (.ref b725), .val (.ref b771), .val (.ref b823), .val (.ref b881), .val (.ref b949), .val (.ref b1036), .val (.int (0 : Int32)), .val (.int (0 : Int32)), .val (.int (0 : Int32)), .val (.int (0 : Int32)), .val (.int (1 : Int32)), .val (.int (2 : Int32))] [(.int (1 : Int32)), (.ref b593), (.int (own_g [y0, y1, y2, y3, y4, y5, y6, y7, y8] (0 + 1)))]))
     refine own_ldI Y1202 hx hZ f1194 (i := 1) (by decide) (by decide) (Nat.le_of_ble_eq_true rfl) (v := (.int y1)) rfl rfl rfl (hb hby at_569) ?_
     show own_Ends _ _ _ _ (T1201.setTop (mkF m 570 #[.val (.int x0), .val (.int x1), .val (.int x2), .val (.ref b593), .val (.ref b646), .val (.ref b685), .val (.ref b725), .val (.ref b771), .val (.ref b823), .val (.ref b881), .val (.ref b949), .val (.ref b1036), .val (.int (0 : Int32)), .val (.int (0 : Int32)), .val (.int (0 : Int32)), .val (.int (0 : Int32)), .val (.int (1 : Int32)), .val (.int (2 : Int32))] [(.int y1), (.int (own_g [y0, y1, y2, y3, y4, y5, y6, y7, y8] (0 + 1)))]))
     refine own_st (fun t_ => XS.icmpNo (own_here Y1202) hx rfl (hb hby at_570) rfl (XT.ii_ne_f rfl)) ?_
     show own_Ends _ _ _ _ (T1201.setTop (mkF m 573 #[.val (.int x0), .val (.int x1), .val (.int x2), .val (.ref b593), .val (.ref b646), .val (.ref b685), .val (.ref b725), .val (.ref b771), .val (.ref b823), .val (.ref b881), .val (.ref b949), .val (.ref b1036), .val (.int (0 : Int32)), .val (.int (0 : Int32)), .val (.int (0 : Int32)), .val (.int (0 : Int32)), .val (.int (1 : Int32)), .val (.int (2 : Int32))] []))
     refine own_st (fun t_ => XS.aload (own_here Y1202) hx rfl (hb hby at_573) rfl rfl) ?_
     show own_Ends _ _ _ _ (T1201.setTop (mkF m 575 #[.val (.int x0), .val (.int x1), .val (.int x2), .val (.ref b593), .val (.ref b646), .val (.ref b685), .val (.ref b725), .val (.ref b771), .val (.ref b823), .val (.ref b881), .val (.ref b949), .val (.ref b1036), .val (.int (0 : Int32)), .val (.int (0 : Int32)), .val (.int (0 : Int32)), .val (.int (0 : Int32)), .val (.int (1 : Int32)), .val (.int (2 : Int32))] [(.ref b1036)]))
     refine own_st (fun t_ => XS.iload (own_here Y1202) hx rfl (hb hby at_575) rfl) ?_
     show own_Ends _ _ _ _ (T1201.setTop (mkF m 577 #[.val (.int x0), .val (.int x1), .val (.int x2), .val (.ref b593), .val (.ref b646), .val (.ref b685), .val (.ref b725), .val (.ref b771), .val (.ref b823), .val (.ref b881), .val (.ref b949), .val (.ref b1036), .val (.int (0 : Int32)), .val (.int (0 : Int32)), .val (.int (0 : Int32)), .val (.int (0 : Int32)), .val (.int (1 : Int32)), .val (.int (2 : Int32))] [(.int (0 : Int32)), (.ref b1036)]))
     refine own_st (fun t_ => XS.iconst (own_here Y1202) hx rfl (hb hby at_577) ) ?_
     show own_Ends _ _ _ _ (T1201.setTop (mkF m 578 #[.val (.int x0), .val (.int x1), .val (.int x2), .val (.ref b593), .val (.ref b646), .val (.ref b685), .val (.ref b725), .val (.ref b771), .val (.ref b823), .val (.ref b881), .val (.ref b949), .val (.ref b1036), .val (.int (0 : Int32)), .val (.int (0 : Int32)), .val (.int (0 : Int32)), .val (.int (0 : Int32)), .val (.int (1 : Int32)), .val (.int (2 : Int32))] [(.int (1 : Int32)), (.int (0 : Int32)), (.ref b1036)]))
     refine own_callV Y1202 hx hZ (y := (⟨"com/example/tierpath/tierpath/Bounds", "member", "(II)I"⟩ : MethodName)) (z := (⟨"com/example/tierpath/tierpath/Bounds", "member", "(II)I"⟩ : MethodName)) hown (hw _ (List.mem_of_getElem? (i := 42) rfl)) (hw _ (List.mem_of_getElem? (i := 43) rfl)) (notFace_of_selects (args := #[]) (mvT hZ (hw _ (List.mem_of_getElem? (i := 45) rfl)))) (hw _ (List.mem_of_getElem? (i := 45) rfl)) (hw _ (List.mem_of_getElem? (i := 44) rfl)) (hw _ (List.mem_of_getElem? (i := 7) rfl)) (hw _ (List.mem_of_getElem? (i := 46) rfl)) (by decide) (a := b1036) f1206 (argsL := [(.int (0 : Int32)), (.int (1 : Int32))]) (rest := []) (own_rm6_0 l Z a0 hw [] b1036 (1 : Int32) b593 b646 sl b949 b881 [y0, y1, y2, y3, y4, y5, y6, y7, y8] w4 (0 : Int32) z0 m2 m3 m4 (0 + 1) 2 h1166 n0  F1171 F1170 F1174 F1173 F1172 f1194 f1196 F1175 f1198 f1200 (own_add own_l0 own_l1 (by omega)) (by rw [hwl4]; omega) ((congrArg Int32.toInt (hg.2 hz2).2).trans rfl) (by omega) rfl) (W := 0) (by decide) (by decide) (by decide) (by decide) rfl (by rw [hml]; rfl) (lenOf own_pd3 rfl) rfl (by show 2 * 0 + _ ≤ _; exact Nat.le_of_eq rfl) (hb hby at_578) (fun T1207 h1209 v1210 Y1208 q1211 => ?_)
     obtain ⟨rfl, rfl⟩ := q1211
     show own_Ends _ _ _ _ (T1207.setTop (mkF m 581 #[.val (.int x0), .val (.int x1), .val (.int x2), .val (.ref b593), .val (.ref b646), .val (.ref b685), .val (.ref b725), .val (.ref b771), .val (.ref b823), .val (.ref b881), .val (.ref b949), .val (.ref b1036), .val (.int (0 : Int32)), .val (.int (0 : Int32)), .val (.int (0 : Int32)), .val (.int (0 : Int32)), .val (.int (1 : Int32)), .val (.int (2 : Int32))] [(.int (own_g [y0, y1, y2, y3, y4, y5, y6, y7, y8] (0 + 2)))]))
     refine own_st (fun t_ => XS.aloadN (own_here Y1208) hx rfl (hb hby at_581) rfl rfl) ?_
     show own_Ends _ _ _ _ (T1207.setTop (mkF m 582 #[.val (.int x0), .val (.int x1), .val (.int x2), .val (.ref b593), .val (.ref b646), .val (.ref b685), .val (.ref b725), .val (.ref b771), .val (.ref b823), .val (.ref b881), .val (.ref b949), .val (.ref b1036), .val (.int (0 : Int32)), .val (.int (0 : Int32)), .val (.int (0 : Int32)), .val (.int (0 : Int32)), .val (.int (1 : Int32)), .val (.int (2 : Int32))] [(.ref b593), (.int (own_g [y0, y1, y2, y3, y4, y5, y6, y7, y8] (0 + 2)))]))
     refine own_st (fun t_ => XS.iload (own_here Y1208) hx rfl (hb hby at_582) rfl) ?_
     show own_Ends _ _ _ _ (T1207.setTop (mkF m 584 #[.val (.int x0), .val (.int x1), .val (.int x2), .val (.ref b593), .val (.ref b646), .val (.ref b685), .val (.ref b725), .val (.ref b771), .val (.ref b823), .val (.ref b881), .val (.ref b949), .val (.ref b1036), .val (.int (0 : Int32)), .val (.int (0 : Int32)), .val (.int (0 : Int32)), .val (.int (0 : Int32)), .val (.int (1 : Int32)), .val (.int (2 : Int32))] [(.int (0 : Int32)), (.ref b593), (.int (own_g [y0, y1, y2, y3, y4, y5, y6, y7, y8] (0 + 2)))]))
     refine own_st (fun t_ => XS.iload (own_here Y1208) hx rfl (hb hby at_584) rfl) ?_
     show own_Ends _ _ _ _ (T1207.setTop (mkF m 586 #[.val (.int x0), .val (.int x1), .val (.int x2), .val (.ref b593), .val (.ref b646), .val (.ref b685), .val (.ref b725), .val (.ref b771), .val (.ref b823), .val (.ref b881), .val (.ref b949), .val (.ref b1036), .val (.int (0 : Int32)), .val (.int (0 : Int32)), .val (.int (0 : Int32)), .val (.int (0 : Int32)), .val (.int (1 : Int32)), .val (.int (2 : Int32))] [(.int (2 : Int32)), (.int (0 : Int32)), (.ref b593), (.int (own_g [y0, y1, y2, y3, y4, y5, y6, y7, y8] (0 + 2)))]))
     refine own_st (fun t_ => XS.iadd (own_here Y1208) hx rfl (hb hby at_586) rfl) ?_
     show own_Ends _ _ _ _ (T1207.setTop (mkF m 587 #[.val (.int x0), .val (.int x1), .val (.int x2), .val (.ref b593), .val (.ref b646), .val (.ref b685), .val (.ref b725), .val (.ref b771), .val (.ref b823), .val (.ref b881), .val (.ref b949), .val (.ref b1036), .val (.int (0 : Int32)), .val (.int (0 : Int32)), .val (.int (0 : Int32)), .val (.int (0 : Int32)), .val (.int (1 : Int32)), .val (.int (2 : Int32))] [(.int (2 : Int32)), (.ref b593), (.int (own_g [y0, y1, y2, y3, y4, y5, y6, y7, y8] (0 + 2)))]))
     refine own_ldI Y1208 hx hZ f1194 (i := 2) (by decide) (by decide) (Nat.le_of_ble_eq_true rfl) (v := (.int y2)) rfl rfl rfl (hb hby at_587) ?_
     show own_Ends _ _ _ _ (T1207.setTop (mkF m 588 #[.val (.int x0), .val (.int x1), .val (.int x2), .val (.ref b593), .val (.ref b646), .val (.ref b685), .val (.ref b725), .val (.ref b771), .val (.ref b823), .val (.ref b881), .val (.ref b949), .val (.ref b1036), .val (.int (0 : Int32)), .val (.int (0 : Int32)), .val (.int (0 : Int32)), .val (.int (0 : Int32)), .val (.int (1 : Int32)), .val (.int (2 : Int32))] [(.int y2), (.int (own_g [y0, y1, y2, y3, y4, y5, y6, y7, y8] (0 + 2)))]))
     refine own_st (fun t_ => XS.icmpNo (own_here Y1208) hx rfl (hb hby at_588) rfl (XT.ii_ne_f rfl)) ?_
     show own_Ends _ _ _ _ (T1207.setTop (mkF m 591 #[.val (.int x0), .val (.int x1), .val (.int x2), .val (.ref b593), .val (.ref b646), .val (.ref b685), .val (.ref b725), .val (.ref b771), .val (.ref b823), .val (.ref b881), .val (.ref b949), .val (.ref b1036), .val (.int (0 : Int32)), .val (.int (0 : Int32)), .val (.int (0 : Int32)), .val (.int (0 : Int32)), .val (.int (1 : Int32)), .val (.int (2 : Int32))] []))
     refine own_st (fun t_ => XS.iconst (own_here Y1208) hx rfl (hb hby at_591) ) ?_
     show own_Ends _ _ _ _ (T1207.setTop (mkF m 592 #[.val (.int x0), .val (.int x1), .val (.int x2), .val (.ref b593), .val (.ref b646), .val (.ref b685), .val (.ref b725), .val (.ref b771), .val (.ref b823), .val (.ref b881), .val (.ref b949), .val (.ref b1036), .val (.int (0 : Int32)), .val (.int (0 : Int32)), .val (.int (0 : Int32)), .val (.int (0 : Int32)), .val (.int (1 : Int32)), .val (.int (2 : Int32))] [(.int (1 : Int32))]))
     refine own_st (fun t_ => XS.goto (own_here Y1208) hx rfl (pc0 := 592) (pc' := 596) rfl (hb hby at_592) (by decide) (by decide)) ?_
     show own_Ends _ _ _ _ (T1207.setTop (mkF m 596 #[.val (.int x0), .val (.int x1), .val (.int x2), .val (.ref b593), .val (.ref b646), .val (.ref b685), .val (.ref b725), .val (.ref b771), .val (.ref b823), .val (.ref b881), .val (.ref b949), .val (.ref b1036), .val (.int (0 : Int32)), .val (.int (0 : Int32)), .val (.int (0 : Int32)), .val (.int (0 : Int32)), .val (.int (1 : Int32)), .val (.int (2 : Int32))] [(.int (1 : Int32))]))
     refine own_retN Y1208 hx hlk (t := .boolean) hret (by simp) (hb hby at_596) (by decide) (by decide) ?_
     exact rfl
    ·
     rw [q] at hg ⊢
     show own_Ends _ _ _ _ (T1164.setTop (mkF m 529 #[.val (.int x0), .val (.int x1), .val (.int x2), .val (.ref b593), .val (.ref b646), .val (.ref b685), .val (.ref b725), .val (.ref b771), .val (.ref b823), .val (.ref b881), .val (.ref b949), .val (.ref b1036), .val (.int (0 : Int32)), .val (.int (0 : Int32)), .val (.int (0 : Int32)), .val (.int (1 : Int32)), .unset, .unset] []))
     refine own_st (fun t_ => XS.iconst (own_here Y1165) hx rfl (hb hby at_529) ) ?_
     show own_Ends _ _ _ _ (T1164.setTop (mkF m 530 #[.val (.int x0), .val (.int x1), .val (.int x2), .val (.ref b593), .val (.ref b646), .val (.ref b685), .val (.ref b725), .val (.ref b771), .val (.ref b823), .val (.ref b881), .val (.ref b949), .val (.ref b1036), .val (.int (0 : Int32)), .val (.int (0 : Int32)), .val (.int (0 : Int32)), .val (.int (1 : Int32)), .unset, .unset] [(.int (0 : Int32))]))
     refine own_st (fun t_ => XS.iload (own_here Y1165) hx rfl (hb hby at_530) rfl) ?_
     show own_Ends _ _ _ _ (T1164.setTop (mkF m 532 #[.val (.int x0), .val (.int x1), .val (.int x2), .val (.ref b593), .val (.ref b646), .val (.ref b685), .val (.ref b725), .val (.ref b771), .val (.ref b823), .val (.ref b881), .val (.ref b949), .val (.ref b1036), .val (.int (0 : Int32)), .val (.int (0 : Int32)), .val (.int (0 : Int32)), .val (.int (1 : Int32)), .unset, .unset] [(.int (1 : Int32)), (.int (0 : Int32))]))
     refine own_st (fun t_ => XS.icmpNo (own_here Y1165) hx rfl (hb hby at_532) rfl (XT.ii_ge_f (by decide))) ?_
     show own_Ends _ _ _ _ (T1164.setTop (mkF m 535 #[.val (.int x0), .val (.int x1), .val (.int x2), .val (.ref b593), .val (.ref b646), .val (.ref b685), .val (.ref b725), .val (.ref b771), .val (.ref b823), .val (.ref b881), .val (.ref b949), .val (.ref b1036), .val (.int (0 : Int32)), .val (.int (0 : Int32)), .val (.int (0 : Int32)), .val (.int (1 : Int32)), .unset, .unset] []))
     refine own_st (fun t_ => XS.iconst (own_here Y1165) hx rfl (hb hby at_535) ) ?_
     show own_Ends _ _ _ _ (T1164.setTop (mkF m 536 #[.val (.int x0), .val (.int x1), .val (.int x2), .val (.ref b593), .val (.ref b646), .val (.ref b685), .val (.ref b725), .val (.ref b771), .val (.ref b823), .val (.ref b881), .val (.ref b949), .val (.ref b1036), .val (.int (0 : Int32)), .val (.int (0 : Int32)), .val (.int (0 : Int32)), .val (.int (1 : Int32)), .unset, .unset] [(.int (0 : Int32))]))
     refine own_st (fun t_ => XS.goto (own_here Y1165) hx rfl (pc0 := 536) (pc' := 540) rfl (hb hby at_536) (by decide) (by decide)) ?_
     show own_Ends _ _ _ _ (T1164.setTop (mkF m 540 #[.val (.int x0), .val (.int x1), .val (.int x2), .val (.ref b593), .val (.ref b646), .val (.ref b685), .val (.ref b725), .val (.ref b771), .val (.ref b823), .val (.ref b881), .val (.ref b949), .val (.ref b1036), .val (.int (0 : Int32)), .val (.int (0 : Int32)), .val (.int (0 : Int32)), .val (.int (1 : Int32)), .unset, .unset] [(.int (0 : Int32))]))
     refine own_st (fun t_ => XS.istore (own_here Y1165) hx rfl (hb hby at_540) rfl (l' := #[.val (.int x0), .val (.int x1), .val (.int x2), .val (.ref b593), .val (.ref b646), .val (.ref b685), .val (.ref b725), .val (.ref b771), .val (.ref b823), .val (.ref b881), .val (.ref b949), .val (.ref b1036), .val (.int (0 : Int32)), .val (.int (0 : Int32)), .val (.int (0 : Int32)), .val (.int (1 : Int32)), .val (.int (0 : Int32)), .unset]) rfl) ?_
     show own_Ends _ _ _ _ (T1164.setTop (mkF m 542 #[.val (.int x0), .val (.int x1), .val (.int x2), .val (.ref b593), .val (.ref b646), .val (.ref b685), .val (.ref b725), .val (.ref b771), .val (.ref b823), .val (.ref b881), .val (.ref b949), .val (.ref b1036), .val (.int (0 : Int32)), .val (.int (0 : Int32)), .val (.int (0 : Int32)), .val (.int (1 : Int32)), .val (.int (0 : Int32)), .unset] []))
     refine own_st (fun t_ => XS.iconst (own_here Y1165) hx rfl (hb hby at_542) ) ?_
     show own_Ends _ _ _ _ (T1164.setTop (mkF m 543 #[.val (.int x0), .val (.int x1), .val (.int x2), .val (.ref b593), .val (.ref b646), .val (.ref b685), .val (.ref b725), .val (.ref b771), .val (.ref b823), .val (.ref b881), .val (.ref b949), .val (.ref b1036), .val (.int (0 : Int32)), .val (.int (0 : Int32)), .val (.int (0 : Int32)), .val (.int (1 : Int32)), .val (.int (0 : Int32)), .unset] [(.int (1 : Int32))]))
     refine own_st (fun t_ => XS.iload (own_here Y1165) hx rfl (hb hby at_543) rfl) ?_
     show own_Ends _ _ _ _ (T1164.setTop (mkF m 545 #[.val (.int x0), .val (.int x1), .val (.int x2), .val (.ref b593), .val (.ref b646), .val (.ref b685), .val (.ref b725), .val (.ref b771), .val (.ref b823), .val (.ref b881), .val (.ref b949), .val (.ref b1036), .val (.int (0 : Int32)), .val (.int (0 : Int32)), .val (.int (0 : Int32)), .val (.int (1 : Int32)), .val (.int (0 : Int32)), .unset] [(.int (1 : Int32)), (.int (1 : Int32))]))
     refine own_st (fun t_ => XS.icmpYes (own_here Y1165) hx rfl (pc0 := 545) (pc' := 552) rfl (hb hby at_545) rfl (XT.ii_ge_t (by decide)) (by decide) (by decide)) ?_
     show own_Ends _ _ _ _ (T1164.setTop (mkF m 552 #[.val (.int x0), .val (.int x1), .val (.int x2), .val (.ref b593), .val (.ref b646), .val (.ref b685), .val (.ref b725), .val (.ref b771), .val (.ref b823), .val (.ref b881), .val (.ref b949), .val (.ref b1036), .val (.int (0 : Int32)), .val (.int (0 : Int32)), .val (.int (0 : Int32)), .val (.int (1 : Int32)), .val (.int (0 : Int32)), .unset] []))
     refine own_st (fun t_ => XS.iconst (own_here Y1165) hx rfl (hb hby at_552) ) ?_
     show own_Ends _ _ _ _ (T1164.setTop (mkF m 553 #[.val (.int x0), .val (.int x1), .val (.int x2), .val (.ref b593), .val (.ref b646), .val (.ref b685), .val (.ref b725), .val (.ref b771), .val (.ref b823), .val (.ref b881), .val (.ref b949), .val (.ref b1036), .val (.int (0 : Int32)), .val (.int (0 : Int32)), .val (.int (0 : Int32)), .val (.int (1 : Int32)), .val (.int (0 : Int32)), .unset] [(.int (2 : Int32))]))
     refine own_st (fun t_ => XS.istore (own_here Y1165) hx rfl (hb hby at_553) rfl (l' := #[.val (.int x0), .val (.int x1), .val (.int x2), .val (.ref b593), .val (.ref b646), .val (.ref b685), .val (.ref b725), .val (.ref b771), .val (.ref b823), .val (.ref b881), .val (.ref b949), .val (.ref b1036), .val (.int (0 : Int32)), .val (.int (0 : Int32)), .val (.int (0 : Int32)), .val (.int (1 : Int32)), .val (.int (0 : Int32)), .val (.int (2 : Int32))]) rfl) ?_
     show own_Ends _ _ _ _ (T1164.setTop (mkF m 555 #[.val (.int x0), .val (.int x1), .val (.int x2), .val (.ref b593), .val (.ref b646), .val (.ref b685), .val (.ref b725), .val (.ref b771), .val (.ref b823), .val (.ref b881), .val (.ref b949), .val (.ref b1036), .val (.int (0 : Int32)), .val (.int (0 : Int32)), .val (.int (0 : Int32)), .val (.int (1 : Int32)), .val (.int (0 : Int32)), .val (.int (2 : Int32))] []))
     refine own_st (fun t_ => XS.aload (own_here Y1165) hx rfl (hb hby at_555) rfl rfl) ?_
     show own_Ends _ _ _ _ (T1164.setTop (mkF m 557 #[.val (.int x0), .val (.int x1), .val (.int x2), .val (.ref b593), .val (.ref b646), .val (.ref b685), .val (.ref b725), .val (.ref b771), .val (.ref b823), .val (.ref b881), .val (.ref b949), .val (.ref b1036), .val (.int (0 : Int32)), .val (.int (0 : Int32)), .val (.int (0 : Int32)), .val (.int (1 : Int32)), .val (.int (0 : Int32)), .val (.int (2 : Int32))] [(.ref b1036)]))
     refine own_st (fun t_ => XS.iload (own_here Y1165) hx rfl (hb hby at_557) rfl) ?_
     show own_Ends _ _ _ _ (T1164.setTop (mkF m 559 #[.val (.int x0), .val (.int x1), .val (.int x2), .val (.ref b593), .val (.ref b646), .val (.ref b685), .val (.ref b725), .val (.ref b771), .val (.ref b823), .val (.ref b881), .val (.ref b949), .val (.ref b1036), .val (.int (0 : Int32)), .val (.int (0 : Int32)), .val (.int (0 : Int32)), .val (.int (1 : Int32)), .val (.int (0 : Int32)), .val (.int (2 : Int32))] [(.int (0 : Int32)), (.ref b1036)]))
     refine own_st (fun t_ => XS.iconst (own_here Y1165) hx rfl (hb hby at_559) ) ?_
     show own_Ends _ _ _ _ (T1164.setTop (mkF m 560 #[.val (.int x0), .val (.int x1), .val (.int x2), .val (.ref b593), .val (.ref b646), .val (.ref b685), .val (.ref b725), .val (.ref b771), .val (.ref b823), .val (.ref b881), .val (.ref b949), .val (.ref b1036), .val (.int (0 : Int32)), .val (.int (0 : Int32)), .val (.int (0 : Int32)), .val (.int (1 : Int32)), .val (.int (0 : Int32)), .val (.int (2 : Int32))] [(.int (0 : Int32)), (.int (0 : Int32)), (.ref b1036)]))
     have f1212 : own_A Z h1166 b593 .int [(.int y0), (.int y1), (.int y2), (.int y3), (.int y4), (.int y5), (.int y6), (.int y7), (.int y8)] := f1160.keep K1169 (ninS ne1043 nin0)
     have f1213 : own_A Z h1113 b646 .int [(.int (0 : Int32)), (.int (3 : Int32)), (.int (6 : Int32)), (.int (9 : Int32))] := f1120.ext E1114
     have f1214 : own_A Z h1166 b646 .int [(.int (0 : Int32)), (.int (3 : Int32)), (.int (6 : Int32)), (.int (9 : Int32))] := f1213.keep K1169 (ninS ne1049 nin0)
     have f1215 : own_A Z h1113 b949 .int (w4.map Value.int) := f1132.ext E1114
     have f1216 : own_A Z h1166 b949 .int (w4.map Value.int) := f1215.keep K1169 (ninS ne1068 nin0)
     have f1217 : own_A Z h1113 b881 .int [(.int (0 : Int32)), (.int z0), (.int m2), (.int m3), (.int m4)] := f1130.ext E1114
     have f1218 : own_A Z h1166 b881 .int [(.int (0 : Int32)), (.int z0), (.int m2), (.int m3), (.int m4)] := f1217.keep K1169 (ninS ne1067 nin0)
     have f1224 : Exa Z h1166 b1036 "com/example/tierpath/tierpath/Bounds" := f1139.keep K1169
     refine own_callV Y1165 hx hZ (y := (⟨"com/example/tierpath/tierpath/Bounds", "member", "(II)I"⟩ : MethodName)) (z := (⟨"com/example/tierpath/tierpath/Bounds", "member", "(II)I"⟩ : MethodName)) hown (hw _ (List.mem_of_getElem? (i := 42) rfl)) (hw _ (List.mem_of_getElem? (i := 43) rfl)) (notFace_of_selects (args := #[]) (mvT hZ (hw _ (List.mem_of_getElem? (i := 45) rfl)))) (hw _ (List.mem_of_getElem? (i := 45) rfl)) (hw _ (List.mem_of_getElem? (i := 44) rfl)) (hw _ (List.mem_of_getElem? (i := 7) rfl)) (hw _ (List.mem_of_getElem? (i := 46) rfl)) (by decide) (a := b1036) f1224 (argsL := [(.int (0 : Int32)), (.int (0 : Int32))]) (rest := []) (own_rm6_0 l Z a0 hw [] b1036 (0 : Int32) b593 b646 sl b949 b881 [y0, y1, y2, y3, y4, y5, y6, y7, y8] w4 (0 : Int32) z0 m2 m3 m4 (0 + 0) 0 h1166 n0  F1171 F1170 F1174 F1173 F1172 f1212 f1214 F1175 f1216 f1218 (own_add own_l0 own_l0 (by omega)) (by rw [hwl4]; omega) ((congrArg Int32.toInt (hg.2 hz2).1).trans rfl) (by omega) rfl) (W := 0) (by decide) (by decide) (by decide) (by decide) rfl (by rw [hml]; rfl) (lenOf own_pd3 rfl) rfl (by show 2 * 0 + _ ≤ _; exact Nat.le_of_eq rfl) (hb hby at_560) (fun T1219 h1221 v1222 Y1220 q1223 => ?_)
     obtain ⟨rfl, rfl⟩ := q1223
     show own_Ends _ _ _ _ (T1219.setTop (mkF m 563 #[.val (.int x0), .val (.int x1), .val (.int x2), .val (.ref b593), .val (.ref b646), .val (.ref b685), .val (.ref b725), .val (.ref b771), .val (.ref b823), .val (.ref b881), .val (.ref b949), .val (.ref b1036), .val (.int (0 : Int32)), .val (.int (0 : Int32)), .val (.int (0 : Int32)), .val (.int (1 : Int32)), .val (.int (0 : Int32)), .val (.int (2 : Int32))] [(.int (own_g [y0, y1, y2, y3, y4, y5, y6, y7, y8] (0 + 0)))]))
     refine own_st (fun t_ => XS.aloadN (own_here Y1220) hx rfl (hb hby at_563) rfl rfl) ?_
     show own_Ends _ _ _ _ (T1219.setTop (mkF m 564 #[.val (.int x0), .val (.int x1), .val (.int x2), .val (.ref b593), .val (.ref b646), .val (.ref b685), .val (.ref b725), .val (.ref b771), .val (.ref b823), .val (.ref b881), .val (.ref b949), .val (.ref b1036), .val (.int (0 : Int32)), .val (.int (0 : Int32)), .val (.int (0 : Int32)), .val (.int (1 : Int32)), .val (.int (0 : Int32)), .val (.int (2 : Int32))] [(.ref b593), (.int (own_g [y0, y1, y2, y3, y4, y5, y6, y7, y8] (0 + 0)))]))
     refine own_st (fun t_ => XS.iload (own_here Y1220) hx rfl (hb hby at_564) rfl) ?_
     show own_Ends _ _ _ _ (T1219.setTop (mkF m 566 #[.val (.int x0), .val (.int x1), .val (.int x2), .val (.ref b593), .val (.ref b646), .val (.ref b685), .val (.ref b725), .val (.ref b771), .val (.ref b823), .val (.ref b881), .val (.ref b949), .val (.ref b1036), .val (.int (0 : Int32)), .val (.int (0 : Int32)), .val (.int (0 : Int32)), .val (.int (1 : Int32)), .val (.int (0 : Int32)), .val (.int (2 : Int32))] [(.int (0 : Int32)), (.ref b593), (.int (own_g [y0, y1, y2, y3, y4, y5, y6, y7, y8] (0 + 0)))]))
     refine own_st (fun t_ => XS.iload (own_here Y1220) hx rfl (hb hby at_566) rfl) ?_
     show own_Ends _ _ _ _ (T1219.setTop (mkF m 568 #[.val (.int x0), .val (.int x1), .val (.int x2), .val (.ref b593), .val (.ref b646), .val (.ref b685), .val (.ref b725), .val (.ref b771), .val (.ref b823), .val (.ref b881), .val (.ref b949), .val (.ref b1036), .val (.int (0 : Int32)), .val (.int (0 : Int32)), .val (.int (0 : Int32)), .val (.int (1 : Int32)), .val (.int (0 : Int32)), .val (.int (2 : Int32))] [(.int (0 : Int32)), (.int (0 : Int32)), (.ref b593), (.int (own_g [y0, y1, y2, y3, y4, y5, y6, y7, y8] (0 + 0)))]))
     refine own_st (fun t_ => XS.iadd (own_here Y1220) hx rfl (hb hby at_568) rfl) ?_
     show own_Ends _ _ _ _ (T1219.setTop (mkF m 569 #[.val (.int x0), .val (.int x1), .val (.int x2), .val (.ref b593), .val (.ref b646), .val (.ref b685), .val (.ref b725), .val (.ref b771), .val (.ref b823), .val (.ref b881), .val (.ref b949), .val (.ref b1036), .val (.int (0 : Int32)), .val (.int (0 : Int32)), .val (.int (0 : Int32)), .val (.int (1 : Int32)), .val (.int (0 : Int32)), .val (.int (2 : Int32))] [(.int (0 : Int32)), (.ref b593), (.int (own_g [y0, y1, y2, y3, y4, y5, y6, y7, y8] (0 + 0)))]))
     refine own_ldI Y1220 hx hZ f1212 (i := 0) (by decide) (by decide) (Nat.le_of_ble_eq_true rfl) (v := (.int y0)) rfl rfl rfl (hb hby at_569) ?_
     show own_Ends _ _ _ _ (T1219.setTop (mkF m 570 #[.val (.int x0), .val (.int x1), .val (.int x2), .val (.ref b593), .val (.ref b646), .val (.ref b685), .val (.ref b725), .val (.ref b771), .val (.ref b823), .val (.ref b881), .val (.ref b949), .val (.ref b1036), .val (.int (0 : Int32)), .val (.int (0 : Int32)), .val (.int (0 : Int32)), .val (.int (1 : Int32)), .val (.int (0 : Int32)), .val (.int (2 : Int32))] [(.int y0), (.int (own_g [y0, y1, y2, y3, y4, y5, y6, y7, y8] (0 + 0)))]))
     refine own_st (fun t_ => XS.icmpNo (own_here Y1220) hx rfl (hb hby at_570) rfl (XT.ii_ne_f rfl)) ?_
     show own_Ends _ _ _ _ (T1219.setTop (mkF m 573 #[.val (.int x0), .val (.int x1), .val (.int x2), .val (.ref b593), .val (.ref b646), .val (.ref b685), .val (.ref b725), .val (.ref b771), .val (.ref b823), .val (.ref b881), .val (.ref b949), .val (.ref b1036), .val (.int (0 : Int32)), .val (.int (0 : Int32)), .val (.int (0 : Int32)), .val (.int (1 : Int32)), .val (.int (0 : Int32)), .val (.int (2 : Int32))] []))
     refine own_st (fun t_ => XS.aload (own_here Y1220) hx rfl (hb hby at_573) rfl rfl) ?_
     show own_Ends _ _ _ _ (T1219.setTop (mkF m 575 #[.val (.int x0), .val (.int x1), .val (.int x2), .val (.ref b593), .val (.ref b646), .val (.ref b685), .val (.ref b725), .val (.ref b771), .val (.ref b823), .val (.ref b881), .val (.ref b949), .val (.ref b1036), .val (.int (0 : Int32)), .val (.int (0 : Int32)), .val (.int (0 : Int32)), .val (.int (1 : Int32)), .val (.int (0 : Int32)), .val (.int (2 : Int32))] [(.ref b1036)]))
     refine own_st (fun t_ => XS.iload (own_here Y1220) hx rfl (hb hby at_575) rfl) ?_
     show own_Ends _ _ _ _ (T1219.setTop (mkF m 577 #[.val (.int x0), .val (.int x1), .val (.int x2), .val (.ref b593), .val (.ref b646), .val (.ref b685), .val (.ref b725), .val (.ref b771), .val (.ref b823), .val (.ref b881), .val (.ref b949), .val (.ref b1036), .val (.int (0 : Int32)), .val (.int (0 : Int32)), .val (.int (0 : Int32)), .val (.int (1 : Int32)), .val (.int (0 : Int32)), .val (.int (2 : Int32))] [(.int (0 : Int32)), (.ref b1036)]))
     refine own_st (fun t_ => XS.iconst (own_here Y1220) hx rfl (hb hby at_577) ) ?_
     show own_Ends _ _ _ _ (T1219.setTop (mkF m 578 #[.val (.int x0), .val (.int x1), .val (.int x2), .val (.ref b593), .val (.ref b646), .val (.ref b685), .val (.ref b725), .val (.ref b771), .val (.ref b823), .val (.ref b881), .val (.ref b949), .val (.ref b1036), .val (.int (0 : Int32)), .val (.int (0 : Int32)), .val (.int (0 : Int32)), .val (.int (1 : Int32)), .val (.int (0 : Int32)), .val (.int (2 : Int32))] [(.int (1 : Int32)), (.int (0 : Int32)), (.ref b1036)]))
     refine own_callV Y1220 hx hZ (y := (⟨"com/example/tierpath/tierpath/Bounds", "member", "(II)I"⟩ : MethodName)) (z := (⟨"com/example/tierpath/tierpath/Bounds", "member", "(II)I"⟩ : MethodName)) hown (hw _ (List.mem_of_getElem? (i := 42) rfl)) (hw _ (List.mem_of_getElem? (i := 43) rfl)) (notFace_of_selects (args := #[]) (mvT hZ (hw _ (List.mem_of_getElem? (i := 45) rfl)))) (hw _ (List.mem_of_getElem? (i := 45) rfl)) (hw _ (List.mem_of_getElem? (i := 44) rfl)) (hw _ (List.mem_of_getElem? (i := 7) rfl)) (hw _ (List.mem_of_getElem? (i := 46) rfl)) (by decide) (a := b1036) f1224 (argsL := [(.int (0 : Int32)), (.int (1 : Int32))]) (rest := []) (own_rm6_0 l Z a0 hw [] b1036 (1 : Int32) b593 b646 sl b949 b881 [y0, y1, y2, y3, y4, y5, y6, y7, y8] w4 (0 : Int32) z0 m2 m3 m4 (0 + 1) 2 h1166 n0  F1171 F1170 F1174 F1173 F1172 f1212 f1214 F1175 f1216 f1218 (own_add own_l0 own_l1 (by omega)) (by rw [hwl4]; omega) ((congrArg Int32.toInt (hg.2 hz2).2).trans rfl) (by omega) rfl) (W := 0) (by decide) (by decide) (by decide) (by decide) rfl (by rw [hml]; rfl) (lenOf own_pd3 rfl) rfl (by show 2 * 0 + _ ≤ _; exact Nat.le_of_eq rfl) (hb hby at_578) (fun T1225 h1227 v1228 Y1226 q1229 => ?_)
     obtain ⟨rfl, rfl⟩ := q1229
     show own_Ends _ _ _ _ (T1225.setTop (mkF m 581 #[.val (.int x0), .val (.int x1), .val (.int x2), .val (.ref b593), .val (.ref b646), .val (.ref b685), .val (.ref b725), .val (.ref b771), .val (.ref b823), .val (.ref b881), .val (.ref b949), .val (.ref b1036), .val (.int (0 : Int32)), .val (.int (0 : Int32)), .val (.int (0 : Int32)), .val (.int (1 : Int32)), .val (.int (0 : Int32)), .val (.int (2 : Int32))] [(.int (own_g [y0, y1, y2, y3, y4, y5, y6, y7, y8] (0 + 2)))]))
     refine own_st (fun t_ => XS.aloadN (own_here Y1226) hx rfl (hb hby at_581) rfl rfl) ?_
     show own_Ends _ _ _ _ (T1225.setTop (mkF m 582 #[.val (.int x0), .val (.int x1), .val (.int x2), .val (.ref b593), .val (.ref b646), .val (.ref b685), .val (.ref b725), .val (.ref b771), .val (.ref b823), .val (.ref b881), .val (.ref b949), .val (.ref b1036), .val (.int (0 : Int32)), .val (.int (0 : Int32)), .val (.int (0 : Int32)), .val (.int (1 : Int32)), .val (.int (0 : Int32)), .val (.int (2 : Int32))] [(.ref b593), (.int (own_g [y0, y1, y2, y3, y4, y5, y6, y7, y8] (0 + 2)))]))
     refine own_st (fun t_ => XS.iload (own_here Y1226) hx rfl (hb hby at_582) rfl) ?_
     show own_Ends _ _ _ _ (T1225.setTop (mkF m 584 #[.val (.int x0), .val (.int x1), .val (.int x2), .val (.ref b593), .val (.ref b646), .val (.ref b685), .val (.ref b725), .val (.ref b771), .val (.ref b823), .val (.ref b881), .val (.ref b949), .val (.ref b1036), .val (.int (0 : Int32)), .val (.int (0 : Int32)), .val (.int (0 : Int32)), .val (.int (1 : Int32)), .val (.int (0 : Int32)), .val (.int (2 : Int32))] [(.int (0 : Int32)), (.ref b593), (.int (own_g [y0, y1, y2, y3, y4, y5, y6, y7, y8] (0 + 2)))]))
     refine own_st (fun t_ => XS.iload (own_here Y1226) hx rfl (hb hby at_584) rfl) ?_
     show own_Ends _ _ _ _ (T1225.setTop (mkF m 586 #[.val (.int x0), .val (.int x1), .val (.int x2), .val (.ref b593), .val (.ref b646), .val (.ref b685), .val (.ref b725), .val (.ref b771), .val (.ref b823), .val (.ref b881), .val (.ref b949), .val (.ref b1036), .val (.int (0 : Int32)), .val (.int (0 : Int32)), .val (.int (0 : Int32)), .val (.int (1 : Int32)), .val (.int (0 : Int32)), .val (.int (2 : Int32))] [(.int (2 : Int32)), (.int (0 : Int32)), (.ref b593), (.int (own_g [y0, y1, y2, y3, y4, y5, y6, y7, y8] (0 + 2)))]))
     refine own_st (fun t_ => XS.iadd (own_here Y1226) hx rfl (hb hby at_586) rfl) ?_
     show own_Ends _ _ _ _ (T1225.setTop (mkF m 587 #[.val (.int x0), .val (.int x1), .val (.int x2), .val (.ref b593), .val (.ref b646), .val (.ref b685), .val (.ref b725), .val (.ref b771), .val (.ref b823), .val (.ref b881), .val (.ref b949), .val (.ref b1036), .val (.int (0 : Int32)), .val (.int (0 : Int32)), .val (.int (0 : Int32)), .val (.int (1 : Int32)), .val (.int (0 : Int32)), .val (.int (2 : Int32))] [(.int (2 : Int32)), (.ref b593), (.int (own_g [y0, y1, y2, y3, y4, y5, y6, y7, y8] (0 + 2)))]))
     refine own_ldI Y1226 hx hZ f1212 (i := 2) (by decide) (by decide) (Nat.le_of_ble_eq_true rfl) (v := (.int y2)) rfl rfl rfl (hb hby at_587) ?_
     show own_Ends _ _ _ _ (T1225.setTop (mkF m 588 #[.val (.int x0), .val (.int x1), .val (.int x2), .val (.ref b593), .val (.ref b646), .val (.ref b685), .val (.ref b725), .val (.ref b771), .val (.ref b823), .val (.ref b881), .val (.ref b949), .val (.ref b1036), .val (.int (0 : Int32)), .val (.int (0 : Int32)), .val (.int (0 : Int32)), .val (.int (1 : Int32)), .val (.int (0 : Int32)), .val (.int (2 : Int32))] [(.int y2), (.int (own_g [y0, y1, y2, y3, y4, y5, y6, y7, y8] (0 + 2)))]))
     refine own_st (fun t_ => XS.icmpNo (own_here Y1226) hx rfl (hb hby at_588) rfl (XT.ii_ne_f rfl)) ?_
     show own_Ends _ _ _ _ (T1225.setTop (mkF m 591 #[.val (.int x0), .val (.int x1), .val (.int x2), .val (.ref b593), .val (.ref b646), .val (.ref b685), .val (.ref b725), .val (.ref b771), .val (.ref b823), .val (.ref b881), .val (.ref b949), .val (.ref b1036), .val (.int (0 : Int32)), .val (.int (0 : Int32)), .val (.int (0 : Int32)), .val (.int (1 : Int32)), .val (.int (0 : Int32)), .val (.int (2 : Int32))] []))
     refine own_st (fun t_ => XS.iconst (own_here Y1226) hx rfl (hb hby at_591) ) ?_
     show own_Ends _ _ _ _ (T1225.setTop (mkF m 592 #[.val (.int x0), .val (.int x1), .val (.int x2), .val (.ref b593), .val (.ref b646), .val (.ref b685), .val (.ref b725), .val (.ref b771), .val (.ref b823), .val (.ref b881), .val (.ref b949), .val (.ref b1036), .val (.int (0 : Int32)), .val (.int (0 : Int32)), .val (.int (0 : Int32)), .val (.int (1 : Int32)), .val (.int (0 : Int32)), .val (.int (2 : Int32))] [(.int (1 : Int32))]))
     refine own_st (fun t_ => XS.goto (own_here Y1226) hx rfl (pc0 := 592) (pc' := 596) rfl (hb hby at_592) (by decide) (by decide)) ?_
     show own_Ends _ _ _ _ (T1225.setTop (mkF m 596 #[.val (.int x0), .val (.int x1), .val (.int x2), .val (.ref b593), .val (.ref b646), .val (.ref b685), .val (.ref b725), .val (.ref b771), .val (.ref b823), .val (.ref b881), .val (.ref b949), .val (.ref b1036), .val (.int (0 : Int32)), .val (.int (0 : Int32)), .val (.int (0 : Int32)), .val (.int (1 : Int32)), .val (.int (0 : Int32)), .val (.int (2 : Int32))] [(.int (1 : Int32))]))
     refine own_retN Y1226 hx hlk (t := .boolean) hret (by simp) (hb hby at_596) (by decide) (by decide) ?_
     exact rfl
    ·
     rw [q] at hg ⊢
     show own_Ends _ _ _ _ (T1164.setTop (mkF m 529 #[.val (.int x0), .val (.int x1), .val (.int x2), .val (.ref b593), .val (.ref b646), .val (.ref b685), .val (.ref b725), .val (.ref b771), .val (.ref b823), .val (.ref b881), .val (.ref b949), .val (.ref b1036), .val (.int (0 : Int32)), .val (.int (0 : Int32)), .val (.int (0 : Int32)), .val (.int (2 : Int32)), .unset, .unset] []))
     refine own_st (fun t_ => XS.iconst (own_here Y1165) hx rfl (hb hby at_529) ) ?_
     show own_Ends _ _ _ _ (T1164.setTop (mkF m 530 #[.val (.int x0), .val (.int x1), .val (.int x2), .val (.ref b593), .val (.ref b646), .val (.ref b685), .val (.ref b725), .val (.ref b771), .val (.ref b823), .val (.ref b881), .val (.ref b949), .val (.ref b1036), .val (.int (0 : Int32)), .val (.int (0 : Int32)), .val (.int (0 : Int32)), .val (.int (2 : Int32)), .unset, .unset] [(.int (0 : Int32))]))
     refine own_st (fun t_ => XS.iload (own_here Y1165) hx rfl (hb hby at_530) rfl) ?_
     show own_Ends _ _ _ _ (T1164.setTop (mkF m 532 #[.val (.int x0), .val (.int x1), .val (.int x2), .val (.ref b593), .val (.ref b646), .val (.ref b685), .val (.ref b725), .val (.ref b771), .val (.ref b823), .val (.ref b881), .val (.ref b949), .val (.ref b1036), .val (.int (0 : Int32)), .val (.int (0 : Int32)), .val (.int (0 : Int32)), .val (.int (2 : Int32)), .unset, .unset] [(.int (2 : Int32)), (.int (0 : Int32))]))
     refine own_st (fun t_ => XS.icmpNo (own_here Y1165) hx rfl (hb hby at_532) rfl (XT.ii_ge_f (by decide))) ?_
     show own_Ends _ _ _ _ (T1164.setTop (mkF m 535 #[.val (.int x0), .val (.int x1), .val (.int x2), .val (.ref b593), .val (.ref b646), .val (.ref b685), .val (.ref b725), .val (.ref b771), .val (.ref b823), .val (.ref b881), .val (.ref b949), .val (.ref b1036), .val (.int (0 : Int32)), .val (.int (0 : Int32)), .val (.int (0 : Int32)), .val (.int (2 : Int32)), .unset, .unset] []))
     refine own_st (fun t_ => XS.iconst (own_here Y1165) hx rfl (hb hby at_535) ) ?_
     show own_Ends _ _ _ _ (T1164.setTop (mkF m 536 #[.val (.int x0), .val (.int x1), .val (.int x2), .val (.ref b593), .val (.ref b646), .val (.ref b685), .val (.ref b725), .val (.ref b771), .val (.ref b823), .val (.ref b881), .val (.ref b949), .val (.ref b1036), .val (.int (0 : Int32)), .val (.int (0 : Int32)), .val (.int (0 : Int32)), .val (.int (2 : Int32)), .unset, .unset] [(.int (0 : Int32))]))
     refine own_st (fun t_ => XS.goto (own_here Y1165) hx rfl (pc0 := 536) (pc' := 540) rfl (hb hby at_536) (by decide) (by decide)) ?_
     show own_Ends _ _ _ _ (T1164.setTop (mkF m 540 #[.val (.int x0), .val (.int x1), .val (.int x2), .val (.ref b593), .val (.ref b646), .val (.ref b685), .val (.ref b725), .val (.ref b771), .val (.ref b823), .val (.ref b881), .val (.ref b949), .val (.ref b1036), .val (.int (0 : Int32)), .val (.int (0 : Int32)), .val (.int (0 : Int32)), .val (.int (2 : Int32)), .unset, .unset] [(.int (0 : Int32))]))
     refine own_st (fun t_ => XS.istore (own_here Y1165) hx rfl (hb hby at_540) rfl (l' := #[.val (.int x0), .val (.int x1), .val (.int x2), .val (.ref b593), .val (.ref b646), .val (.ref b685), .val (.ref b725), .val (.ref b771), .val (.ref b823), .val (.ref b881), .val (.ref b949), .val (.ref b1036), .val (.int (0 : Int32)), .val (.int (0 : Int32)), .val (.int (0 : Int32)), .val (.int (2 : Int32)), .val (.int (0 : Int32)), .unset]) rfl) ?_
     show own_Ends _ _ _ _ (T1164.setTop (mkF m 542 #[.val (.int x0), .val (.int x1), .val (.int x2), .val (.ref b593), .val (.ref b646), .val (.ref b685), .val (.ref b725), .val (.ref b771), .val (.ref b823), .val (.ref b881), .val (.ref b949), .val (.ref b1036), .val (.int (0 : Int32)), .val (.int (0 : Int32)), .val (.int (0 : Int32)), .val (.int (2 : Int32)), .val (.int (0 : Int32)), .unset] []))
     refine own_st (fun t_ => XS.iconst (own_here Y1165) hx rfl (hb hby at_542) ) ?_
     show own_Ends _ _ _ _ (T1164.setTop (mkF m 543 #[.val (.int x0), .val (.int x1), .val (.int x2), .val (.ref b593), .val (.ref b646), .val (.ref b685), .val (.ref b725), .val (.ref b771), .val (.ref b823), .val (.ref b881), .val (.ref b949), .val (.ref b1036), .val (.int (0 : Int32)), .val (.int (0 : Int32)), .val (.int (0 : Int32)), .val (.int (2 : Int32)), .val (.int (0 : Int32)), .unset] [(.int (1 : Int32))]))
     refine own_st (fun t_ => XS.iload (own_here Y1165) hx rfl (hb hby at_543) rfl) ?_
     show own_Ends _ _ _ _ (T1164.setTop (mkF m 545 #[.val (.int x0), .val (.int x1), .val (.int x2), .val (.ref b593), .val (.ref b646), .val (.ref b685), .val (.ref b725), .val (.ref b771), .val (.ref b823), .val (.ref b881), .val (.ref b949), .val (.ref b1036), .val (.int (0 : Int32)), .val (.int (0 : Int32)), .val (.int (0 : Int32)), .val (.int (2 : Int32)), .val (.int (0 : Int32)), .unset] [(.int (2 : Int32)), (.int (1 : Int32))]))
     refine own_st (fun t_ => XS.icmpNo (own_here Y1165) hx rfl (hb hby at_545) rfl (XT.ii_ge_f (by decide))) ?_
     show own_Ends _ _ _ _ (T1164.setTop (mkF m 548 #[.val (.int x0), .val (.int x1), .val (.int x2), .val (.ref b593), .val (.ref b646), .val (.ref b685), .val (.ref b725), .val (.ref b771), .val (.ref b823), .val (.ref b881), .val (.ref b949), .val (.ref b1036), .val (.int (0 : Int32)), .val (.int (0 : Int32)), .val (.int (0 : Int32)), .val (.int (2 : Int32)), .val (.int (0 : Int32)), .unset] []))
     refine own_st (fun t_ => XS.iconst (own_here Y1165) hx rfl (hb hby at_548) ) ?_
     show own_Ends _ _ _ _ (T1164.setTop (mkF m 549 #[.val (.int x0), .val (.int x1), .val (.int x2), .val (.ref b593), .val (.ref b646), .val (.ref b685), .val (.ref b725), .val (.ref b771), .val (.ref b823), .val (.ref b881), .val (.ref b949), .val (.ref b1036), .val (.int (0 : Int32)), .val (.int (0 : Int32)), .val (.int (0 : Int32)), .val (.int (2 : Int32)), .val (.int (0 : Int32)), .unset] [(.int (1 : Int32))]))
     refine own_st (fun t_ => XS.goto (own_here Y1165) hx rfl (pc0 := 549) (pc' := 553) rfl (hb hby at_549) (by decide) (by decide)) ?_
     show own_Ends _ _ _ _ (T1164.setTop (mkF m 553 #[.val (.int x0), .val (.int x1), .val (.int x2), .val (.ref b593), .val (.ref b646), .val (.ref b685), .val (.ref b725), .val (.ref b771), .val (.ref b823), .val (.ref b881), .val (.ref b949), .val (.ref b1036), .val (.int (0 : Int32)), .val (.int (0 : Int32)), .val (.int (0 : Int32)), .val (.int (2 : Int32)), .val (.int (0 : Int32)), .unset] [(.int (1 : Int32))]))
     refine own_st (fun t_ => XS.istore (own_here Y1165) hx rfl (hb hby at_553) rfl (l' := #[.val (.int x0), .val (.int x1), .val (.int x2), .val (.ref b593), .val (.ref b646), .val (.ref b685), .val (.ref b725), .val (.ref b771), .val (.ref b823), .val (.ref b881), .val (.ref b949), .val (.ref b1036), .val (.int (0 : Int32)), .val (.int (0 : Int32)), .val (.int (0 : Int32)), .val (.int (2 : Int32)), .val (.int (0 : Int32)), .val (.int (1 : Int32))]) rfl) ?_
     show own_Ends _ _ _ _ (T1164.setTop (mkF m 555 #[.val (.int x0), .val (.int x1), .val (.int x2), .val (.ref b593), .val (.ref b646), .val (.ref b685), .val (.ref b725), .val (.ref b771), .val (.ref b823), .val (.ref b881), .val (.ref b949), .val (.ref b1036), .val (.int (0 : Int32)), .val (.int (0 : Int32)), .val (.int (0 : Int32)), .val (.int (2 : Int32)), .val (.int (0 : Int32)), .val (.int (1 : Int32))] []))
     refine own_st (fun t_ => XS.aload (own_here Y1165) hx rfl (hb hby at_555) rfl rfl) ?_
     show own_Ends _ _ _ _ (T1164.setTop (mkF m 557 #[.val (.int x0), .val (.int x1), .val (.int x2), .val (.ref b593), .val (.ref b646), .val (.ref b685), .val (.ref b725), .val (.ref b771), .val (.ref b823), .val (.ref b881), .val (.ref b949), .val (.ref b1036), .val (.int (0 : Int32)), .val (.int (0 : Int32)), .val (.int (0 : Int32)), .val (.int (2 : Int32)), .val (.int (0 : Int32)), .val (.int (1 : Int32))] [(.ref b1036)]))
     refine own_st (fun t_ => XS.iload (own_here Y1165) hx rfl (hb hby at_557) rfl) ?_
     show own_Ends _ _ _ _ (T1164.setTop (mkF m 559 #[.val (.int x0), .val (.int x1), .val (.int x2), .val (.ref b593), .val (.ref b646), .val (.ref b685), .val (.ref b725), .val (.ref b771), .val (.ref b823), .val (.ref b881), .val (.ref b949), .val (.ref b1036), .val (.int (0 : Int32)), .val (.int (0 : Int32)), .val (.int (0 : Int32)), .val (.int (2 : Int32)), .val (.int (0 : Int32)), .val (.int (1 : Int32))] [(.int (0 : Int32)), (.ref b1036)]))
     refine own_st (fun t_ => XS.iconst (own_here Y1165) hx rfl (hb hby at_559) ) ?_
     show own_Ends _ _ _ _ (T1164.setTop (mkF m 560 #[.val (.int x0), .val (.int x1), .val (.int x2), .val (.ref b593), .val (.ref b646), .val (.ref b685), .val (.ref b725), .val (.ref b771), .val (.ref b823), .val (.ref b881), .val (.ref b949), .val (.ref b1036), .val (.int (0 : Int32)), .val (.int (0 : Int32)), .val (.int (0 : Int32)), .val (.int (2 : Int32)), .val (.int (0 : Int32)), .val (.int (1 : Int32))] [(.int (0 : Int32)), (.int (0 : Int32)), (.ref b1036)]))
     have f1230 : own_A Z h1166 b593 .int [(.int y0), (.int y1), (.int y2), (.int y3), (.int y4), (.int y5), (.int y6), (.int y7), (.int y8)] := f1160.keep K1169 (ninS ne1043 nin0)
     have f1231 : own_A Z h1113 b646 .int [(.int (0 : Int32)), (.int (3 : Int32)), (.int (6 : Int32)), (.int (9 : Int32))] := f1120.ext E1114
     have f1232 : own_A Z h1166 b646 .int [(.int (0 : Int32)), (.int (3 : Int32)), (.int (6 : Int32)), (.int (9 : Int32))] := f1231.keep K1169 (ninS ne1049 nin0)
     have f1233 : own_A Z h1113 b949 .int (w4.map Value.int) := f1132.ext E1114
     have f1234 : own_A Z h1166 b949 .int (w4.map Value.int) := f1233.keep K1169 (ninS ne1068 nin0)
     have f1235 : own_A Z h1113 b881 .int [(.int (0 : Int32)), (.int z0), (.int m2), (.int m3), (.int m4)] := f1130.ext E1114
     have f1236 : own_A Z h1166 b881 .int [(.int (0 : Int32)), (.int z0), (.int m2), (.int m3), (.int m4)] := f1235.keep K1169 (ninS ne1067 nin0)
     have f1242 : Exa Z h1166 b1036 "com/example/tierpath/tierpath/Bounds" := f1139.keep K1169
     refine own_callV Y1165 hx hZ (y := (⟨"com/example/tierpath/tierpath/Bounds", "member", "(II)I"⟩ : MethodName)) (z := (⟨"com/example/tierpath/tierpath/Bounds", "member", "(II)I"⟩ : MethodName)) hown (hw _ (List.mem_of_getElem? (i := 42) rfl)) (hw _ (List.mem_of_getElem? (i := 43) rfl)) (notFace_of_selects (args := #[]) (mvT hZ (hw _ (List.mem_of_getElem? (i := 45) rfl)))) (hw _ (List.mem_of_getElem? (i := 45) rfl)) (hw _ (List.mem_of_getElem? (i := 44) rfl)) (hw _ (List.mem_of_getElem? (i := 7) rfl)) (hw _ (List.mem_of_getElem? (i := 46) rfl)) (by decide) (a := b1036) f1242 (argsL := [(.int (0 : Int32)), (.int (0 : Int32))]) (rest := []) (own_rm6_0 l Z a0 hw [] b1036 (0 : Int32) b593 b646 sl b949 b881 [y0, y1, y2, y3, y4, y5, y6, y7, y8] w4 (0 : Int32) z0 m2 m3 m4 (0 + 0) 0 h1166 n0  F1171 F1170 F1174 F1173 F1172 f1230 f1232 F1175 f1234 f1236 (own_add own_l0 own_l0 (by omega)) (by rw [hwl4]; omega) ((congrArg Int32.toInt (hg.2 hz2).1).trans rfl) (by omega) rfl) (W := 0) (by decide) (by decide) (by decide) (by decide) rfl (by rw [hml]; rfl) (lenOf own_pd3 rfl) rfl (by show 2 * 0 + _ ≤ _; exact Nat.le_of_eq rfl) (hb hby at_560) (fun T1237 h1239 v1240 Y1238 q1241 => ?_)
     obtain ⟨rfl, rfl⟩ := q1241
     show own_Ends _ _ _ _ (T1237.setTop (mkF m 563 #[.val (.int x0), .val (.int x1), .val (.int x2), .val (.ref b593), .val (.ref b646), .val (.ref b685), .val (.ref b725), .val (.ref b771), .val (.ref b823), .val (.ref b881), .val (.ref b949), .val (.ref b1036), .val (.int (0 : Int32)), .val (.int (0 : Int32)), .val (.int (0 : Int32)), .val (.int (2 : Int32)), .val (.int (0 : Int32)), .val (.int (1 : Int32))] [(.int (own_g [y0, y1, y2, y3, y4, y5, y6, y7, y8] (0 + 0)))]))
     refine own_st (fun t_ => XS.aloadN (own_here Y1238) hx rfl (hb hby at_563) rfl rfl) ?_
     show own_Ends _ _ _ _ (T1237.setTop (mkF m 564 #[.val (.int x0), .val (.int x1), .val (.int x2), .val (.ref b593), .val (.ref b646), .val (.ref b685), .val (.ref b725), .val (.ref b771), .val (.ref b823), .val (.ref b881), .val (.ref b949), .val (.ref b1036), .val (.int (0 : Int32)), .val (.int (0 : Int32)), .val (.int (0 : Int32)), .val (.int (2 : Int32)), .val (.int (0 : Int32)), .val (.int (1 : Int32))] [(.ref b593), (.int (own_g [y0, y1, y2, y3, y4, y5, y6, y7, y8] (0 + 0)))]))
     refine own_st (fun t_ => XS.iload (own_here Y1238) hx rfl (hb hby at_564) rfl) ?_
     show own_Ends _ _ _ _ (T1237.setTop (mkF m 566 #[.val (.int x0), .val (.int x1), .val (.int x2), .val (.ref b593), .val (.ref b646), .val (.ref b685), .val (.ref b725), .val (.ref b771), .val (.ref b823), .val (.ref b881), .val (.ref b949), .val (.ref b1036), .val (.int (0 : Int32)), .val (.int (0 : Int32)), .val (.int (0 : Int32)), .val (.int (2 : Int32)), .val (.int (0 : Int32)), .val (.int (1 : Int32))] [(.int (0 : Int32)), (.ref b593), (.int (own_g [y0, y1, y2, y3, y4, y5, y6, y7, y8] (0 + 0)))]))
     refine own_st (fun t_ => XS.iload (own_here Y1238) hx rfl (hb hby at_566) rfl) ?_
     show own_Ends _ _ _ _ (T1237.setTop (mkF m 568 #[.val (.int x0), .val (.int x1), .val (.int x2), .val (.ref b593), .val (.ref b646), .val (.ref b685), .val (.ref b725), .val (.ref b771), .val (.ref b823), .val (.ref b881), .val (.ref b949), .val (.ref b1036), .val (.int (0 : Int32)), .val (.int (0 : Int32)), .val (.int (0 : Int32)), .val (.int (2 : Int32)), .val (.int (0 : Int32)), .val (.int (1 : Int32))] [(.int (0 : Int32)), (.int (0 : Int32)), (.ref b593), (.int (own_g [y0, y1, y2, y3, y4, y5, y6, y7, y8] (0 + 0)))]))
     refine own_st (fun t_ => XS.iadd (own_here Y1238) hx rfl (hb hby at_568) rfl) ?_
     show own_Ends _ _ _ _ (T1237.setTop (mkF m 569 #[.val (.int x0), .val (.int x1), .val (.int x2), .val (.ref b593), .val (.ref b646), .val (.ref b685), .val (.ref b725), .val (.ref b771), .val (.ref b823), .val (.ref b881), .val (.ref b949), .val (.ref b1036), .val (.int (0 : Int32)), .val (.int (0 : Int32)), .val (.int (0 : Int32)), .val (.int (2 : Int32)), .val (.int (0 : Int32)), .val (.int (1 : Int32))] [(.int (0 : Int32)), (.ref b593), (.int (own_g [y0, y1, y2, y3, y4, y5, y6, y7, y8] (0 + 0)))]))
     refine own_ldI Y1238 hx hZ f1230 (i := 0) (by decide) (by decide) (Nat.le_of_ble_eq_true rfl) (v := (.int y0)) rfl rfl rfl (hb hby at_569) ?_
     show own_Ends _ _ _ _ (T1237.setTop (mkF m 570 #[.val (.int x0), .val (.int x1), .val (.int x2), .val (.ref b593), .val (.ref b646), .val (.ref b685), .val (.ref b725), .val (.ref b771), .val (.ref b823), .val (.ref b881), .val (.ref b949), .val (.ref b1036), .val (.int (0 : Int32)), .val (.int (0 : Int32)), .val (.int (0 : Int32)), .val (.int (2 : Int32)), .val (.int (0 : Int32)), .val (.int (1 : Int32))] [(.int y0), (.int (own_g [y0, y1, y2, y3, y4, y5, y6, y7, y8] (0 + 0)))]))
     refine own_st (fun t_ => XS.icmpNo (own_here Y1238) hx rfl (hb hby at_570) rfl (XT.ii_ne_f rfl)) ?_
     show own_Ends _ _ _ _ (T1237.setTop (mkF m 573 #[.val (.int x0), .val (.int x1), .val (.int x2), .val (.ref b593), .val (.ref b646), .val (.ref b685), .val (.ref b725), .val (.ref b771), .val (.ref b823), .val (.ref b881), .val (.ref b949), .val (.ref b1036), .val (.int (0 : Int32)), .val (.int (0 : Int32)), .val (.int (0 : Int32)), .val (.int (2 : Int32)), .val (.int (0 : Int32)), .val (.int (1 : Int32))] []))
     refine own_st (fun t_ => XS.aload (own_here Y1238) hx rfl (hb hby at_573) rfl rfl) ?_
     show own_Ends _ _ _ _ (T1237.setTop (mkF m 575 #[.val (.int x0), .val (.int x1), .val (.int x2), .val (.ref b593), .val (.ref b646), .val (.ref b685), .val (.ref b725), .val (.ref b771), .val (.ref b823), .val (.ref b881), .val (.ref b949), .val (.ref b1036), .val (.int (0 : Int32)), .val (.int (0 : Int32)), .val (.int (0 : Int32)), .val (.int (2 : Int32)), .val (.int (0 : Int32)), .val (.int (1 : Int32))] [(.ref b1036)]))
     refine own_st (fun t_ => XS.iload (own_here Y1238) hx rfl (hb hby at_575) rfl) ?_
     show own_Ends _ _ _ _ (T1237.setTop (mkF m 577 #[.val (.int x0), .val (.int x1), .val (.int x2), .val (.ref b593), .val (.ref b646), .val (.ref b685), .val (.ref b725), .val (.ref b771), .val (.ref b823), .val (.ref b881), .val (.ref b949), .val (.ref b1036), .val (.int (0 : Int32)), .val (.int (0 : Int32)), .val (.int (0 : Int32)), .val (.int (2 : Int32)), .val (.int (0 : Int32)), .val (.int (1 : Int32))] [(.int (0 : Int32)), (.ref b1036)]))
     refine own_st (fun t_ => XS.iconst (own_here Y1238) hx rfl (hb hby at_577) ) ?_
     show own_Ends _ _ _ _ (T1237.setTop (mkF m 578 #[.val (.int x0), .val (.int x1), .val (.int x2), .val (.ref b593), .val (.ref b646), .val (.ref b685), .val (.ref b725), .val (.ref b771), .val (.ref b823), .val (.ref b881), .val (.ref b949), .val (.ref b1036), .val (.int (0 : Int32)), .val (.int (0 : Int32)), .val (.int (0 : Int32)), .val (.int (2 : Int32)), .val (.int (0 : Int32)), .val (.int (1 : Int32))] [(.int (1 : Int32)), (.int (0 : Int32)), (.ref b1036)]))
     refine own_callV Y1238 hx hZ (y := (⟨"com/example/tierpath/tierpath/Bounds", "member", "(II)I"⟩ : MethodName)) (z := (⟨"com/example/tierpath/tierpath/Bounds", "member", "(II)I"⟩ : MethodName)) hown (hw _ (List.mem_of_getElem? (i := 42) rfl)) (hw _ (List.mem_of_getElem? (i := 43) rfl)) (notFace_of_selects (args := #[]) (mvT hZ (hw _ (List.mem_of_getElem? (i := 45) rfl)))) (hw _ (List.mem_of_getElem? (i := 45) rfl)) (hw _ (List.mem_of_getElem? (i := 44) rfl)) (hw _ (List.mem_of_getElem? (i := 7) rfl)) (hw _ (List.mem_of_getElem? (i := 46) rfl)) (by decide) (a := b1036) f1242 (argsL := [(.int (0 : Int32)), (.int (1 : Int32))]) (rest := []) (own_rm6_0 l Z a0 hw [] b1036 (1 : Int32) b593 b646 sl b949 b881 [y0, y1, y2, y3, y4, y5, y6, y7, y8] w4 (0 : Int32) z0 m2 m3 m4 (0 + 1) 1 h1166 n0  F1171 F1170 F1174 F1173 F1172 f1230 f1232 F1175 f1234 f1236 (own_add own_l0 own_l1 (by omega)) (by rw [hwl4]; omega) ((congrArg Int32.toInt (hg.2 hz2).2).trans rfl) (by omega) rfl) (W := 0) (by decide) (by decide) (by decide) (by decide) rfl (by rw [hml]; rfl) (lenOf own_pd3 rfl) rfl (by show 2 * 0 + _ ≤ _; exact Nat.le_of_eq rfl) (hb hby at_578) (fun T1243 h1245 v1246 Y1244 q1247 => ?_)
     obtain ⟨rfl, rfl⟩ := q1247
     show own_Ends _ _ _ _ (T1243.setTop (mkF m 581 #[.val (.int x0), .val (.int x1), .val (.int x2), .val (.ref b593), .val (.ref b646), .val (.ref b685), .val (.ref b725), .val (.ref b771), .val (.ref b823), .val (.ref b881), .val (.ref b949), .val (.ref b1036), .val (.int (0 : Int32)), .val (.int (0 : Int32)), .val (.int (0 : Int32)), .val (.int (2 : Int32)), .val (.int (0 : Int32)), .val (.int (1 : Int32))] [(.int (own_g [y0, y1, y2, y3, y4, y5, y6, y7, y8] (0 + 1)))]))
     refine own_st (fun t_ => XS.aloadN (own_here Y1244) hx rfl (hb hby at_581) rfl rfl) ?_
     show own_Ends _ _ _ _ (T1243.setTop (mkF m 582 #[.val (.int x0), .val (.int x1), .val (.int x2), .val (.ref b593), .val (.ref b646), .val (.ref b685), .val (.ref b725), .val (.ref b771), .val (.ref b823), .val (.ref b881), .val (.ref b949), .val (.ref b1036), .val (.int (0 : Int32)), .val (.int (0 : Int32)), .val (.int (0 : Int32)), .val (.int (2 : Int32)), .val (.int (0 : Int32)), .val (.int (1 : Int32))] [(.ref b593), (.int (own_g [y0, y1, y2, y3, y4, y5, y6, y7, y8] (0 + 1)))]))
     refine own_st (fun t_ => XS.iload (own_here Y1244) hx rfl (hb hby at_582) rfl) ?_
     show own_Ends _ _ _ _ (T1243.setTop (mkF m 584 #[.val (.int x0), .val (.int x1), .val (.int x2), .val (.ref b593), .val (.ref b646), .val (.ref b685), .val (.ref b725), .val (.ref b771), .val (.ref b823), .val (.ref b881), .val (.ref b949), .val (.ref b1036), .val (.int (0 : Int32)), .val (.int (0 : Int32)), .val (.int (0 : Int32)), .val (.int (2 : Int32)), .val (.int (0 : Int32)), .val (.int (1 : Int32))] [(.int (0 : Int32)), (.ref b593), (.int (own_g [y0, y1, y2, y3, y4, y5, y6, y7, y8] (0 + 1)))]))
     refine own_st (fun t_ => XS.iload (own_here Y1244) hx rfl (hb hby at_584) rfl) ?_
     show own_Ends _ _ _ _ (T1243.setTop (mkF m 586 #[.val (.int x0), .val (.int x1), .val (.int x2), .val (.ref b593), .val (.ref b646), .val (.ref b685), .val (.ref b725), .val (.ref b771), .val (.ref b823), .val (.ref b881), .val (.ref b949), .val (.ref b1036), .val (.int (0 : Int32)), .val (.int (0 : Int32)), .val (.int (0 : Int32)), .val (.int (2 : Int32)), .val (.int (0 : Int32)), .val (.int (1 : Int32))] [(.int (1 : Int32)), (.int (0 : Int32)), (.ref b593), (.int (own_g [y0, y1, y2, y3, y4, y5, y6, y7, y8] (0 + 1)))]))
     refine own_st (fun t_ => XS.iadd (own_here Y1244) hx rfl (hb hby at_586) rfl) ?_
     show own_Ends _ _ _ _ (T1243.setTop (mkF m 587 #[.val (.int x0), .val (.int x1), .val (.int x2), .val (.ref b593), .val (.ref b646), .val (.ref b685), .val (.ref b725), .val (.ref b771), .val (.ref b823), .val (.ref b881), .val (.ref b949), .val (.ref b1036), .val (.int (0 : Int32)), .val (.int (0 : Int32)), .val (.int (0 : Int32)), .val (.int (2 : Int32)), .val (.int (0 : Int32)), .val (.int (1 : Int32))] [(.int (1 : Int32)), (.ref b593), (.int (own_g [y0, y1, y2, y3, y4, y5, y6, y7, y8] (0 + 1)))]))
     refine own_ldI Y1244 hx hZ f1230 (i := 1) (by decide) (by decide) (Nat.le_of_ble_eq_true rfl) (v := (.int y1)) rfl rfl rfl (hb hby at_587) ?_
     show own_Ends _ _ _ _ (T1243.setTop (mkF m 588 #[.val (.int x0), .val (.int x1), .val (.int x2), .val (.ref b593), .val (.ref b646), .val (.ref b685), .val (.ref b725), .val (.ref b771), .val (.ref b823), .val (.ref b881), .val (.ref b949), .val (.ref b1036), .val (.int (0 : Int32)), .val (.int (0 : Int32)), .val (.int (0 : Int32)), .val (.int (2 : Int32)), .val (.int (0 : Int32)), .val (.int (1 : Int32))] [(.int y1), (.int (own_g [y0, y1, y2, y3, y4, y5, y6, y7, y8] (0 + 1)))]))
     refine own_st (fun t_ => XS.icmpNo (own_here Y1244) hx rfl (hb hby at_588) rfl (XT.ii_ne_f rfl)) ?_
     show own_Ends _ _ _ _ (T1243.setTop (mkF m 591 #[.val (.int x0), .val (.int x1), .val (.int x2), .val (.ref b593), .val (.ref b646), .val (.ref b685), .val (.ref b725), .val (.ref b771), .val (.ref b823), .val (.ref b881), .val (.ref b949), .val (.ref b1036), .val (.int (0 : Int32)), .val (.int (0 : Int32)), .val (.int (0 : Int32)), .val (.int (2 : Int32)), .val (.int (0 : Int32)), .val (.int (1 : Int32))] []))
     refine own_st (fun t_ => XS.iconst (own_here Y1244) hx rfl (hb hby at_591) ) ?_
     show own_Ends _ _ _ _ (T1243.setTop (mkF m 592 #[.val (.int x0), .val (.int x1), .val (.int x2), .val (.ref b593), .val (.ref b646), .val (.ref b685), .val (.ref b725), .val (.ref b771), .val (.ref b823), .val (.ref b881), .val (.ref b949), .val (.ref b1036), .val (.int (0 : Int32)), .val (.int (0 : Int32)), .val (.int (0 : Int32)), .val (.int (2 : Int32)), .val (.int (0 : Int32)), .val (.int (1 : Int32))] [(.int (1 : Int32))]))
     refine own_st (fun t_ => XS.goto (own_here Y1244) hx rfl (pc0 := 592) (pc' := 596) rfl (hb hby at_592) (by decide) (by decide)) ?_
     show own_Ends _ _ _ _ (T1243.setTop (mkF m 596 #[.val (.int x0), .val (.int x1), .val (.int x2), .val (.ref b593), .val (.ref b646), .val (.ref b685), .val (.ref b725), .val (.ref b771), .val (.ref b823), .val (.ref b881), .val (.ref b949), .val (.ref b1036), .val (.int (0 : Int32)), .val (.int (0 : Int32)), .val (.int (0 : Int32)), .val (.int (2 : Int32)), .val (.int (0 : Int32)), .val (.int (1 : Int32))] [(.int (1 : Int32))]))
     refine own_retN Y1244 hx hlk (t := .boolean) hret (by simp) (hb hby at_596) (by decide) (by decide) ?_
     exact rfl
  ·
   have hg := hfin.2.1
   show own_Ends _ _ _ _ (T1164.setTop (mkF m 461 #[.val (.int x0), .val (.int x1), .val (.int x2), .val (.ref b593), .val (.ref b646), .val (.ref b685), .val (.ref b725), .val (.ref b771), .val (.ref b823), .val (.ref b881), .val (.ref b949), .val (.ref b1036), .val (.int (1 : Int32)), .unset, .unset, .unset, .unset, .unset] []))
   refine own_st (fun t_ => XS.iload (own_here Y1165) hx rfl (hb hby at_461) rfl) ?_
   show own_Ends _ _ _ _ (T1164.setTop (mkF m 463 #[.val (.int x0), .val (.int x1), .val (.int x2), .val (.ref b593), .val (.ref b646), .val (.ref b685), .val (.ref b725), .val (.ref b771), .val (.ref b823), .val (.ref b881), .val (.ref b949), .val (.ref b1036), .val (.int (1 : Int32)), .unset, .unset, .unset, .unset, .unset] [(.int (1 : Int32))]))
   refine own_st (fun t_ => XS.ifYes (own_here Y1165) hx rfl (pc0 := 463) (pc' := 470) rfl (hb hby at_463) rfl (XT.i0_ne_t (by decide)) (by decide) (by decide)) ?_
   show own_Ends _ _ _ _ (T1164.setTop (mkF m 470 #[.val (.int x0), .val (.int x1), .val (.int x2), .val (.ref b593), .val (.ref b646), .val (.ref b685), .val (.ref b725), .val (.ref b771), .val (.ref b823), .val (.ref b881), .val (.ref b949), .val (.ref b1036), .val (.int (1 : Int32)), .unset, .unset, .unset, .unset, .unset] []))
   refine own_st (fun t_ => XS.iload (own_here Y1165) hx rfl (hb hby at_470) rfl) ?_
   show own_Ends _ _ _ _ (T1164.setTop (mkF m 472 #[.val (.int x0), .val (.int x1), .val (.int x2), .val (.ref b593), .val (.ref b646), .val (.ref b685), .val (.ref b725), .val (.ref b771), .val (.ref b823), .val (.ref b881), .val (.ref b949), .val (.ref b1036), .val (.int (1 : Int32)), .unset, .unset, .unset, .unset, .unset] [(.int (1 : Int32))]))
   refine own_st (fun t_ => XS.iconst (own_here Y1165) hx rfl (hb hby at_472) ) ?_
   show own_Ends _ _ _ _ (T1164.setTop (mkF m 473 #[.val (.int x0), .val (.int x1), .val (.int x2), .val (.ref b593), .val (.ref b646), .val (.ref b685), .val (.ref b725), .val (.ref b771), .val (.ref b823), .val (.ref b881), .val (.ref b949), .val (.ref b1036), .val (.int (1 : Int32)), .unset, .unset, .unset, .unset, .unset] [(.int (3 : Int32)), (.int (1 : Int32))]))
   refine own_st (fun t_ => XS.icmpYes (own_here Y1165) hx rfl (pc0 := 473) (pc' := 480) rfl (hb hby at_473) rfl (XT.ii_ne_t (by decide)) (by decide) (by decide)) ?_
   show own_Ends _ _ _ _ (T1164.setTop (mkF m 480 #[.val (.int x0), .val (.int x1), .val (.int x2), .val (.ref b593), .val (.ref b646), .val (.ref b685), .val (.ref b725), .val (.ref b771), .val (.ref b823), .val (.ref b881), .val (.ref b949), .val (.ref b1036), .val (.int (1 : Int32)), .unset, .unset, .unset, .unset, .unset] []))
   refine own_st (fun t_ => XS.iconst (own_here Y1165) hx rfl (hb hby at_480) ) ?_
   show own_Ends _ _ _ _ (T1164.setTop (mkF m 481 #[.val (.int x0), .val (.int x1), .val (.int x2), .val (.ref b593), .val (.ref b646), .val (.ref b685), .val (.ref b725), .val (.ref b771), .val (.ref b823), .val (.ref b881), .val (.ref b949), .val (.ref b1036), .val (.int (1 : Int32)), .unset, .unset, .unset, .unset, .unset] [(.int (1 : Int32))]))
   refine own_st (fun t_ => XS.istore (own_here Y1165) hx rfl (hb hby at_481) rfl (l' := #[.val (.int x0), .val (.int x1), .val (.int x2), .val (.ref b593), .val (.ref b646), .val (.ref b685), .val (.ref b725), .val (.ref b771), .val (.ref b823), .val (.ref b881), .val (.ref b949), .val (.ref b1036), .val (.int (1 : Int32)), .val (.int (1 : Int32)), .unset, .unset, .unset, .unset]) rfl) ?_
   show own_Ends _ _ _ _ (T1164.setTop (mkF m 483 #[.val (.int x0), .val (.int x1), .val (.int x2), .val (.ref b593), .val (.ref b646), .val (.ref b685), .val (.ref b725), .val (.ref b771), .val (.ref b823), .val (.ref b881), .val (.ref b949), .val (.ref b1036), .val (.int (1 : Int32)), .val (.int (1 : Int32)), .unset, .unset, .unset, .unset] []))
   refine own_st (fun t_ => XS.iconst (own_here Y1165) hx rfl (hb hby at_483) ) ?_
   show own_Ends _ _ _ _ (T1164.setTop (mkF m 484 #[.val (.int x0), .val (.int x1), .val (.int x2), .val (.ref b593), .val (.ref b646), .val (.ref b685), .val (.ref b725), .val (.ref b771), .val (.ref b823), .val (.ref b881), .val (.ref b949), .val (.ref b1036), .val (.int (1 : Int32)), .val (.int (1 : Int32)), .unset, .unset, .unset, .unset] [(.int (3 : Int32))]))
   refine own_st (fun t_ => XS.iload (own_here Y1165) hx rfl (hb hby at_484) rfl) ?_
   show own_Ends _ _ _ _ (T1164.setTop (mkF m 486 #[.val (.int x0), .val (.int x1), .val (.int x2), .val (.ref b593), .val (.ref b646), .val (.ref b685), .val (.ref b725), .val (.ref b771), .val (.ref b823), .val (.ref b881), .val (.ref b949), .val (.ref b1036), .val (.int (1 : Int32)), .val (.int (1 : Int32)), .unset, .unset, .unset, .unset] [(.int (1 : Int32)), (.int (3 : Int32))]))
   refine own_st (fun t_ => XS.imul (own_here Y1165) hx rfl (hb hby at_486) rfl) ?_
   show own_Ends _ _ _ _ (T1164.setTop (mkF m 487 #[.val (.int x0), .val (.int x1), .val (.int x2), .val (.ref b593), .val (.ref b646), .val (.ref b685), .val (.ref b725), .val (.ref b771), .val (.ref b823), .val (.ref b881), .val (.ref b949), .val (.ref b1036), .val (.int (1 : Int32)), .val (.int (1 : Int32)), .unset, .unset, .unset, .unset] [(.int (3 : Int32))]))
   refine own_st (fun t_ => XS.istore (own_here Y1165) hx rfl (hb hby at_487) rfl (l' := #[.val (.int x0), .val (.int x1), .val (.int x2), .val (.ref b593), .val (.ref b646), .val (.ref b685), .val (.ref b725), .val (.ref b771), .val (.ref b823), .val (.ref b881), .val (.ref b949), .val (.ref b1036), .val (.int (1 : Int32)), .val (.int (1 : Int32)), .val (.int (3 : Int32)), .unset, .unset, .unset]) rfl) ?_
   show own_Ends _ _ _ _ (T1164.setTop (mkF m 489 #[.val (.int x0), .val (.int x1), .val (.int x2), .val (.ref b593), .val (.ref b646), .val (.ref b685), .val (.ref b725), .val (.ref b771), .val (.ref b823), .val (.ref b881), .val (.ref b949), .val (.ref b1036), .val (.int (1 : Int32)), .val (.int (1 : Int32)), .val (.int (3 : Int32)), .unset, .unset, .unset] []))
   refine own_st (fun t_ => XS.aload (own_here Y1165) hx rfl (hb hby at_489) rfl rfl) ?_
   show own_Ends _ _ _ _ (T1164.setTop (mkF m 491 #[.val (.int x0), .val (.int x1), .val (.int x2), .val (.ref b593), .val (.ref b646), .val (.ref b685), .val (.ref b725), .val (.ref b771), .val (.ref b823), .val (.ref b881), .val (.ref b949), .val (.ref b1036), .val (.int (1 : Int32)), .val (.int (1 : Int32)), .val (.int (3 : Int32)), .unset, .unset, .unset] [(.ref b823)]))
   refine own_st (fun t_ => XS.iload (own_here Y1165) hx rfl (hb hby at_491) rfl) ?_
   show own_Ends _ _ _ _ (T1164.setTop (mkF m 493 #[.val (.int x0), .val (.int x1), .val (.int x2), .val (.ref b593), .val (.ref b646), .val (.ref b685), .val (.ref b725), .val (.ref b771), .val (.ref b823), .val (.ref b881), .val (.ref b949), .val (.ref b1036), .val (.int (1 : Int32)), .val (.int (1 : Int32)), .val (.int (3 : Int32)), .unset, .unset, .unset] [(.int (1 : Int32)), (.ref b823)]))
   have f1248 : own_A Z h1113 b823 .int [(.int o0), (.int o1), (.int o2), (.int o3)] := f1128.ext E1114
   have f1249 : own_A Z h1166 b823 .int [(.int o0), (.int o1), (.int o2), (.int o3)] := f1248.keep K1169 (ninS ne1065 nin0)
   refine own_ldI Y1165 hx hZ f1249 (i := 1) (by decide) (by decide) (Nat.le_of_ble_eq_true rfl) (v := (.int o1)) rfl rfl rfl (hb hby at_493) ?_
   show own_Ends _ _ _ _ (T1164.setTop (mkF m 494 #[.val (.int x0), .val (.int x1), .val (.int x2), .val (.ref b593), .val (.ref b646), .val (.ref b685), .val (.ref b725), .val (.ref b771), .val (.ref b823), .val (.ref b881), .val (.ref b949), .val (.ref b1036), .val (.int (1 : Int32)), .val (.int (1 : Int32)), .val (.int (3 : Int32)), .unset, .unset, .unset] [(.int o1)]))
   refine own_st (fun t_ => XS.istore (own_here Y1165) hx rfl (hb hby at_494) rfl (l' := #[.val (.int x0), .val (.int x1), .val (.int x2), .val (.ref b593), .val (.ref b646), .val (.ref b685), .val (.ref b725), .val (.ref b771), .val (.ref b823), .val (.ref b881), .val (.ref b949), .val (.ref b1036), .val (.int (1 : Int32)), .val (.int (1 : Int32)), .val (.int (3 : Int32)), .val (.int o1), .unset, .unset]) rfl) ?_
   show own_Ends _ _ _ _ (T1164.setTop (mkF m 496 #[.val (.int x0), .val (.int x1), .val (.int x2), .val (.ref b593), .val (.ref b646), .val (.ref b685), .val (.ref b725), .val (.ref b771), .val (.ref b823), .val (.ref b881), .val (.ref b949), .val (.ref b1036), .val (.int (1 : Int32)), .val (.int (1 : Int32)), .val (.int (3 : Int32)), .val (.int o1), .unset, .unset] []))
   refine own_st (fun t_ => XS.aload (own_here Y1165) hx rfl (hb hby at_496) rfl rfl) ?_
   show own_Ends _ _ _ _ (T1164.setTop (mkF m 498 #[.val (.int x0), .val (.int x1), .val (.int x2), .val (.ref b593), .val (.ref b646), .val (.ref b685), .val (.ref b725), .val (.ref b771), .val (.ref b823), .val (.ref b881), .val (.ref b949), .val (.ref b1036), .val (.int (1 : Int32)), .val (.int (1 : Int32)), .val (.int (3 : Int32)), .val (.int o1), .unset, .unset] [(.ref b771)]))
   refine own_st (fun t_ => XS.iload (own_here Y1165) hx rfl (hb hby at_498) rfl) ?_
   show own_Ends _ _ _ _ (T1164.setTop (mkF m 500 #[.val (.int x0), .val (.int x1), .val (.int x2), .val (.ref b593), .val (.ref b646), .val (.ref b685), .val (.ref b725), .val (.ref b771), .val (.ref b823), .val (.ref b881), .val (.ref b949), .val (.ref b1036), .val (.int (1 : Int32)), .val (.int (1 : Int32)), .val (.int (3 : Int32)), .val (.int o1), .unset, .unset] [(.int (1 : Int32)), (.ref b771)]))
   have f1250 : own_A Z h1113 b771 .int [(.int z0), (.int z1), (.int z2), (.int z3)] := f1126.ext E1114
   have f1251 : own_A Z h1166 b771 .int [(.int z0), (.int z1), (.int z2), (.int z3)] := f1250.keep K1169 (ninS ne1063 nin0)
   refine own_ldI Y1165 hx hZ f1251 (i := 1) (by decide) (by decide) (Nat.le_of_ble_eq_true rfl) (v := (.int z1)) rfl rfl rfl (hb hby at_500) ?_
   show own_Ends _ _ _ _ (T1164.setTop (mkF m 501 #[.val (.int x0), .val (.int x1), .val (.int x2), .val (.ref b593), .val (.ref b646), .val (.ref b685), .val (.ref b725), .val (.ref b771), .val (.ref b823), .val (.ref b881), .val (.ref b949), .val (.ref b1036), .val (.int (1 : Int32)), .val (.int (1 : Int32)), .val (.int (3 : Int32)), .val (.int o1), .unset, .unset] [(.int z1)]))
   refine own_st (fun t_ => XS.iconst (own_here Y1165) hx rfl (hb hby at_501) ) ?_
   show own_Ends _ _ _ _ (T1164.setTop (mkF m 502 #[.val (.int x0), .val (.int x1), .val (.int x2), .val (.ref b593), .val (.ref b646), .val (.ref b685), .val (.ref b725), .val (.ref b771), .val (.ref b823), .val (.ref b881), .val (.ref b949), .val (.ref b1036), .val (.int (1 : Int32)), .val (.int (1 : Int32)), .val (.int (3 : Int32)), .val (.int o1), .unset, .unset] [(.int (1 : Int32)), (.int z1)]))
   by_cases c502_1252 : z1 = (1 : Int32)
   ·
    refine own_st (fun t_ => XS.icmpNo (own_here Y1165) hx rfl (hb hby at_502) rfl (XT.ii_ne_f c502_1252)) ?_
    show own_Ends _ _ _ _ (T1164.setTop (mkF m 505 #[.val (.int x0), .val (.int x1), .val (.int x2), .val (.ref b593), .val (.ref b646), .val (.ref b685), .val (.ref b725), .val (.ref b771), .val (.ref b823), .val (.ref b881), .val (.ref b949), .val (.ref b1036), .val (.int (1 : Int32)), .val (.int (1 : Int32)), .val (.int (3 : Int32)), .val (.int o1), .unset, .unset] []))
    refine own_st (fun t_ => XS.aload (own_here Y1165) hx rfl (hb hby at_505) rfl rfl) ?_
    show own_Ends _ _ _ _ (T1164.setTop (mkF m 507 #[.val (.int x0), .val (.int x1), .val (.int x2), .val (.ref b593), .val (.ref b646), .val (.ref b685), .val (.ref b725), .val (.ref b771), .val (.ref b823), .val (.ref b881), .val (.ref b949), .val (.ref b1036), .val (.int (1 : Int32)), .val (.int (1 : Int32)), .val (.int (3 : Int32)), .val (.int o1), .unset, .unset] [(.ref b1036)]))
    refine own_st (fun t_ => XS.iload (own_here Y1165) hx rfl (hb hby at_507) rfl) ?_
    show own_Ends _ _ _ _ (T1164.setTop (mkF m 509 #[.val (.int x0), .val (.int x1), .val (.int x2), .val (.ref b593), .val (.ref b646), .val (.ref b685), .val (.ref b725), .val (.ref b771), .val (.ref b823), .val (.ref b881), .val (.ref b949), .val (.ref b1036), .val (.int (1 : Int32)), .val (.int (1 : Int32)), .val (.int (3 : Int32)), .val (.int o1), .unset, .unset] [(.int (1 : Int32)), (.ref b1036)]))
    refine own_st (fun t_ => XS.iconst (own_here Y1165) hx rfl (hb hby at_509) ) ?_
    show own_Ends _ _ _ _ (T1164.setTop (mkF m 510 #[.val (.int x0), .val (.int x1), .val (.int x2), .val (.ref b593), .val (.ref b646), .val (.ref b685), .val (.ref b725), .val (.ref b771), .val (.ref b823), .val (.ref b881), .val (.ref b949), .val (.ref b1036), .val (.int (1 : Int32)), .val (.int (1 : Int32)), .val (.int (3 : Int32)), .val (.int o1), .unset, .unset] [(.int (0 : Int32)), (.int (1 : Int32)), (.ref b1036)]))
    have f1253 : own_A Z h1166 b593 .int [(.int y0), (.int y1), (.int y2), (.int y3), (.int y4), (.int y5), (.int y6), (.int y7), (.int y8)] := f1160.keep K1169 (ninS ne1043 nin0)
    have f1254 : own_A Z h1113 b646 .int [(.int (0 : Int32)), (.int (3 : Int32)), (.int (6 : Int32)), (.int (9 : Int32))] := f1120.ext E1114
    have f1255 : own_A Z h1166 b646 .int [(.int (0 : Int32)), (.int (3 : Int32)), (.int (6 : Int32)), (.int (9 : Int32))] := f1254.keep K1169 (ninS ne1049 nin0)
    have f1256 : own_A Z h1113 b949 .int (w4.map Value.int) := f1132.ext E1114
    have f1257 : own_A Z h1166 b949 .int (w4.map Value.int) := f1256.keep K1169 (ninS ne1068 nin0)
    have f1258 : own_A Z h1113 b881 .int [(.int (0 : Int32)), (.int z0), (.int m2), (.int m3), (.int m4)] := f1130.ext E1114
    have f1259 : own_A Z h1166 b881 .int [(.int (0 : Int32)), (.int z0), (.int m2), (.int m3), (.int m4)] := f1258.keep K1169 (ninS ne1067 nin0)
    have f1265 : Exa Z h1166 b1036 "com/example/tierpath/tierpath/Bounds" := f1139.keep K1169
    refine own_callV Y1165 hx hZ (y := (⟨"com/example/tierpath/tierpath/Bounds", "member", "(II)I"⟩ : MethodName)) (z := (⟨"com/example/tierpath/tierpath/Bounds", "member", "(II)I"⟩ : MethodName)) hown (hw _ (List.mem_of_getElem? (i := 42) rfl)) (hw _ (List.mem_of_getElem? (i := 43) rfl)) (notFace_of_selects (args := #[]) (mvT hZ (hw _ (List.mem_of_getElem? (i := 45) rfl)))) (hw _ (List.mem_of_getElem? (i := 45) rfl)) (hw _ (List.mem_of_getElem? (i := 44) rfl)) (hw _ (List.mem_of_getElem? (i := 7) rfl)) (hw _ (List.mem_of_getElem? (i := 46) rfl)) (by decide) (a := b1036) f1265 (argsL := [(.int (1 : Int32)), (.int (0 : Int32))]) (rest := []) (own_rm6_1 l Z a0 hw [] b1036 (0 : Int32) b593 b646 sl b949 b881 [y0, y1, y2, y3, y4, y5, y6, y7, y8] w4 (0 : Int32) z0 m2 m3 m4 (k0 + 0) j1 h1166 n0  F1171 F1170 F1174 F1173 F1172 f1253 f1255 F1175 f1257 f1259 (own_add hz0k own_l0 (by omega)) (by rw [hwl4]; omega) ((congrArg Int32.toInt (hg.1 c502_1252)).trans ho1k) (by omega) rfl) (W := 0) (by decide) (by decide) (by decide) (by decide) rfl (by rw [hml]; rfl) (lenOf own_pd3 rfl) rfl (by show 2 * 0 + _ ≤ _; exact Nat.le_of_eq rfl) (hb hby at_510) (fun T1260 h1262 v1263 Y1261 q1264 => ?_)
    obtain ⟨rfl, rfl⟩ := q1264
    show own_Ends _ _ _ _ (T1260.setTop (mkF m 513 #[.val (.int x0), .val (.int x1), .val (.int x2), .val (.ref b593), .val (.ref b646), .val (.ref b685), .val (.ref b725), .val (.ref b771), .val (.ref b823), .val (.ref b881), .val (.ref b949), .val (.ref b1036), .val (.int (1 : Int32)), .val (.int (1 : Int32)), .val (.int (3 : Int32)), .val (.int o1), .unset, .unset] [(.int (own_g [y0, y1, y2, y3, y4, y5, y6, y7, y8] (3 + j1)))]))
    refine own_st (fun t_ => XS.aloadN (own_here Y1261) hx rfl (hb hby at_513) rfl rfl) ?_
    show own_Ends _ _ _ _ (T1260.setTop (mkF m 514 #[.val (.int x0), .val (.int x1), .val (.int x2), .val (.ref b593), .val (.ref b646), .val (.ref b685), .val (.ref b725), .val (.ref b771), .val (.ref b823), .val (.ref b881), .val (.ref b949), .val (.ref b1036), .val (.int (1 : Int32)), .val (.int (1 : Int32)), .val (.int (3 : Int32)), .val (.int o1), .unset, .unset] [(.ref b593), (.int (own_g [y0, y1, y2, y3, y4, y5, y6, y7, y8] (3 + j1)))]))
    refine own_st (fun t_ => XS.iload (own_here Y1261) hx rfl (hb hby at_514) rfl) ?_
    show own_Ends _ _ _ _ (T1260.setTop (mkF m 516 #[.val (.int x0), .val (.int x1), .val (.int x2), .val (.ref b593), .val (.ref b646), .val (.ref b685), .val (.ref b725), .val (.ref b771), .val (.ref b823), .val (.ref b881), .val (.ref b949), .val (.ref b1036), .val (.int (1 : Int32)), .val (.int (1 : Int32)), .val (.int (3 : Int32)), .val (.int o1), .unset, .unset] [(.int (3 : Int32)), (.ref b593), (.int (own_g [y0, y1, y2, y3, y4, y5, y6, y7, y8] (3 + j1)))]))
    refine own_st (fun t_ => XS.iload (own_here Y1261) hx rfl (hb hby at_516) rfl) ?_
    show own_Ends _ _ _ _ (T1260.setTop (mkF m 518 #[.val (.int x0), .val (.int x1), .val (.int x2), .val (.ref b593), .val (.ref b646), .val (.ref b685), .val (.ref b725), .val (.ref b771), .val (.ref b823), .val (.ref b881), .val (.ref b949), .val (.ref b1036), .val (.int (1 : Int32)), .val (.int (1 : Int32)), .val (.int (3 : Int32)), .val (.int o1), .unset, .unset] [(.int o1), (.int (3 : Int32)), (.ref b593), (.int (own_g [y0, y1, y2, y3, y4, y5, y6, y7, y8] (3 + j1)))]))
    refine own_st (fun t_ => XS.iadd (own_here Y1261) hx rfl (hb hby at_518) rfl) ?_
    show own_Ends _ _ _ _ (T1260.setTop (mkF m 519 #[.val (.int x0), .val (.int x1), .val (.int x2), .val (.ref b593), .val (.ref b646), .val (.ref b685), .val (.ref b725), .val (.ref b771), .val (.ref b823), .val (.ref b881), .val (.ref b949), .val (.ref b1036), .val (.int (1 : Int32)), .val (.int (1 : Int32)), .val (.int (3 : Int32)), .val (.int o1), .unset, .unset] [(.int ((3 : Int32) + o1)), (.ref b593), (.int (own_g [y0, y1, y2, y3, y4, y5, y6, y7, y8] (3 + j1)))]))
    obtain ⟨t0, t1⟩ := own_nat (own_add own_l3 ho1k (by omega))
    refine own_ldI Y1261 hx hZ f1253 (i := (3 + j1)) t0 t1 (own_mlen (xs := [y0, y1, y2, y3, y4, y5, y6, y7, y8]) (by show 3 + j1 < 9; omega)) (v := (.int (own_g [y0, y1, y2, y3, y4, y5, y6, y7, y8] (3 + j1)))) (own_mget (xs := [y0, y1, y2, y3, y4, y5, y6, y7, y8]) (own_mlen (by show 3 + j1 < 9; omega))) rfl rfl (hb hby at_519) ?_
    show own_Ends _ _ _ _ (T1260.setTop (mkF m 520 #[.val (.int x0), .val (.int x1), .val (.int x2), .val (.ref b593), .val (.ref b646), .val (.ref b685), .val (.ref b725), .val (.ref b771), .val (.ref b823), .val (.ref b881), .val (.ref b949), .val (.ref b1036), .val (.int (1 : Int32)), .val (.int (1 : Int32)), .val (.int (3 : Int32)), .val (.int o1), .unset, .unset] [(.int (own_g [y0, y1, y2, y3, y4, y5, y6, y7, y8] (3 + j1))), (.int (own_g [y0, y1, y2, y3, y4, y5, y6, y7, y8] (3 + j1)))]))
    refine own_st (fun t_ => XS.icmpNo (own_here Y1261) hx rfl (hb hby at_520) rfl (XT.ii_ne_f rfl)) ?_
    show own_Ends _ _ _ _ (T1260.setTop (mkF m 523 #[.val (.int x0), .val (.int x1), .val (.int x2), .val (.ref b593), .val (.ref b646), .val (.ref b685), .val (.ref b725), .val (.ref b771), .val (.ref b823), .val (.ref b881), .val (.ref b949), .val (.ref b1036), .val (.int (1 : Int32)), .val (.int (1 : Int32)), .val (.int (3 : Int32)), .val (.int o1), .unset, .unset] []))
    refine own_st (fun t_ => XS.iconst (own_here Y1261) hx rfl (hb hby at_523) ) ?_
    show own_Ends _ _ _ _ (T1260.setTop (mkF m 524 #[.val (.int x0), .val (.int x1), .val (.int x2), .val (.ref b593), .val (.ref b646), .val (.ref b685), .val (.ref b725), .val (.ref b771), .val (.ref b823), .val (.ref b881), .val (.ref b949), .val (.ref b1036), .val (.int (1 : Int32)), .val (.int (1 : Int32)), .val (.int (3 : Int32)), .val (.int o1), .unset, .unset] [(.int (1 : Int32))]))
    refine own_st (fun t_ => XS.goto (own_here Y1261) hx rfl (pc0 := 524) (pc' := 528) rfl (hb hby at_524) (by decide) (by decide)) ?_
    show own_Ends _ _ _ _ (T1260.setTop (mkF m 528 #[.val (.int x0), .val (.int x1), .val (.int x2), .val (.ref b593), .val (.ref b646), .val (.ref b685), .val (.ref b725), .val (.ref b771), .val (.ref b823), .val (.ref b881), .val (.ref b949), .val (.ref b1036), .val (.int (1 : Int32)), .val (.int (1 : Int32)), .val (.int (3 : Int32)), .val (.int o1), .unset, .unset] [(.int (1 : Int32))]))
    refine own_retN Y1261 hx hlk (t := .boolean) hret (by simp) (hb hby at_528) (by decide) (by decide) ?_
    exact rfl
   ·
    refine own_st (fun t_ => XS.icmpYes (own_here Y1165) hx rfl (pc0 := 502) (pc' := 529) rfl (hb hby at_502) rfl (XT.ii_ne_t c502_1252) (by decide) (by decide)) ?_
    show own_Ends _ _ _ _ (T1164.setTop (mkF m 529 #[.val (.int x0), .val (.int x1), .val (.int x2), .val (.ref b593), .val (.ref b646), .val (.ref b685), .val (.ref b725), .val (.ref b771), .val (.ref b823), .val (.ref b881), .val (.ref b949), .val (.ref b1036), .val (.int (1 : Int32)), .val (.int (1 : Int32)), .val (.int (3 : Int32)), .val (.int o1), .unset, .unset] []))
    have hz2 : z1 = 2 := hz112.resolve_left c502_1252
    have ho3 : o1 = 0 ∨ o1 = 1 ∨ o1 = 2 := by
      have : o1.toInt = 0 ∨ o1.toInt = 1 ∨ o1.toInt = 2 := by omega
      simp only [own_eq]; exact this
    rcases ho3 with q | q | q
    ·
     rw [q] at hg ⊢
     show own_Ends _ _ _ _ (T1164.setTop (mkF m 529 #[.val (.int x0), .val (.int x1), .val (.int x2), .val (.ref b593), .val (.ref b646), .val (.ref b685), .val (.ref b725), .val (.ref b771), .val (.ref b823), .val (.ref b881), .val (.ref b949), .val (.ref b1036), .val (.int (1 : Int32)), .val (.int (1 : Int32)), .val (.int (3 : Int32)), .val (.int (0 : Int32)), .unset, .unset] []))
     refine own_st (fun t_ => XS.iconst (own_here Y1165) hx rfl (hb hby at_529) ) ?_
     show own_Ends _ _ _ _ (T1164.setTop (mkF m 530 #[.val (.int x0), .val (.int x1), .val (.int x2), .val (.ref b593), .val (.ref b646), .val (.ref b685), .val (.ref b725), .val (.ref b771), .val (.ref b823), .val (.ref b881), .val (.ref b949), .val (.ref b1036), .val (.int (1 : Int32)), .val (.int (1 : Int32)), .val (.int (3 : Int32)), .val (.int (0 : Int32)), .unset, .unset] [(.int (0 : Int32))]))
     refine own_st (fun t_ => XS.iload (own_here Y1165) hx rfl (hb hby at_530) rfl) ?_
     show own_Ends _ _ _ _ (T1164.setTop (mkF m 532 #[.val (.int x0), .val (.int x1), .val (.int x2), .val (.ref b593), .val (.ref b646), .val (.ref b685), .val (.ref b725), .val (.ref b771), .val (.ref b823), .val (.ref b881), .val (.ref b949), .val (.ref b1036), .val (.int (1 : Int32)), .val (.int (1 : Int32)), .val (.int (3 : Int32)), .val (.int (0 : Int32)), .unset, .unset] [(.int (0 : Int32)), (.int (0 : Int32))]))
     refine own_st (fun t_ => XS.icmpYes (own_here Y1165) hx rfl (pc0 := 532) (pc' := 539) rfl (hb hby at_532) rfl (XT.ii_ge_t (by decide)) (by decide) (by decide)) ?_
     show own_Ends _ _ _ _ (T1164.setTop (mkF m 539 #[.val (.int x0), .val (.int x1), .val (.int x2), .val (.ref b593), .val (.ref b646), .val (.ref b685), .val (.ref b725), .val (.ref b771), .val (.ref b823), .val (.ref b881), .val (.ref b949), .val (.ref b1036), .val (.int (1 : Int32)), .val (.int (1 : Int32)), .val (.int (3 : Int32)), .val (.int (0 : Int32)), .unset, .unset] []))
     refine own_st (fun t_ => XS.iconst (own_here Y1165) hx rfl (hb hby at_539) ) ?_
     show own_Ends _ _ _ _ (T1164.setTop (mkF m 540 #[.val (.int x0), .val (.int x1), .val (.int x2), .val (.ref b593), .val (.ref b646), .val (.ref b685), .val (.ref b725), .val (.ref b771), .val (.ref b823), .val (.ref b881), .val (.ref b949), .val (.ref b1036), .val (.int (1 : Int32)), .val (.int (1 : Int32)), .val (.int (3 : Int32)), .val (.int (0 : Int32)), .unset, .unset] [(.int (1 : Int32))]))
     refine own_st (fun t_ => XS.istore (own_here Y1165) hx rfl (hb hby at_540) rfl (l' := #[.val (.int x0), .val (.int x1), .val (.int x2), .val (.ref b593), .val (.ref b646), .val (.ref b685), .val (.ref b725), .val (.ref b771), .val (.ref b823), .val (.ref b881), .val (.ref b949), .val (.ref b1036), .val (.int (1 : Int32)), .val (.int (1 : Int32)), .val (.int (3 : Int32)), .val (.int (0 : Int32)), .val (.int (1 : Int32)), .unset]) rfl) ?_
     show own_Ends _ _ _ _ (T1164.setTop (mkF m 542 #[.val (.int x0), .val (.int x1), .val (.int x2), .val (.ref b593), .val (.ref b646), .val (.ref b685), .val (.ref b725), .val (.ref b771), .val (.ref b823), .val (.ref b881), .val (.ref b949), .val (.ref b1036), .val (.int (1 : Int32)), .val (.int (1 : Int32)), .val (.int (3 : Int32)), .val (.int (0 : Int32)), .val (.int (1 : Int32)), .unset] []))
     refine own_st (fun t_ => XS.iconst (own_here Y1165) hx rfl (hb hby at_542) ) ?_
     show own_Ends _ _ _ _ (T1164.setTop (mkF m 543 #[.val (.int x0), .val (.int x1), .val (.int x2), .val (.ref b593), .val (.ref b646), .val (.ref b685), .val (.ref b725), .val (.ref b771), .val (.ref b823), .val (.ref b881), .val (.ref b949), .val (.ref b1036), .val (.int (1 : Int32)), .val (.int (1 : Int32)), .val (.int (3 : Int32)), .val (.int (0 : Int32)), .val (.int (1 : Int32)), .unset] [(.int (1 : Int32))]))
     refine own_st (fun t_ => XS.iload (own_here Y1165) hx rfl (hb hby at_543) rfl) ?_
     show own_Ends _ _ _ _ (T1164.setTop (mkF m 545 #[.val (.int x0), .val (.int x1), .val (.int x2), .val (.ref b593), .val (.ref b646), .val (.ref b685), .val (.ref b725), .val (.ref b771), .val (.ref b823), .val (.ref b881), .val (.ref b949), .val (.ref b1036), .val (.int (1 : Int32)), .val (.int (1 : Int32)), .val (.int (3 : Int32)), .val (.int (0 : Int32)), .val (.int (1 : Int32)), .unset] [(.int (0 : Int32)), (.int (1 : Int32))]))
     refine own_st (fun t_ => XS.icmpYes (own_here Y1165) hx rfl (pc0 := 545) (pc' := 552) rfl (hb hby at_545) rfl (XT.ii_ge_t (by decide)) (by decide) (by decide)) ?_
     show own_Ends _ _ _ _ (T1164.setTop (mkF m 552 #[.val (.int x0), .val (.int x1), .val (.int x2), .val (.ref b593), .val (.ref b646), .val (.ref b685), .val (.ref b725), .val (.ref b771), .val (.ref b823), .val (.ref b881), .val (.ref b949), .val (.ref b1036), .val (.int (1 : Int32)), .val (.int (1 : Int32)), .val (.int (3 : Int32)), .val (.int (0 : Int32)), .val (.int (1 : Int32)), .unset] []))
     refine own_st (fun t_ => XS.iconst (own_here Y1165) hx rfl (hb hby at_552) ) ?_
     show own_Ends _ _ _ _ (T1164.setTop (mkF m 553 #[.val (.int x0), .val (.int x1), .val (.int x2), .val (.ref b593), .val (.ref b646), .val (.ref b685), .val (.ref b725), .val (.ref b771), .val (.ref b823), .val (.ref b881), .val (.ref b949), .val (.ref b1036), .val (.int (1 : Int32)), .val (.int (1 : Int32)), .val (.int (3 : Int32)), .val (.int (0 : Int32)), .val (.int (1 : Int32)), .unset] [(.int (2 : Int32))]))
     refine own_st (fun t_ => XS.istore (own_here Y1165) hx rfl (hb hby at_553) rfl (l' := #[.val (.int x0), .val (.int x1), .val (.int x2), .val (.ref b593), .val (.ref b646), .val (.ref b685), .val (.ref b725), .val (.ref b771), .val (.ref b823), .val (.ref b881), .val (.ref b949), .val (.ref b1036), .val (.int (1 : Int32)), .val (.int (1 : Int32)), .val (.int (3 : Int32)), .val (.int (0 : Int32)), .val (.int (1 : Int32)), .val (.int (2 : Int32))]) rfl) ?_
     show own_Ends _ _ _ _ (T1164.setTop (mkF m 555 #[.val (.int x0), .val (.int x1), .val (.int x2), .val (.ref b593), .val (.ref b646), .val (.ref b685), .val (.ref b725), .val (.ref b771), .val (.ref b823), .val (.ref b881), .val (.ref b949), .val (.ref b1036), .val (.int (1 : Int32)), .val (.int (1 : Int32)), .val (.int (3 : Int32)), .val (.int (0 : Int32)), .val (.int (1 : Int32)), .val (.int (2 : Int32))] []))
     refine own_st (fun t_ => XS.aload (own_here Y1165) hx rfl (hb hby at_555) rfl rfl) ?_
     show own_Ends _ _ _ _ (T1164.setTop (mkF m 557 #[.val (.int x0), .val (.int x1), .val (.int x2), .val (.ref b593), .val (.ref b646), .val (.ref b685), .val (.ref b725), .val (.ref b771), .val (.ref b823), .val (.ref b881), .val (.ref b949), .val (.ref b1036), .val (.int (1 : Int32)), .val (.int (1 : Int32)), .val (.int (3 : Int32)), .val (.int (0 : Int32)), .val (.int (1 : Int32)), .val (.int (2 : Int32))] [(.ref b1036)]))
     refine own_st (fun t_ => XS.iload (own_here Y1165) hx rfl (hb hby at_557) rfl) ?_
     show own_Ends _ _ _ _ (T1164.setTop (mkF m 559 #[.val (.int x0), .val (.int x1), .val (.int x2), .val (.ref b593), .val (.ref b646), .val (.ref b685), .val (.ref b725), .val (.ref b771), .val (.ref b823), .val (.ref b881), .val (.ref b949), .val (.ref b1036), .val (.int (1 : Int32)), .val (.int (1 : Int32)), .val (.int (3 : Int32)), .val (.int (0 : Int32)), .val (.int (1 : Int32)), .val (.int (2 : Int32))] [(.int (1 : Int32)), (.ref b1036)]))
     refine own_st (fun t_ => XS.iconst (own_here Y1165) hx rfl (hb hby at_559) ) ?_
     show own_Ends _ _ _ _ (T1164.setTop (mkF m 560 #[.val (.int x0), .val (.int x1), .val (.int x2), .val (.ref b593), .val (.ref b646), .val (.ref b685), .val (.ref b725), .val (.ref b771), .val (.ref b823), .val (.ref b881), .val (.ref b949), .val (.ref b1036), .val (.int (1 : Int32)), .val (.int (1 : Int32)), .val (.int (3 : Int32)), .val (.int (0 : Int32)), .val (.int (1 : Int32)), .val (.int (2 : Int32))] [(.int (0 : Int32)), (.int (1 : Int32)), (.ref b1036)]))
     have f1266 : own_A Z h1166 b593 .int [(.int y0), (.int y1), (.int y2), (.int y3), (.int y4), (.int y5), (.int y6), (.int y7), (.int y8)] := f1160.keep K1169 (ninS ne1043 nin0)
     have f1267 : own_A Z h1113 b646 .int [(.int (0 : Int32)), (.int (3 : Int32)), (.int (6 : Int32)), (.int (9 : Int32))] := f1120.ext E1114
     have f1268 : own_A Z h1166 b646 .int [(.int (0 : Int32)), (.int (3 : Int32)), (.int (6 : Int32)), (.int (9 : Int32))] := f1267.keep K1169 (ninS ne1049 nin0)
     have f1269 : own_A Z h1113 b949 .int (w4.map Value.int) := f1132.ext E1114
     have f1270 : own_A Z h1166 b949 .int (w4.map Value.int) := f1269.keep K1169 (ninS ne1068 nin0)
     have f1271 : own_A Z h1113 b881 .int [(.int (0 : Int32)), (.int z0), (.int m2), (.int m3), (.int m4)] := f1130.ext E1114
     have f1272 : own_A Z h1166 b881 .int [(.int (0 : Int32)), (.int z0), (.int m2), (.int m3), (.int m4)] := f1271.keep K1169 (ninS ne1067 nin0)
     have f1278 : Exa Z h1166 b1036 "com/example/tierpath/tierpath/Bounds" := f1139.keep K1169
     refine own_callV Y1165 hx hZ (y := (⟨"com/example/tierpath/tierpath/Bounds", "member", "(II)I"⟩ : MethodName)) (z := (⟨"com/example/tierpath/tierpath/Bounds", "member", "(II)I"⟩ : MethodName)) hown (hw _ (List.mem_of_getElem? (i := 42) rfl)) (hw _ (List.mem_of_getElem? (i := 43) rfl)) (notFace_of_selects (args := #[]) (mvT hZ (hw _ (List.mem_of_getElem? (i := 45) rfl)))) (hw _ (List.mem_of_getElem? (i := 45) rfl)) (hw _ (List.mem_of_getElem? (i := 44) rfl)) (hw _ (List.mem_of_getElem? (i := 7) rfl)) (hw _ (List.mem_of_getElem? (i := 46) rfl)) (by decide) (a := b1036) f1278 (argsL := [(.int (1 : Int32)), (.int (0 : Int32))]) (rest := []) (own_rm6_1 l Z a0 hw [] b1036 (0 : Int32) b593 b646 sl b949 b881 [y0, y1, y2, y3, y4, y5, y6, y7, y8] w4 (0 : Int32) z0 m2 m3 m4 (k0 + 0) 1 h1166 n0  F1171 F1170 F1174 F1173 F1172 f1266 f1268 F1175 f1270 f1272 (own_add hz0k own_l0 (by omega)) (by rw [hwl4]; omega) ((congrArg Int32.toInt (hg.2 hz2).1).trans rfl) (by omega) rfl) (W := 0) (by decide) (by decide) (by decide) (by decide) rfl (by rw [hml]; rfl) (lenOf own_pd3 rfl) rfl (by show 2 * 0 + _ ≤ _; exact Nat.le_of_eq rfl) (hb hby at_560) (fun T1273 h1275 v1276 Y1274 q1277 => ?_)
     obtain ⟨rfl, rfl⟩ := q1277
     show own_Ends _ _ _ _ (T1273.setTop (mkF m 563 #[.val (.int x0), .val (.int x1), .val (.int x2), .val (.ref b593), .val (.ref b646), .val (.ref b685), .val (.ref b725), .val (.ref b771), .val (.ref b823), .val (.ref b881), .val (.ref b949), .val (.ref b1036), .val (.int (1 : Int32)), .val (.int (1 : Int32)), .val (.int (3 : Int32)), .val (.int (0 : Int32)), .val (.int (1 : Int32)), .val (.int (2 : Int32))] [(.int (own_g [y0, y1, y2, y3, y4, y5, y6, y7, y8] (3 + 1)))]))
     refine own_st (fun t_ => XS.aloadN (own_here Y1274) hx rfl (hb hby at_563) rfl rfl) ?_
     show own_Ends _ _ _ _ (T1273.setTop (mkF m 564 #[.val (.int x0), .val (.int x1), .val (.int x2), .val (.ref b593), .val (.ref b646), .val (.ref b685), .val (.ref b725), .val (.ref b771), .val (.ref b823), .val (.ref b881), .val (.ref b949), .val (.ref b1036), .val (.int (1 : Int32)), .val (.int (1 : Int32)), .val (.int (3 : Int32)), .val (.int (0 : Int32)), .val (.int (1 : Int32)), .val (.int (2 : Int32))] [(.ref b593), (.int (own_g [y0, y1, y2, y3, y4, y5, y6, y7, y8] (3 + 1)))]))
     refine own_st (fun t_ => XS.iload (own_here Y1274) hx rfl (hb hby at_564) rfl) ?_
     show own_Ends _ _ _ _ (T1273.setTop (mkF m 566 #[.val (.int x0), .val (.int x1), .val (.int x2), .val (.ref b593), .val (.ref b646), .val (.ref b685), .val (.ref b725), .val (.ref b771), .val (.ref b823), .val (.ref b881), .val (.ref b949), .val (.ref b1036), .val (.int (1 : Int32)), .val (.int (1 : Int32)), .val (.int (3 : Int32)), .val (.int (0 : Int32)), .val (.int (1 : Int32)), .val (.int (2 : Int32))] [(.int (3 : Int32)), (.ref b593), (.int (own_g [y0, y1, y2, y3, y4, y5, y6, y7, y8] (3 + 1)))]))
     refine own_st (fun t_ => XS.iload (own_here Y1274) hx rfl (hb hby at_566) rfl) ?_
     show own_Ends _ _ _ _ (T1273.setTop (mkF m 568 #[.val (.int x0), .val (.int x1), .val (.int x2), .val (.ref b593), .val (.ref b646), .val (.ref b685), .val (.ref b725), .val (.ref b771), .val (.ref b823), .val (.ref b881), .val (.ref b949), .val (.ref b1036), .val (.int (1 : Int32)), .val (.int (1 : Int32)), .val (.int (3 : Int32)), .val (.int (0 : Int32)), .val (.int (1 : Int32)), .val (.int (2 : Int32))] [(.int (1 : Int32)), (.int (3 : Int32)), (.ref b593), (.int (own_g [y0, y1, y2, y3, y4, y5, y6, y7, y8] (3 + 1)))]))
     refine own_st (fun t_ => XS.iadd (own_here Y1274) hx rfl (hb hby at_568) rfl) ?_
     show own_Ends _ _ _ _ (T1273.setTop (mkF m 569 #[.val (.int x0), .val (.int x1), .val (.int x2), .val (.ref b593), .val (.ref b646), .val (.ref b685), .val (.ref b725), .val (.ref b771), .val (.ref b823), .val (.ref b881), .val (.ref b949), .val (.ref b1036), .val (.int (1 : Int32)), .val (.int (1 : Int32)), .val (.int (3 : Int32)), .val (.int (0 : Int32)), .val (.int (1 : Int32)), .val (.int (2 : Int32))] [(.int (4 : Int32)), (.ref b593), (.int (own_g [y0, y1, y2, y3, y4, y5, y6, y7, y8] (3 + 1)))]))
     refine own_ldI Y1274 hx hZ f1266 (i := 4) (by decide) (by decide) (Nat.le_of_ble_eq_true rfl) (v := (.int y4)) rfl rfl rfl (hb hby at_569) ?_
     show own_Ends _ _ _ _ (T1273.setTop (mkF m 570 #[.val (.int x0), .val (.int x1), .val (.int x2), .val (.ref b593), .val (.ref b646), .val (.ref b685), .val (.ref b725), .val (.ref b771), .val (.ref b823), .val (.ref b881), .val (.ref b949), .val (.ref b1036), .val (.int (1 : Int32)), .val (.int (1 : Int32)), .val (.int (3 : Int32)), .val (.int (0 : Int32)), .val (.int (1 : Int32)), .val (.int (2 : Int32))] [(.int y4), (.int (own_g [y0, y1, y2, y3, y4, y5, y6, y7, y8] (3 + 1)))]))
     refine own_st (fun t_ => XS.icmpNo (own_here Y1274) hx rfl (hb hby at_570) rfl (XT.ii_ne_f rfl)) ?_
     show own_Ends _ _ _ _ (T1273.setTop (mkF m 573 #[.val (.int x0), .val (.int x1), .val (.int x2), .val (.ref b593), .val (.ref b646), .val (.ref b685), .val (.ref b725), .val (.ref b771), .val (.ref b823), .val (.ref b881), .val (.ref b949), .val (.ref b1036), .val (.int (1 : Int32)), .val (.int (1 : Int32)), .val (.int (3 : Int32)), .val (.int (0 : Int32)), .val (.int (1 : Int32)), .val (.int (2 : Int32))] []))
     refine own_st (fun t_ => XS.aload (own_here Y1274) hx rfl (hb hby at_573) rfl rfl) ?_
     show own_Ends _ _ _ _ (T1273.setTop (mkF m 575 #[.val (.int x0), .val (.int x1), .val (.int x2), .val (.ref b593), .val (.ref b646), .val (.ref b685), .val (.ref b725), .val (.ref b771), .val (.ref b823), .val (.ref b881), .val (.ref b949), .val (.ref b1036), .val (.int (1 : Int32)), .val (.int (1 : Int32)), .val (.int (3 : Int32)), .val (.int (0 : Int32)), .val (.int (1 : Int32)), .val (.int (2 : Int32))] [(.ref b1036)]))
     refine own_st (fun t_ => XS.iload (own_here Y1274) hx rfl (hb hby at_575) rfl) ?_
     show own_Ends _ _ _ _ (T1273.setTop (mkF m 577 #[.val (.int x0), .val (.int x1), .val (.int x2), .val (.ref b593), .val (.ref b646), .val (.ref b685), .val (.ref b725), .val (.ref b771), .val (.ref b823), .val (.ref b881), .val (.ref b949), .val (.ref b1036), .val (.int (1 : Int32)), .val (.int (1 : Int32)), .val (.int (3 : Int32)), .val (.int (0 : Int32)), .val (.int (1 : Int32)), .val (.int (2 : Int32))] [(.int (1 : Int32)), (.ref b1036)]))
     refine own_st (fun t_ => XS.iconst (own_here Y1274) hx rfl (hb hby at_577) ) ?_
     show own_Ends _ _ _ _ (T1273.setTop (mkF m 578 #[.val (.int x0), .val (.int x1), .val (.int x2), .val (.ref b593), .val (.ref b646), .val (.ref b685), .val (.ref b725), .val (.ref b771), .val (.ref b823), .val (.ref b881), .val (.ref b949), .val (.ref b1036), .val (.int (1 : Int32)), .val (.int (1 : Int32)), .val (.int (3 : Int32)), .val (.int (0 : Int32)), .val (.int (1 : Int32)), .val (.int (2 : Int32))] [(.int (1 : Int32)), (.int (1 : Int32)), (.ref b1036)]))
     refine own_callV Y1274 hx hZ (y := (⟨"com/example/tierpath/tierpath/Bounds", "member", "(II)I"⟩ : MethodName)) (z := (⟨"com/example/tierpath/tierpath/Bounds", "member", "(II)I"⟩ : MethodName)) hown (hw _ (List.mem_of_getElem? (i := 42) rfl)) (hw _ (List.mem_of_getElem? (i := 43) rfl)) (notFace_of_selects (args := #[]) (mvT hZ (hw _ (List.mem_of_getElem? (i := 45) rfl)))) (hw _ (List.mem_of_getElem? (i := 45) rfl)) (hw _ (List.mem_of_getElem? (i := 44) rfl)) (hw _ (List.mem_of_getElem? (i := 7) rfl)) (hw _ (List.mem_of_getElem? (i := 46) rfl)) (by decide) (a := b1036) f1278 (argsL := [(.int (1 : Int32)), (.int (1 : Int32))]) (rest := []) (own_rm6_1 l Z a0 hw [] b1036 (1 : Int32) b593 b646 sl b949 b881 [y0, y1, y2, y3, y4, y5, y6, y7, y8] w4 (0 : Int32) z0 m2 m3 m4 (k0 + 1) 2 h1166 n0  F1171 F1170 F1174 F1173 F1172 f1266 f1268 F1175 f1270 f1272 (own_add hz0k own_l1 (by omega)) (by rw [hwl4]; omega) ((congrArg Int32.toInt (hg.2 hz2).2).trans rfl) (by omega) rfl) (W := 0) (by decide) (by decide) (by decide) (by decide) rfl (by rw [hml]; rfl) (lenOf own_pd3 rfl) rfl (by show 2 * 0 + _ ≤ _; exact Nat.le_of_eq rfl) (hb hby at_578) (fun T1279 h1281 v1282 Y1280 q1283 => ?_)
     obtain ⟨rfl, rfl⟩ := q1283
     show own_Ends _ _ _ _ (T1279.setTop (mkF m 581 #[.val (.int x0), .val (.int x1), .val (.int x2), .val (.ref b593), .val (.ref b646), .val (.ref b685), .val (.ref b725), .val (.ref b771), .val (.ref b823), .val (.ref b881), .val (.ref b949), .val (.ref b1036), .val (.int (1 : Int32)), .val (.int (1 : Int32)), .val (.int (3 : Int32)), .val (.int (0 : Int32)), .val (.int (1 : Int32)), .val (.int (2 : Int32))] [(.int (own_g [y0, y1, y2, y3, y4, y5, y6, y7, y8] (3 + 2)))]))
     refine own_st (fun t_ => XS.aloadN (own_here Y1280) hx rfl (hb hby at_581) rfl rfl) ?_
     show own_Ends _ _ _ _ (T1279.setTop (mkF m 582 #[.val (.int x0), .val (.int x1), .val (.int x2), .val (.ref b593), .val (.ref b646), .val (.ref b685), .val (.ref b725), .val (.ref b771), .val (.ref b823), .val (.ref b881), .val (.ref b949), .val (.ref b1036), .val (.int (1 : Int32)), .val (.int (1 : Int32)), .val (.int (3 : Int32)), .val (.int (0 : Int32)), .val (.int (1 : Int32)), .val (.int (2 : Int32))] [(.ref b593), (.int (own_g [y0, y1, y2, y3, y4, y5, y6, y7, y8] (3 + 2)))]))
     refine own_st (fun t_ => XS.iload (own_here Y1280) hx rfl (hb hby at_582) rfl) ?_
     show own_Ends _ _ _ _ (T1279.setTop (mkF m 584 #[.val (.int x0), .val (.int x1), .val (.int x2), .val (.ref b593), .val (.ref b646), .val (.ref b685), .val (.ref b725), .val (.ref b771), .val (.ref b823), .val (.ref b881), .val (.ref b949), .val (.ref b1036), .val (.int (1 : Int32)), .val (.int (1 : Int32)), .val (.int (3 : Int32)), .val (.int (0 : Int32)), .val (.int (1 : Int32)), .val (.int (2 : Int32))] [(.int (3 : Int32)), (.ref b593), (.int (own_g [y0, y1, y2, y3, y4, y5, y6, y7, y8] (3 + 2)))]))
     refine own_st (fun t_ => XS.iload (own_here Y1280) hx rfl (hb hby at_584) rfl) ?_
     show own_Ends _ _ _ _ (T1279.setTop (mkF m 586 #[.val (.int x0), .val (.int x1), .val (.int x2), .val (.ref b593), .val (.ref b646), .val (.ref b685), .val (.ref b725), .val (.ref b771), .val (.ref b823), .val (.ref b881), .val (.ref b949), .val (.ref b1036), .val (.int (1 : Int32)), .val (.int (1 : Int32)), .val (.int (3 : Int32)), .val (.int (0 : Int32)), .val (.int (1 : Int32)), .val (.int (2 : Int32))] [(.int (2 : Int32)), (.int (3 : Int32)), (.ref b593), (.int (own_g [y0, y1, y2, y3, y4, y5, y6, y7, y8] (3 + 2)))]))
     refine own_st (fun t_ => XS.iadd (own_here Y1280) hx rfl (hb hby at_586) rfl) ?_
     show own_Ends _ _ _ _ (T1279.setTop (mkF m 587 #[.val (.int x0), .val (.int x1), .val (.int x2), .val (.ref b593), .val (.ref b646), .val (.ref b685), .val (.ref b725), .val (.ref b771), .val (.ref b823), .val (.ref b881), .val (.ref b949), .val (.ref b1036), .val (.int (1 : Int32)), .val (.int (1 : Int32)), .val (.int (3 : Int32)), .val (.int (0 : Int32)), .val (.int (1 : Int32)), .val (.int (2 : Int32))] [(.int (5 : Int32)), (.ref b593), (.int (own_g [y0, y1, y2, y3, y4, y5, y6, y7, y8] (3 + 2)))]))
     refine own_ldI Y1280 hx hZ f1266 (i := 5) (by decide) (by decide) (Nat.le_of_ble_eq_true rfl) (v := (.int y5)) rfl rfl rfl (hb hby at_587) ?_
     show own_Ends _ _ _ _ (T1279.setTop (mkF m 588 #[.val (.int x0), .val (.int x1), .val (.int x2), .val (.ref b593), .val (.ref b646), .val (.ref b685), .val (.ref b725), .val (.ref b771), .val (.ref b823), .val (.ref b881), .val (.ref b949), .val (.ref b1036), .val (.int (1 : Int32)), .val (.int (1 : Int32)), .val (.int (3 : Int32)), .val (.int (0 : Int32)), .val (.int (1 : Int32)), .val (.int (2 : Int32))] [(.int y5), (.int (own_g [y0, y1, y2, y3, y4, y5, y6, y7, y8] (3 + 2)))]))
     refine own_st (fun t_ => XS.icmpNo (own_here Y1280) hx rfl (hb hby at_588) rfl (XT.ii_ne_f rfl)) ?_
     show own_Ends _ _ _ _ (T1279.setTop (mkF m 591 #[.val (.int x0), .val (.int x1), .val (.int x2), .val (.ref b593), .val (.ref b646), .val (.ref b685), .val (.ref b725), .val (.ref b771), .val (.ref b823), .val (.ref b881), .val (.ref b949), .val (.ref b1036), .val (.int (1 : Int32)), .val (.int (1 : Int32)), .val (.int (3 : Int32)), .val (.int (0 : Int32)), .val (.int (1 : Int32)), .val (.int (2 : Int32))] []))
     refine own_st (fun t_ => XS.iconst (own_here Y1280) hx rfl (hb hby at_591) ) ?_
     show own_Ends _ _ _ _ (T1279.setTop (mkF m 592 #[.val (.int x0), .val (.int x1), .val (.int x2), .val (.ref b593), .val (.ref b646), .val (.ref b685), .val (.ref b725), .val (.ref b771), .val (.ref b823), .val (.ref b881), .val (.ref b949), .val (.ref b1036), .val (.int (1 : Int32)), .val (.int (1 : Int32)), .val (.int (3 : Int32)), .val (.int (0 : Int32)), .val (.int (1 : Int32)), .val (.int (2 : Int32))] [(.int (1 : Int32))]))
     refine own_st (fun t_ => XS.goto (own_here Y1280) hx rfl (pc0 := 592) (pc' := 596) rfl (hb hby at_592) (by decide) (by decide)) ?_
     show own_Ends _ _ _ _ (T1279.setTop (mkF m 596 #[.val (.int x0), .val (.int x1), .val (.int x2), .val (.ref b593), .val (.ref b646), .val (.ref b685), .val (.ref b725), .val (.ref b771), .val (.ref b823), .val (.ref b881), .val (.ref b949), .val (.ref b1036), .val (.int (1 : Int32)), .val (.int (1 : Int32)), .val (.int (3 : Int32)), .val (.int (0 : Int32)), .val (.int (1 : Int32)), .val (.int (2 : Int32))] [(.int (1 : Int32))]))
     refine own_retN Y1280 hx hlk (t := .boolean) hret (by simp) (hb hby at_596) (by decide) (by decide) ?_
     exact rfl
    ·
     rw [q] at hg ⊢
     show own_Ends _ _ _ _ (T1164.setTop (mkF m 529 #[.val (.int x0), .val (.int x1), .val (.int x2), .val (.ref b593), .val (.ref b646), .val (.ref b685), .val (.ref b725), .val (.ref b771), .val (.ref b823), .val (.ref b881), .val (.ref b949), .val (.ref b1036), .val (.int (1 : Int32)), .val (.int (1 : Int32)), .val (.int (3 : Int32)), .val (.int (1 : Int32)), .unset, .unset] []))
     refine own_st (fun t_ => XS.iconst (own_here Y1165) hx rfl (hb hby at_529) ) ?_
     show own_Ends _ _ _ _ (T1164.setTop (mkF m 530 #[.val (.int x0), .val (.int x1), .val (.int x2), .val (.ref b593), .val (.ref b646), .val (.ref b685), .val (.ref b725), .val (.ref b771), .val (.ref b823), .val (.ref b881), .val (.ref b949), .val (.ref b1036), .val (.int (1 : Int32)), .val (.int (1 : Int32)), .val (.int (3 : Int32)), .val (.int (1 : Int32)), .unset, .unset] [(.int (0 : Int32))]))
     refine own_st (fun t_ => XS.iload (own_here Y1165) hx rfl (hb hby at_530) rfl) ?_
     show own_Ends _ _ _ _ (T1164.setTop (mkF m 532 #[.val (.int x0), .val (.int x1), .val (.int x2), .val (.ref b593), .val (.ref b646), .val (.ref b685), .val (.ref b725), .val (.ref b771), .val (.ref b823), .val (.ref b881), .val (.ref b949), .val (.ref b1036), .val (.int (1 : Int32)), .val (.int (1 : Int32)), .val (.int (3 : Int32)), .val (.int (1 : Int32)), .unset, .unset] [(.int (1 : Int32)), (.int (0 : Int32))]))
     refine own_st (fun t_ => XS.icmpNo (own_here Y1165) hx rfl (hb hby at_532) rfl (XT.ii_ge_f (by decide))) ?_
     show own_Ends _ _ _ _ (T1164.setTop (mkF m 535 #[.val (.int x0), .val (.int x1), .val (.int x2), .val (.ref b593), .val (.ref b646), .val (.ref b685), .val (.ref b725), .val (.ref b771), .val (.ref b823), .val (.ref b881), .val (.ref b949), .val (.ref b1036), .val (.int (1 : Int32)), .val (.int (1 : Int32)), .val (.int (3 : Int32)), .val (.int (1 : Int32)), .unset, .unset] []))
     refine own_st (fun t_ => XS.iconst (own_here Y1165) hx rfl (hb hby at_535) ) ?_
     show own_Ends _ _ _ _ (T1164.setTop (mkF m 536 #[.val (.int x0), .val (.int x1), .val (.int x2), .val (.ref b593), .val (.ref b646), .val (.ref b685), .val (.ref b725), .val (.ref b771), .val (.ref b823), .val (.ref b881), .val (.ref b949), .val (.ref b1036), .val (.int (1 : Int32)), .val (.int (1 : Int32)), .val (.int (3 : Int32)), .val (.int (1 : Int32)), .unset, .unset] [(.int (0 : Int32))]))
     refine own_st (fun t_ => XS.goto (own_here Y1165) hx rfl (pc0 := 536) (pc' := 540) rfl (hb hby at_536) (by decide) (by decide)) ?_
     show own_Ends _ _ _ _ (T1164.setTop (mkF m 540 #[.val (.int x0), .val (.int x1), .val (.int x2), .val (.ref b593), .val (.ref b646), .val (.ref b685), .val (.ref b725), .val (.ref b771), .val (.ref b823), .val (.ref b881), .val (.ref b949), .val (.ref b1036), .val (.int (1 : Int32)), .val (.int (1 : Int32)), .val (.int (3 : Int32)), .val (.int (1 : Int32)), .unset, .unset] [(.int (0 : Int32))]))
     refine own_st (fun t_ => XS.istore (own_here Y1165) hx rfl (hb hby at_540) rfl (l' := #[.val (.int x0), .val (.int x1), .val (.int x2), .val (.ref b593), .val (.ref b646), .val (.ref b685), .val (.ref b725), .val (.ref b771), .val (.ref b823), .val (.ref b881), .val (.ref b949), .val (.ref b1036), .val (.int (1 : Int32)), .val (.int (1 : Int32)), .val (.int (3 : Int32)), .val (.int (1 : Int32)), .val (.int (0 : Int32)), .unset]) rfl) ?_
     show own_Ends _ _ _ _ (T1164.setTop (mkF m 542 #[.val (.int x0), .val (.int x1), .val (.int x2), .val (.ref b593), .val (.ref b646), .val (.ref b685), .val (.ref b725), .val (.ref b771), .val (.ref b823), .val (.ref b881), .val (.ref b949), .val (.ref b1036), .val (.int (1 : Int32)), .val (.int (1 : Int32)), .val (.int (3 : Int32)), .val (.int (1 : Int32)), .val (.int (0 : Int32)), .unset] []))
     refine own_st (fun t_ => XS.iconst (own_here Y1165) hx rfl (hb hby at_542) ) ?_
     show own_Ends _ _ _ _ (T1164.setTop (mkF m 543 #[.val (.int x0), .val (.int x1), .val (.int x2), .val (.ref b593), .val (.ref b646), .val (.ref b685), .val (.ref b725), .val (.ref b771), .val (.ref b823), .val (.ref b881), .val (.ref b949), .val (.ref b1036), .val (.int (1 : Int32)), .val (.int (1 : Int32)), .val (.int (3 : Int32)), .val (.int (1 : Int32)), .val (.int (0 : Int32)), .unset] [(.int (1 : Int32))]))
     refine own_st (fun t_ => XS.iload (own_here Y1165) hx rfl (hb hby at_543) rfl) ?_
     show own_Ends _ _ _ _ (T1164.setTop (mkF m 545 #[.val (.int x0), .val (.int x1), .val (.int x2), .val (.ref b593), .val (.ref b646), .val (.ref b685), .val (.ref b725), .val (.ref b771), .val (.ref b823), .val (.ref b881), .val (.ref b949), .val (.ref b1036), .val (.int (1 : Int32)), .val (.int (1 : Int32)), .val (.int (3 : Int32)), .val (.int (1 : Int32)), .val (.int (0 : Int32)), .unset] [(.int (1 : Int32)), (.int (1 : Int32))]))
     refine own_st (fun t_ => XS.icmpYes (own_here Y1165) hx rfl (pc0 := 545) (pc' := 552) rfl (hb hby at_545) rfl (XT.ii_ge_t (by decide)) (by decide) (by decide)) ?_
     show own_Ends _ _ _ _ (T1164.setTop (mkF m 552 #[.val (.int x0), .val (.int x1), .val (.int x2), .val (.ref b593), .val (.ref b646), .val (.ref b685), .val (.ref b725), .val (.ref b771), .val (.ref b823), .val (.ref b881), .val (.ref b949), .val (.ref b1036), .val (.int (1 : Int32)), .val (.int (1 : Int32)), .val (.int (3 : Int32)), .val (.int (1 : Int32)), .val (.int (0 : Int32)), .unset] []))
     refine own_st (fun t_ => XS.iconst (own_here Y1165) hx rfl (hb hby at_552) ) ?_
     show own_Ends _ _ _ _ (T1164.setTop (mkF m 553 #[.val (.int x0), .val (.int x1), .val (.int x2), .val (.ref b593), .val (.ref b646), .val (.ref b685), .val (.ref b725), .val (.ref b771), .val (.ref b823), .val (.ref b881), .val (.ref b949), .val (.ref b1036), .val (.int (1 : Int32)), .val (.int (1 : Int32)), .val (.int (3 : Int32)), .val (.int (1 : Int32)), .val (.int (0 : Int32)), .unset] [(.int (2 : Int32))]))
     refine own_st (fun t_ => XS.istore (own_here Y1165) hx rfl (hb hby at_553) rfl (l' := #[.val (.int x0), .val (.int x1), .val (.int x2), .val (.ref b593), .val (.ref b646), .val (.ref b685), .val (.ref b725), .val (.ref b771), .val (.ref b823), .val (.ref b881), .val (.ref b949), .val (.ref b1036), .val (.int (1 : Int32)), .val (.int (1 : Int32)), .val (.int (3 : Int32)), .val (.int (1 : Int32)), .val (.int (0 : Int32)), .val (.int (2 : Int32))]) rfl) ?_
     show own_Ends _ _ _ _ (T1164.setTop (mkF m 555 #[.val (.int x0), .val (.int x1), .val (.int x2), .val (.ref b593), .val (.ref b646), .val (.ref b685), .val (.ref b725), .val (.ref b771), .val (.ref b823), .val (.ref b881), .val (.ref b949), .val (.ref b1036), .val (.int (1 : Int32)), .val (.int (1 : Int32)), .val (.int (3 : Int32)), .val (.int (1 : Int32)), .val (.int (0 : Int32)), .val (.int (2 : Int32))] []))
     refine own_st (fun t_ => XS.aload (own_here Y1165) hx rfl (hb hby at_555) rfl rfl) ?_
     show own_Ends _ _ _ _ (T1164.setTop (mkF m 557 #[.val (.int x0), .val (.int x1), .val (.int x2), .val (.ref b593), .val (.ref b646), .val (.ref b685), .val (.ref b725), .val (.ref b771), .val (.ref b823), .val (.ref b881), .val (.ref b949), .val (.ref b1036), .val (.int (1 : Int32)), .val (.int (1 : Int32)), .val (.int (3 : Int32)), .val (.int (1 : Int32)), .val (.int (0 : Int32)), .val (.int (2 : Int32))] [(.ref b1036)]))
     refine own_st (fun t_ => XS.iload (own_here Y1165) hx rfl (hb hby at_557) rfl) ?_
     show own_Ends _ _ _ _ (T1164.setTop (mkF m 559 #[.val (.int x0), .val (.int x1), .val (.int x2), .val (.ref b593), .val (.ref b646), .val (.ref b685), .val (.ref b725), .val (.ref b771), .val (.ref b823), .val (.ref b881), .val (.ref b949), .val (.ref b1036), .val (.int (1 : Int32)), .val (.int (1 : Int32)), .val (.int (3 : Int32)), .val (.int (1 : Int32)), .val (.int (0 : Int32)), .val (.int (2 : Int32))] [(.int (1 : Int32)), (.ref b1036)]))
     refine own_st (fun t_ => XS.iconst (own_here Y1165) hx rfl (hb hby at_559) ) ?_
     show own_Ends _ _ _ _ (T1164.setTop (mkF m 560 #[.val (.int x0), .val (.int x1), .val (.int x2), .val (.ref b593), .val (.ref b646), .val (.ref b685), .val (.ref b725), .val (.ref b771), .val (.ref b823), .val (.ref b881), .val (.ref b949), .val (.ref b1036), .val (.int (1 : Int32)), .val (.int (1 : Int32)), .val (.int (3 : Int32)), .val (.int (1 : Int32)), .val (.int (0 : Int32)), .val (.int (2 : Int32))] [(.int (0 : Int32)), (.int (1 : Int32)), (.ref b1036)]))
     have f1284 : own_A Z h1166 b593 .int [(.int y0), (.int y1), (.int y2), (.int y3), (.int y4), (.int y5), (.int y6), (.int y7), (.int y8)] := f1160.keep K1169 (ninS ne1043 nin0)
     have f1285 : own_A Z h1113 b646 .int [(.int (0 : Int32)), (.int (3 : Int32)), (.int (6 : Int32)), (.int (9 : Int32))] := f1120.ext E1114
     have f1286 : own_A Z h1166 b646 .int [(.int (0 : Int32)), (.int (3 : Int32)), (.int (6 : Int32)), (.int (9 : Int32))] := f1285.keep K1169 (ninS ne1049 nin0)
     have f1287 : own_A Z h1113 b949 .int (w4.map Value.int) := f1132.ext E1114
     have f1288 : own_A Z h1166 b949 .int (w4.map Value.int) := f1287.keep K1169 (ninS ne1068 nin0)
     have f1289 : own_A Z h1113 b881 .int [(.int (0 : Int32)), (.int z0), (.int m2), (.int m3), (.int m4)] := f1130.ext E1114
     have f1290 : own_A Z h1166 b881 .int [(.int (0 : Int32)), (.int z0), (.int m2), (.int m3), (.int m4)] := f1289.keep K1169 (ninS ne1067 nin0)
     have f1296 : Exa Z h1166 b1036 "com/example/tierpath/tierpath/Bounds" := f1139.keep K1169
     refine own_callV Y1165 hx hZ (y := (⟨"com/example/tierpath/tierpath/Bounds", "member", "(II)I"⟩ : MethodName)) (z := (⟨"com/example/tierpath/tierpath/Bounds", "member", "(II)I"⟩ : MethodName)) hown (hw _ (List.mem_of_getElem? (i := 42) rfl)) (hw _ (List.mem_of_getElem? (i := 43) rfl)) (notFace_of_selects (args := #[]) (mvT hZ (hw _ (List.mem_of_getElem? (i := 45) rfl)))) (hw _ (List.mem_of_getElem? (i := 45) rfl)) (hw _ (List.mem_of_getElem? (i := 44) rfl)) (hw _ (List.mem_of_getElem? (i := 7) rfl)) (hw _ (List.mem_of_getElem? (i := 46) rfl)) (by decide) (a := b1036) f1296 (argsL := [(.int (1 : Int32)), (.int (0 : Int32))]) (rest := []) (own_rm6_1 l Z a0 hw [] b1036 (0 : Int32) b593 b646 sl b949 b881 [y0, y1, y2, y3, y4, y5, y6, y7, y8] w4 (0 : Int32) z0 m2 m3 m4 (k0 + 0) 0 h1166 n0  F1171 F1170 F1174 F1173 F1172 f1284 f1286 F1175 f1288 f1290 (own_add hz0k own_l0 (by omega)) (by rw [hwl4]; omega) ((congrArg Int32.toInt (hg.2 hz2).1).trans rfl) (by omega) rfl) (W := 0) (by decide) (by decide) (by decide) (by decide) rfl (by rw [hml]; rfl) (lenOf own_pd3 rfl) rfl (by show 2 * 0 + _ ≤ _; exact Nat.le_of_eq rfl) (hb hby at_560) (fun T1291 h1293 v1294 Y1292 q1295 => ?_)
     obtain ⟨rfl, rfl⟩ := q1295
     show own_Ends _ _ _ _ (T1291.setTop (mkF m 563 #[.val (.int x0), .val (.int x1), .val (.int x2), .val (.ref b593), .val (.ref b646), .val (.ref b685), .val (.ref b725), .val (.ref b771), .val (.ref b823), .val (.ref b881), .val (.ref b949), .val (.ref b1036), .val (.int (1 : Int32)), .val (.int (1 : Int32)), .val (.int (3 : Int32)), .val (.int (1 : Int32)), .val (.int (0 : Int32)), .val (.int (2 : Int32))] [(.int (own_g [y0, y1, y2, y3, y4, y5, y6, y7, y8] (3 + 0)))]))
     refine own_st (fun t_ => XS.aloadN (own_here Y1292) hx rfl (hb hby at_563) rfl rfl) ?_
     show own_Ends _ _ _ _ (T1291.setTop (mkF m 564 #[.val (.int x0), .val (.int x1), .val (.int x2), .val (.ref b593), .val (.ref b646), .val (.ref b685), .val (.ref b725), .val (.ref b771), .val (.ref b823), .val (.ref b881), .val (.ref b949), .val (.ref b1036), .val (.int (1 : Int32)), .val (.int (1 : Int32)), .val (.int (3 : Int32)), .val (.int (1 : Int32)), .val (.int (0 : Int32)), .val (.int (2 : Int32))] [(.ref b593), (.int (own_g [y0, y1, y2, y3, y4, y5, y6, y7, y8] (3 + 0)))]))
     refine own_st (fun t_ => XS.iload (own_here Y1292) hx rfl (hb hby at_564) rfl) ?_
     show own_Ends _ _ _ _ (T1291.setTop (mkF m 566 #[.val (.int x0), .val (.int x1), .val (.int x2), .val (.ref b593), .val (.ref b646), .val (.ref b685), .val (.ref b725), .val (.ref b771), .val (.ref b823), .val (.ref b881), .val (.ref b949), .val (.ref b1036), .val (.int (1 : Int32)), .val (.int (1 : Int32)), .val (.int (3 : Int32)), .val (.int (1 : Int32)), .val (.int (0 : Int32)), .val (.int (2 : Int32))] [(.int (3 : Int32)), (.ref b593), (.int (own_g [y0, y1, y2, y3, y4, y5, y6, y7, y8] (3 + 0)))]))
     refine own_st (fun t_ => XS.iload (own_here Y1292) hx rfl (hb hby at_566) rfl) ?_
     show own_Ends _ _ _ _ (T1291.setTop (mkF m 568 #[.val (.int x0), .val (.int x1), .val (.int x2), .val (.ref b593), .val (.ref b646), .val (.ref b685), .val (.ref b725), .val (.ref b771), .val (.ref b823), .val (.ref b881), .val (.ref b949), .val (.ref b1036), .val (.int (1 : Int32)), .val (.int (1 : Int32)), .val (.int (3 : Int32)), .val (.int (1 : Int32)), .val (.int (0 : Int32)), .val (.int (2 : Int32))] [(.int (0 : Int32)), (.int (3 : Int32)), (.ref b593), (.int (own_g [y0, y1, y2, y3, y4, y5, y6, y7, y8] (3 + 0)))]))
     refine own_st (fun t_ => XS.iadd (own_here Y1292) hx rfl (hb hby at_568) rfl) ?_
     show own_Ends _ _ _ _ (T1291.setTop (mkF m 569 #[.val (.int x0), .val (.int x1), .val (.int x2), .val (.ref b593), .val (.ref b646), .val (.ref b685), .val (.ref b725), .val (.ref b771), .val (.ref b823), .val (.ref b881), .val (.ref b949), .val (.ref b1036), .val (.int (1 : Int32)), .val (.int (1 : Int32)), .val (.int (3 : Int32)), .val (.int (1 : Int32)), .val (.int (0 : Int32)), .val (.int (2 : Int32))] [(.int (3 : Int32)), (.ref b593), (.int (own_g [y0, y1, y2, y3, y4, y5, y6, y7, y8] (3 + 0)))]))
     refine own_ldI Y1292 hx hZ f1284 (i := 3) (by decide) (by decide) (Nat.le_of_ble_eq_true rfl) (v := (.int y3)) rfl rfl rfl (hb hby at_569) ?_
     show own_Ends _ _ _ _ (T1291.setTop (mkF m 570 #[.val (.int x0), .val (.int x1), .val (.int x2), .val (.ref b593), .val (.ref b646), .val (.ref b685), .val (.ref b725), .val (.ref b771), .val (.ref b823), .val (.ref b881), .val (.ref b949), .val (.ref b1036), .val (.int (1 : Int32)), .val (.int (1 : Int32)), .val (.int (3 : Int32)), .val (.int (1 : Int32)), .val (.int (0 : Int32)), .val (.int (2 : Int32))] [(.int y3), (.int (own_g [y0, y1, y2, y3, y4, y5, y6, y7, y8] (3 + 0)))]))
     refine own_st (fun t_ => XS.icmpNo (own_here Y1292) hx rfl (hb hby at_570) rfl (XT.ii_ne_f rfl)) ?_
     show own_Ends _ _ _ _ (T1291.setTop (mkF m 573 #[.val (.int x0), .val (.int x1), .val (.int x2), .val (.ref b593), .val (.ref b646), .val (.ref b685), .val (.ref b725), .val (.ref b771), .val (.ref b823), .val (.ref b881), .val (.ref b949), .val (.ref b1036), .val (.int (1 : Int32)), .val (.int (1 : Int32)), .val (.int (3 : Int32)), .val (.int (1 : Int32)), .val (.int (0 : Int32)), .val (.int (2 : Int32))] []))
     refine own_st (fun t_ => XS.aload (own_here Y1292) hx rfl (hb hby at_573) rfl rfl) ?_
     show own_Ends _ _ _ _ (T1291.setTop (mkF m 575 #[.val (.int x0), .val (.int x1), .val (.int x2), .val (.ref b593), .val (.ref b646), .val (.ref b685), .val (.ref b725), .val (.ref b771), .val (.ref b823), .val (.ref b881), .val (.ref b949), .val (.ref b1036), .val (.int (1 : Int32)), .val (.int (1 : Int32)), .val (.int (3 : Int32)), .val (.int (1 : Int32)), .val (.int (0 : Int32)), .val (.int (2 : Int32))] [(.ref b1036)]))
     refine own_st (fun t_ => XS.iload (own_here Y1292) hx rfl (hb hby at_575) rfl) ?_
     show own_Ends _ _ _ _ (T1291.setTop (mkF m 577 #[.val (.int x0), .val (.int x1), .val (.int x2), .val (.ref b593), .val (.ref b646), .val (.ref b685), .val (.ref b725), .val (.ref b771), .val (.ref b823), .val (.ref b881), .val (.ref b949), .val (.ref b1036), .val (.int (1 : Int32)), .val (.int (1 : Int32)), .val (.int (3 : Int32)), .val (.int (1 : Int32)), .val (.int (0 : Int32)), .val (.int (2 : Int32))] [(.int (1 : Int32)), (.ref b1036)]))
     refine own_st (fun t_ => XS.iconst (own_here Y1292) hx rfl (hb hby at_577) ) ?_
     show own_Ends _ _ _ _ (T1291.setTop (mkF m 578 #[.val (.int x0), .val (.int x1), .val (.int x2), .val (.ref b593), .val (.ref b646), .val (.ref b685), .val (.ref b725), .val (.ref b771), .val (.ref b823), .val (.ref b881), .val (.ref b949), .val (.ref b1036), .val (.int (1 : Int32)), .val (.int (1 : Int32)), .val (.int (3 : Int32)), .val (.int (1 : Int32)), .val (.int (0 : Int32)), .val (.int (2 : Int32))] [(.int (1 : Int32)), (.int (1 : Int32)), (.ref b1036)]))
     refine own_callV Y1292 hx hZ (y := (⟨"com/example/tierpath/tierpath/Bounds", "member", "(II)I"⟩ : MethodName)) (z := (⟨"com/example/tierpath/tierpath/Bounds", "member", "(II)I"⟩ : MethodName)) hown (hw _ (List.mem_of_getElem? (i := 42) rfl)) (hw _ (List.mem_of_getElem? (i := 43) rfl)) (notFace_of_selects (args := #[]) (mvT hZ (hw _ (List.mem_of_getElem? (i := 45) rfl)))) (hw _ (List.mem_of_getElem? (i := 45) rfl)) (hw _ (List.mem_of_getElem? (i := 44) rfl)) (hw _ (List.mem_of_getElem? (i := 7) rfl)) (hw _ (List.mem_of_getElem? (i := 46) rfl)) (by decide) (a := b1036) f1296 (argsL := [(.int (1 : Int32)), (.int (1 : Int32))]) (rest := []) (own_rm6_1 l Z a0 hw [] b1036 (1 : Int32) b593 b646 sl b949 b881 [y0, y1, y2, y3, y4, y5, y6, y7, y8] w4 (0 : Int32) z0 m2 m3 m4 (k0 + 1) 2 h1166 n0  F1171 F1170 F1174 F1173 F1172 f1284 f1286 F1175 f1288 f1290 (own_add hz0k own_l1 (by omega)) (by rw [hwl4]; omega) ((congrArg Int32.toInt (hg.2 hz2).2).trans rfl) (by omega) rfl) (W := 0) (by decide) (by decide) (by decide) (by decide) rfl (by rw [hml]; rfl) (lenOf own_pd3 rfl) rfl (by show 2 * 0 + _ ≤ _; exact Nat.le_of_eq rfl) (hb hby at_578) (fun T1297 h1299 v1300 Y1298 q1301 => ?_)
     obtain ⟨rfl, rfl⟩ := q1301
     show own_Ends _ _ _ _ (T1297.setTop (mkF m 581 #[.val (.int x0), .val (.int x1), .val (.int x2), .val (.ref b593), .val (.ref b646), .val (.ref b685), .val (.ref b725), .val (.ref b771), .val (.ref b823), .val (.ref b881), .val (.ref b949), .val (.ref b1036), .val (.int (1 : Int32)), .val (.int (1 : Int32)), .val (.int (3 : Int32)), .val (.int (1 : Int32)), .val (.int (0 : Int32)), .val (.int (2 : Int32))] [(.int (own_g [y0, y1, y2, y3, y4, y5, y6, y7, y8] (3 + 2)))]))
     refine own_st (fun t_ => XS.aloadN (own_here Y1298) hx rfl (hb hby at_581) rfl rfl) ?_
     show own_Ends _ _ _ _ (T1297.setTop (mkF m 582 #[.val (.int x0), .val (.int x1), .val (.int x2), .val (.ref b593), .val (.ref b646), .val (.ref b685), .val (.ref b725), .val (.ref b771), .val (.ref b823), .val (.ref b881), .val (.ref b949), .val (.ref b1036), .val (.int (1 : Int32)), .val (.int (1 : Int32)), .val (.int (3 : Int32)), .val (.int (1 : Int32)), .val (.int (0 : Int32)), .val (.int (2 : Int32))] [(.ref b593), (.int (own_g [y0, y1, y2, y3, y4, y5, y6, y7, y8] (3 + 2)))]))
     refine own_st (fun t_ => XS.iload (own_here Y1298) hx rfl (hb hby at_582) rfl) ?_
     show own_Ends _ _ _ _ (T1297.setTop (mkF m 584 #[.val (.int x0), .val (.int x1), .val (.int x2), .val (.ref b593), .val (.ref b646), .val (.ref b685), .val (.ref b725), .val (.ref b771), .val (.ref b823), .val (.ref b881), .val (.ref b949), .val (.ref b1036), .val (.int (1 : Int32)), .val (.int (1 : Int32)), .val (.int (3 : Int32)), .val (.int (1 : Int32)), .val (.int (0 : Int32)), .val (.int (2 : Int32))] [(.int (3 : Int32)), (.ref b593), (.int (own_g [y0, y1, y2, y3, y4, y5, y6, y7, y8] (3 + 2)))]))
     refine own_st (fun t_ => XS.iload (own_here Y1298) hx rfl (hb hby at_584) rfl) ?_
     show own_Ends _ _ _ _ (T1297.setTop (mkF m 586 #[.val (.int x0), .val (.int x1), .val (.int x2), .val (.ref b593), .val (.ref b646), .val (.ref b685), .val (.ref b725), .val (.ref b771), .val (.ref b823), .val (.ref b881), .val (.ref b949), .val (.ref b1036), .val (.int (1 : Int32)), .val (.int (1 : Int32)), .val (.int (3 : Int32)), .val (.int (1 : Int32)), .val (.int (0 : Int32)), .val (.int (2 : Int32))] [(.int (2 : Int32)), (.int (3 : Int32)), (.ref b593), (.int (own_g [y0, y1, y2, y3, y4, y5, y6, y7, y8] (3 + 2)))]))
     refine own_st (fun t_ => XS.iadd (own_here Y1298) hx rfl (hb hby at_586) rfl) ?_
     show own_Ends _ _ _ _ (T1297.setTop (mkF m 587 #[.val (.int x0), .val (.int x1), .val (.int x2), .val (.ref b593), .val (.ref b646), .val (.ref b685), .val (.ref b725), .val (.ref b771), .val (.ref b823), .val (.ref b881), .val (.ref b949), .val (.ref b1036), .val (.int (1 : Int32)), .val (.int (1 : Int32)), .val (.int (3 : Int32)), .val (.int (1 : Int32)), .val (.int (0 : Int32)), .val (.int (2 : Int32))] [(.int (5 : Int32)), (.ref b593), (.int (own_g [y0, y1, y2, y3, y4, y5, y6, y7, y8] (3 + 2)))]))
     refine own_ldI Y1298 hx hZ f1284 (i := 5) (by decide) (by decide) (Nat.le_of_ble_eq_true rfl) (v := (.int y5)) rfl rfl rfl (hb hby at_587) ?_
     show own_Ends _ _ _ _ (T1297.setTop (mkF m 588 #[.val (.int x0), .val (.int x1), .val (.int x2), .val (.ref b593), .val (.ref b646), .val (.ref b685), .val (.ref b725), .val (.ref b771), .val (.ref b823), .val (.ref b881), .val (.ref b949), .val (.ref b1036), .val (.int (1 : Int32)), .val (.int (1 : Int32)), .val (.int (3 : Int32)), .val (.int (1 : Int32)), .val (.int (0 : Int32)), .val (.int (2 : Int32))] [(.int y5), (.int (own_g [y0, y1, y2, y3, y4, y5, y6, y7, y8] (3 + 2)))]))
     refine own_st (fun t_ => XS.icmpNo (own_here Y1298) hx rfl (hb hby at_588) rfl (XT.ii_ne_f rfl)) ?_
     show own_Ends _ _ _ _ (T1297.setTop (mkF m 591 #[.val (.int x0), .val (.int x1), .val (.int x2), .val (.ref b593), .val (.ref b646), .val (.ref b685), .val (.ref b725), .val (.ref b771), .val (.ref b823), .val (.ref b881), .val (.ref b949), .val (.ref b1036), .val (.int (1 : Int32)), .val (.int (1 : Int32)), .val (.int (3 : Int32)), .val (.int (1 : Int32)), .val (.int (0 : Int32)), .val (.int (2 : Int32))] []))
     refine own_st (fun t_ => XS.iconst (own_here Y1298) hx rfl (hb hby at_591) ) ?_
     show own_Ends _ _ _ _ (T1297.setTop (mkF m 592 #[.val (.int x0), .val (.int x1), .val (.int x2), .val (.ref b593), .val (.ref b646), .val (.ref b685), .val (.ref b725), .val (.ref b771), .val (.ref b823), .val (.ref b881), .val (.ref b949), .val (.ref b1036), .val (.int (1 : Int32)), .val (.int (1 : Int32)), .val (.int (3 : Int32)), .val (.int (1 : Int32)), .val (.int (0 : Int32)), .val (.int (2 : Int32))] [(.int (1 : Int32))]))
     refine own_st (fun t_ => XS.goto (own_here Y1298) hx rfl (pc0 := 592) (pc' := 596) rfl (hb hby at_592) (by decide) (by decide)) ?_
     show own_Ends _ _ _ _ (T1297.setTop (mkF m 596 #[.val (.int x0), .val (.int x1), .val (.int x2), .val (.ref b593), .val (.ref b646), .val (.ref b685), .val (.ref b725), .val (.ref b771), .val (.ref b823), .val (.ref b881), .val (.ref b949), .val (.ref b1036), .val (.int (1 : Int32)), .val (.int (1 : Int32)), .val (.int (3 : Int32)), .val (.int (1 : Int32)), .val (.int (0 : Int32)), .val (.int (2 : Int32))] [(.int (1 : Int32))]))
     refine own_retN Y1298 hx hlk (t := .boolean) hret (by simp) (hb hby at_596) (by decide) (by decide) ?_
     exact rfl
    ·
     rw [q] at hg ⊢
     show own_Ends _ _ _ _ (T1164.setTop (mkF m 529 #[.val (.int x0), .val (.int x1), .val (.int x2), .val (.ref b593), .val (.ref b646), .val (.ref b685), .val (.ref b725), .val (.ref b771), .val (.ref b823), .val (.ref b881), .val (.ref b949), .val (.ref b1036), .val (.int (1 : Int32)), .val (.int (1 : Int32)), .val (.int (3 : Int32)), .val (.int (2 : Int32)), .unset, .unset] []))
     refine own_st (fun t_ => XS.iconst (own_here Y1165) hx rfl (hb hby at_529) ) ?_
     show own_Ends _ _ _ _ (T1164.setTop (mkF m 530 #[.val (.int x0), .val (.int x1), .val (.int x2), .val (.ref b593), .val (.ref b646), .val (.ref b685), .val (.ref b725), .val (.ref b771), .val (.ref b823), .val (.ref b881), .val (.ref b949), .val (.ref b1036), .val (.int (1 : Int32)), .val (.int (1 : Int32)), .val (.int (3 : Int32)), .val (.int (2 : Int32)), .unset, .unset] [(.int (0 : Int32))]))
     refine own_st (fun t_ => XS.iload (own_here Y1165) hx rfl (hb hby at_530) rfl) ?_
     show own_Ends _ _ _ _ (T1164.setTop (mkF m 532 #[.val (.int x0), .val (.int x1), .val (.int x2), .val (.ref b593), .val (.ref b646), .val (.ref b685), .val (.ref b725), .val (.ref b771), .val (.ref b823), .val (.ref b881), .val (.ref b949), .val (.ref b1036), .val (.int (1 : Int32)), .val (.int (1 : Int32)), .val (.int (3 : Int32)), .val (.int (2 : Int32)), .unset, .unset] [(.int (2 : Int32)), (.int (0 : Int32))]))
     refine own_st (fun t_ => XS.icmpNo (own_here Y1165) hx rfl (hb hby at_532) rfl (XT.ii_ge_f (by decide))) ?_
     show own_Ends _ _ _ _ (T1164.setTop (mkF m 535 #[.val (.int x0), .val (.int x1), .val (.int x2), .val (.ref b593), .val (.ref b646), .val (.ref b685), .val (.ref b725), .val (.ref b771), .val (.ref b823), .val (.ref b881), .val (.ref b949), .val (.ref b1036), .val (.int (1 : Int32)), .val (.int (1 : Int32)), .val (.int (3 : Int32)), .val (.int (2 : Int32)), .unset, .unset] []))
     refine own_st (fun t_ => XS.iconst (own_here Y1165) hx rfl (hb hby at_535) ) ?_
     show own_Ends _ _ _ _ (T1164.setTop (mkF m 536 #[.val (.int x0), .val (.int x1), .val (.int x2), .val (.ref b593), .val (.ref b646), .val (.ref b685), .val (.ref b725), .val (.ref b771), .val (.ref b823), .val (.ref b881), .val (.ref b949), .val (.ref b1036), .val (.int (1 : Int32)), .val (.int (1 : Int32)), .val (.int (3 : Int32)), .val (.int (2 : Int32)), .unset, .unset] [(.int (0 : Int32))]))
     refine own_st (fun t_ => XS.goto (own_here Y1165) hx rfl (pc0 := 536) (pc' := 540) rfl (hb hby at_536) (by decide) (by decide)) ?_
     show own_Ends _ _ _ _ (T1164.setTop (mkF m 540 #[.val (.int x0), .val (.int x1), .val (.int x2), .val (.ref b593), .val (.ref b646), .val (.ref b685), .val (.ref b725), .val (.ref b771), .val (.ref b823), .val (.ref b881), .val (.ref b949), .val (.ref b1036), .val (.int (1 : Int32)), .val (.int (1 : Int32)), .val (.int (3 : Int32)), .val (.int (2 : Int32)), .unset, .unset] [(.int (0 : Int32))]))
     refine own_st (fun t_ => XS.istore (own_here Y1165) hx rfl (hb hby at_540) rfl (l' := #[.val (.int x0), .val (.int x1), .val (.int x2), .val (.ref b593), .val (.ref b646), .val (.ref b685), .val (.ref b725), .val (.ref b771), .val (.ref b823), .val (.ref b881), .val (.ref b949), .val (.ref b1036), .val (.int (1 : Int32)), .val (.int (1 : Int32)), .val (.int (3 : Int32)), .val (.int (2 : Int32)), .val (.int (0 : Int32)), .unset]) rfl) ?_
     show own_Ends _ _ _ _ (T1164.setTop (mkF m 542 #[.val (.int x0), .val (.int x1), .val (.int x2), .val (.ref b593), .val (.ref b646), .val (.ref b685), .val (.ref b725), .val (.ref b771), .val (.ref b823), .val (.ref b881), .val (.ref b949), .val (.ref b1036), .val (.int (1 : Int32)), .val (.int (1 : Int32)), .val (.int (3 : Int32)), .val (.int (2 : Int32)), .val (.int (0 : Int32)), .unset] []))
     refine own_st (fun t_ => XS.iconst (own_here Y1165) hx rfl (hb hby at_542) ) ?_
     show own_Ends _ _ _ _ (T1164.setTop (mkF m 543 #[.val (.int x0), .val (.int x1), .val (.int x2), .val (.ref b593), .val (.ref b646), .val (.ref b685), .val (.ref b725), .val (.ref b771), .val (.ref b823), .val (.ref b881), .val (.ref b949), .val (.ref b1036), .val (.int (1 : Int32)), .val (.int (1 : Int32)), .val (.int (3 : Int32)), .val (.int (2 : Int32)), .val (.int (0 : Int32)), .unset] [(.int (1 : Int32))]))
     refine own_st (fun t_ => XS.iload (own_here Y1165) hx rfl (hb hby at_543) rfl) ?_
     show own_Ends _ _ _ _ (T1164.setTop (mkF m 545 #[.val (.int x0), .val (.int x1), .val (.int x2), .val (.ref b593), .val (.ref b646), .val (.ref b685), .val (.ref b725), .val (.ref b771), .val (.ref b823), .val (.ref b881), .val (.ref b949), .val (.ref b1036), .val (.int (1 : Int32)), .val (.int (1 : Int32)), .val (.int (3 : Int32)), .val (.int (2 : Int32)), .val (.int (0 : Int32)), .unset] [(.int (2 : Int32)), (.int (1 : Int32))]))
     refine own_st (fun t_ => XS.icmpNo (own_here Y1165) hx rfl (hb hby at_545) rfl (XT.ii_ge_f (by decide))) ?_
     show own_Ends _ _ _ _ (T1164.setTop (mkF m 548 #[.val (.int x0), .val (.int x1), .val (.int x2), .val (.ref b593), .val (.ref b646), .val (.ref b685), .val (.ref b725), .val (.ref b771), .val (.ref b823), .val (.ref b881), .val (.ref b949), .val (.ref b1036), .val (.int (1 : Int32)), .val (.int (1 : Int32)), .val (.int (3 : Int32)), .val (.int (2 : Int32)), .val (.int (0 : Int32)), .unset] []))
     refine own_st (fun t_ => XS.iconst (own_here Y1165) hx rfl (hb hby at_548) ) ?_
     show own_Ends _ _ _ _ (T1164.setTop (mkF m 549 #[.val (.int x0), .val (.int x1), .val (.int x2), .val (.ref b593), .val (.ref b646), .val (.ref b685), .val (.ref b725), .val (.ref b771), .val (.ref b823), .val (.ref b881), .val (.ref b949), .val (.ref b1036), .val (.int (1 : Int32)), .val (.int (1 : Int32)), .val (.int (3 : Int32)), .val (.int (2 : Int32)), .val (.int (0 : Int32)), .unset] [(.int (1 : Int32))]))
     refine own_st (fun t_ => XS.goto (own_here Y1165) hx rfl (pc0 := 549) (pc' := 553) rfl (hb hby at_549) (by decide) (by decide)) ?_
     show own_Ends _ _ _ _ (T1164.setTop (mkF m 553 #[.val (.int x0), .val (.int x1), .val (.int x2), .val (.ref b593), .val (.ref b646), .val (.ref b685), .val (.ref b725), .val (.ref b771), .val (.ref b823), .val (.ref b881), .val (.ref b949), .val (.ref b1036), .val (.int (1 : Int32)), .val (.int (1 : Int32)), .val (.int (3 : Int32)), .val (.int (2 : Int32)), .val (.int (0 : Int32)), .unset] [(.int (1 : Int32))]))
     refine own_st (fun t_ => XS.istore (own_here Y1165) hx rfl (hb hby at_553) rfl (l' := #[.val (.int x0), .val (.int x1), .val (.int x2), .val (.ref b593), .val (.ref b646), .val (.ref b685), .val (.ref b725), .val (.ref b771), .val (.ref b823), .val (.ref b881), .val (.ref b949), .val (.ref b1036), .val (.int (1 : Int32)), .val (.int (1 : Int32)), .val (.int (3 : Int32)), .val (.int (2 : Int32)), .val (.int (0 : Int32)), .val (.int (1 : Int32))]) rfl) ?_
     show own_Ends _ _ _ _ (T1164.setTop (mkF m 555 #[.val (.int x0), .val (.int x1), .val (.int x2), .val (.ref b593), .val (.ref b646), .val (.ref b685), .val (.ref b725), .val (.ref b771), .val (.ref b823), .val (.ref b881), .val (.ref b949), .val (.ref b1036), .val (.int (1 : Int32)), .val (.int (1 : Int32)), .val (.int (3 : Int32)), .val (.int (2 : Int32)), .val (.int (0 : Int32)), .val (.int (1 : Int32))] []))
     refine own_st (fun t_ => XS.aload (own_here Y1165) hx rfl (hb hby at_555) rfl rfl) ?_
     show own_Ends _ _ _ _ (T1164.setTop (mkF m 557 #[.val (.int x0), .val (.int x1), .val (.int x2), .val (.ref b593), .val (.ref b646), .val (.ref b685), .val (.ref b725), .val (.ref b771), .val (.ref b823), .val (.ref b881), .val (.ref b949), .val (.ref b1036), .val (.int (1 : Int32)), .val (.int (1 : Int32)), .val (.int (3 : Int32)), .val (.int (2 : Int32)), .val (.int (0 : Int32)), .val (.int (1 : Int32))] [(.ref b1036)]))
     refine own_st (fun t_ => XS.iload (own_here Y1165) hx rfl (hb hby at_557) rfl) ?_
     show own_Ends _ _ _ _ (T1164.setTop (mkF m 559 #[.val (.int x0), .val (.int x1), .val (.int x2), .val (.ref b593), .val (.ref b646), .val (.ref b685), .val (.ref b725), .val (.ref b771), .val (.ref b823), .val (.ref b881), .val (.ref b949), .val (.ref b1036), .val (.int (1 : Int32)), .val (.int (1 : Int32)), .val (.int (3 : Int32)), .val (.int (2 : Int32)), .val (.int (0 : Int32)), .val (.int (1 : Int32))] [(.int (1 : Int32)), (.ref b1036)]))
     refine own_st (fun t_ => XS.iconst (own_here Y1165) hx rfl (hb hby at_559) ) ?_
     show own_Ends _ _ _ _ (T1164.setTop (mkF m 560 #[.val (.int x0), .val (.int x1), .val (.int x2), .val (.ref b593), .val (.ref b646), .val (.ref b685), .val (.ref b725), .val (.ref b771), .val (.ref b823), .val (.ref b881), .val (.ref b949), .val (.ref b1036), .val (.int (1 : Int32)), .val (.int (1 : Int32)), .val (.int (3 : Int32)), .val (.int (2 : Int32)), .val (.int (0 : Int32)), .val (.int (1 : Int32))] [(.int (0 : Int32)), (.int (1 : Int32)), (.ref b1036)]))
     have f1302 : own_A Z h1166 b593 .int [(.int y0), (.int y1), (.int y2), (.int y3), (.int y4), (.int y5), (.int y6), (.int y7), (.int y8)] := f1160.keep K1169 (ninS ne1043 nin0)
     have f1303 : own_A Z h1113 b646 .int [(.int (0 : Int32)), (.int (3 : Int32)), (.int (6 : Int32)), (.int (9 : Int32))] := f1120.ext E1114
     have f1304 : own_A Z h1166 b646 .int [(.int (0 : Int32)), (.int (3 : Int32)), (.int (6 : Int32)), (.int (9 : Int32))] := f1303.keep K1169 (ninS ne1049 nin0)
     have f1305 : own_A Z h1113 b949 .int (w4.map Value.int) := f1132.ext E1114
     have f1306 : own_A Z h1166 b949 .int (w4.map Value.int) := f1305.keep K1169 (ninS ne1068 nin0)
     have f1307 : own_A Z h1113 b881 .int [(.int (0 : Int32)), (.int z0), (.int m2), (.int m3), (.int m4)] := f1130.ext E1114
     have f1308 : own_A Z h1166 b881 .int [(.int (0 : Int32)), (.int z0), (.int m2), (.int m3), (.int m4)] := f1307.keep K1169 (ninS ne1067 nin0)
     have f1314 : Exa Z h1166 b1036 "com/example/tierpath/tierpath/Bounds" := f1139.keep K1169
     refine own_callV Y1165 hx hZ (y := (⟨"com/example/tierpath/tierpath/Bounds", "member", "(II)I"⟩ : MethodName)) (z := (⟨"com/example/tierpath/tierpath/Bounds", "member", "(II)I"⟩ : MethodName)) hown (hw _ (List.mem_of_getElem? (i := 42) rfl)) (hw _ (List.mem_of_getElem? (i := 43) rfl)) (notFace_of_selects (args := #[]) (mvT hZ (hw _ (List.mem_of_getElem? (i := 45) rfl)))) (hw _ (List.mem_of_getElem? (i := 45) rfl)) (hw _ (List.mem_of_getElem? (i := 44) rfl)) (hw _ (List.mem_of_getElem? (i := 7) rfl)) (hw _ (List.mem_of_getElem? (i := 46) rfl)) (by decide) (a := b1036) f1314 (argsL := [(.int (1 : Int32)), (.int (0 : Int32))]) (rest := []) (own_rm6_1 l Z a0 hw [] b1036 (0 : Int32) b593 b646 sl b949 b881 [y0, y1, y2, y3, y4, y5, y6, y7, y8] w4 (0 : Int32) z0 m2 m3 m4 (k0 + 0) 0 h1166 n0  F1171 F1170 F1174 F1173 F1172 f1302 f1304 F1175 f1306 f1308 (own_add hz0k own_l0 (by omega)) (by rw [hwl4]; omega) ((congrArg Int32.toInt (hg.2 hz2).1).trans rfl) (by omega) rfl) (W := 0) (by decide) (by decide) (by decide) (by decide) rfl (by rw [hml]; rfl) (lenOf own_pd3 rfl) rfl (by show 2 * 0 + _ ≤ _; exact Nat.le_of_eq rfl) (hb hby at_560) (fun T1309 h1311 v1312 Y1310 q1313 => ?_)
     obtain ⟨rfl, rfl⟩ := q1313
     show own_Ends _ _ _ _ (T1309.setTop (mkF m 563 #[.val (.int x0), .val (.int x1), .val (.int x2), .val (.ref b593), .val (.ref b646), .val (.ref b685), .val (.ref b725), .val (.ref b771), .val (.ref b823), .val (.ref b881), .val (.ref b949), .val (.ref b1036), .val (.int (1 : Int32)), .val (.int (1 : Int32)), .val (.int (3 : Int32)), .val (.int (2 : Int32)), .val (.int (0 : Int32)), .val (.int (1 : Int32))] [(.int (own_g [y0, y1, y2, y3, y4, y5, y6, y7, y8] (3 + 0)))]))
     refine own_st (fun t_ => XS.aloadN (own_here Y1310) hx rfl (hb hby at_563) rfl rfl) ?_
     show own_Ends _ _ _ _ (T1309.setTop (mkF m 564 #[.val (.int x0), .val (.int x1), .val (.int x2), .val (.ref b593), .val (.ref b646), .val (.ref b685), .val (.ref b725), .val (.ref b771), .val (.ref b823), .val (.ref b881), .val (.ref b949), .val (.ref b1036), .val (.int (1 : Int32)), .val (.int (1 : Int32)), .val (.int (3 : Int32)), .val (.int (2 : Int32)), .val (.int (0 : Int32)), .val (.int (1 : Int32))] [(.ref b593), (.int (own_g [y0, y1, y2, y3, y4, y5, y6, y7, y8] (3 + 0)))]))
     refine own_st (fun t_ => XS.iload (own_here Y1310) hx rfl (hb hby at_564) rfl) ?_
     show own_Ends _ _ _ _ (T1309.setTop (mkF m 566 #[.val (.int x0), .val (.int x1), .val (.int x2), .val (.ref b593), .val (.ref b646), .val (.ref b685), .val (.ref b725), .val (.ref b771), .val (.ref b823), .val (.ref b881), .val (.ref b949), .val (.ref b1036), .val (.int (1 : Int32)), .val (.int (1 : Int32)), .val (.int (3 : Int32)), .val (.int (2 : Int32)), .val (.int (0 : Int32)), .val (.int (1 : Int32))] [(.int (3 : Int32)), (.ref b593), (.int (own_g [y0, y1, y2, y3, y4, y5, y6, y7, y8] (3 + 0)))]))
     refine own_st (fun t_ => XS.iload (own_here Y1310) hx rfl (hb hby at_566) rfl) ?_
     show own_Ends _ _ _ _ (T1309.setTop (mkF m 568 #[.val (.int x0), .val (.int x1), .val (.int x2), .val (.ref b593), .val (.ref b646), .val (.ref b685), .val (.ref b725), .val (.ref b771), .val (.ref b823), .val (.ref b881), .val (.ref b949), .val (.ref b1036), .val (.int (1 : Int32)), .val (.int (1 : Int32)), .val (.int (3 : Int32)), .val (.int (2 : Int32)), .val (.int (0 : Int32)), .val (.int (1 : Int32))] [(.int (0 : Int32)), (.int (3 : Int32)), (.ref b593), (.int (own_g [y0, y1, y2, y3, y4, y5, y6, y7, y8] (3 + 0)))]))
     refine own_st (fun t_ => XS.iadd (own_here Y1310) hx rfl (hb hby at_568) rfl) ?_
     show own_Ends _ _ _ _ (T1309.setTop (mkF m 569 #[.val (.int x0), .val (.int x1), .val (.int x2), .val (.ref b593), .val (.ref b646), .val (.ref b685), .val (.ref b725), .val (.ref b771), .val (.ref b823), .val (.ref b881), .val (.ref b949), .val (.ref b1036), .val (.int (1 : Int32)), .val (.int (1 : Int32)), .val (.int (3 : Int32)), .val (.int (2 : Int32)), .val (.int (0 : Int32)), .val (.int (1 : Int32))] [(.int (3 : Int32)), (.ref b593), (.int (own_g [y0, y1, y2, y3, y4, y5, y6, y7, y8] (3 + 0)))]))
     refine own_ldI Y1310 hx hZ f1302 (i := 3) (by decide) (by decide) (Nat.le_of_ble_eq_true rfl) (v := (.int y3)) rfl rfl rfl (hb hby at_569) ?_
     show own_Ends _ _ _ _ (T1309.setTop (mkF m 570 #[.val (.int x0), .val (.int x1), .val (.int x2), .val (.ref b593), .val (.ref b646), .val (.ref b685), .val (.ref b725), .val (.ref b771), .val (.ref b823), .val (.ref b881), .val (.ref b949), .val (.ref b1036), .val (.int (1 : Int32)), .val (.int (1 : Int32)), .val (.int (3 : Int32)), .val (.int (2 : Int32)), .val (.int (0 : Int32)), .val (.int (1 : Int32))] [(.int y3), (.int (own_g [y0, y1, y2, y3, y4, y5, y6, y7, y8] (3 + 0)))]))
     refine own_st (fun t_ => XS.icmpNo (own_here Y1310) hx rfl (hb hby at_570) rfl (XT.ii_ne_f rfl)) ?_
     show own_Ends _ _ _ _ (T1309.setTop (mkF m 573 #[.val (.int x0), .val (.int x1), .val (.int x2), .val (.ref b593), .val (.ref b646), .val (.ref b685), .val (.ref b725), .val (.ref b771), .val (.ref b823), .val (.ref b881), .val (.ref b949), .val (.ref b1036), .val (.int (1 : Int32)), .val (.int (1 : Int32)), .val (.int (3 : Int32)), .val (.int (2 : Int32)), .val (.int (0 : Int32)), .val (.int (1 : Int32))] []))
     refine own_st (fun t_ => XS.aload (own_here Y1310) hx rfl (hb hby at_573) rfl rfl) ?_
     show own_Ends _ _ _ _ (T1309.setTop (mkF m 575 #[.val (.int x0), .val (.int x1), .val (.int x2), .val (.ref b593), .val (.ref b646), .val (.ref b685), .val (.ref b725), .val (.ref b771), .val (.ref b823), .val (.ref b881), .val (.ref b949), .val (.ref b1036), .val (.int (1 : Int32)), .val (.int (1 : Int32)), .val (.int (3 : Int32)), .val (.int (2 : Int32)), .val (.int (0 : Int32)), .val (.int (1 : Int32))] [(.ref b1036)]))
     refine own_st (fun t_ => XS.iload (own_here Y1310) hx rfl (hb hby at_575) rfl) ?_
     show own_Ends _ _ _ _ (T1309.setTop (mkF m 577 #[.val (.int x0), .val (.int x1), .val (.int x2), .val (.ref b593), .val (.ref b646), .val (.ref b685), .val (.ref b725), .val (.ref b771), .val (.ref b823), .val (.ref b881), .val (.ref b949), .val (.ref b1036), .val (.int (1 : Int32)), .val (.int (1 : Int32)), .val (.int (3 : Int32)), .val (.int (2 : Int32)), .val (.int (0 : Int32)), .val (.int (1 : Int32))] [(.int (1 : Int32)), (.ref b1036)]))
     refine own_st (fun t_ => XS.iconst (own_here Y1310) hx rfl (hb hby at_577) ) ?_
     show own_Ends _ _ _ _ (T1309.setTop (mkF m 578 #[.val (.int x0), .val (.int x1), .val (.int x2), .val (.ref b593), .val (.ref b646), .val (.ref b685), .val (.ref b725), .val (.ref b771), .val (.ref b823), .val (.ref b881), .val (.ref b949), .val (.ref b1036), .val (.int (1 : Int32)), .val (.int (1 : Int32)), .val (.int (3 : Int32)), .val (.int (2 : Int32)), .val (.int (0 : Int32)), .val (.int (1 : Int32))] [(.int (1 : Int32)), (.int (1 : Int32)), (.ref b1036)]))
     refine own_callV Y1310 hx hZ (y := (⟨"com/example/tierpath/tierpath/Bounds", "member", "(II)I"⟩ : MethodName)) (z := (⟨"com/example/tierpath/tierpath/Bounds", "member", "(II)I"⟩ : MethodName)) hown (hw _ (List.mem_of_getElem? (i := 42) rfl)) (hw _ (List.mem_of_getElem? (i := 43) rfl)) (notFace_of_selects (args := #[]) (mvT hZ (hw _ (List.mem_of_getElem? (i := 45) rfl)))) (hw _ (List.mem_of_getElem? (i := 45) rfl)) (hw _ (List.mem_of_getElem? (i := 44) rfl)) (hw _ (List.mem_of_getElem? (i := 7) rfl)) (hw _ (List.mem_of_getElem? (i := 46) rfl)) (by decide) (a := b1036) f1314 (argsL := [(.int (1 : Int32)), (.int (1 : Int32))]) (rest := []) (own_rm6_1 l Z a0 hw [] b1036 (1 : Int32) b593 b646 sl b949 b881 [y0, y1, y2, y3, y4, y5, y6, y7, y8] w4 (0 : Int32) z0 m2 m3 m4 (k0 + 1) 1 h1166 n0  F1171 F1170 F1174 F1173 F1172 f1302 f1304 F1175 f1306 f1308 (own_add hz0k own_l1 (by omega)) (by rw [hwl4]; omega) ((congrArg Int32.toInt (hg.2 hz2).2).trans rfl) (by omega) rfl) (W := 0) (by decide) (by decide) (by decide) (by decide) rfl (by rw [hml]; rfl) (lenOf own_pd3 rfl) rfl (by show 2 * 0 + _ ≤ _; exact Nat.le_of_eq rfl) (hb hby at_578) (fun T1315 h1317 v1318 Y1316 q1319 => ?_)
     obtain ⟨rfl, rfl⟩ := q1319
     show own_Ends _ _ _ _ (T1315.setTop (mkF m 581 #[.val (.int x0), .val (.int x1), .val (.int x2), .val (.ref b593), .val (.ref b646), .val (.ref b685), .val (.ref b725), .val (.ref b771), .val (.ref b823), .val (.ref b881), .val (.ref b949), .val (.ref b1036), .val (.int (1 : Int32)), .val (.int (1 : Int32)), .val (.int (3 : Int32)), .val (.int (2 : Int32)), .val (.int (0 : Int32)), .val (.int (1 : Int32))] [(.int (own_g [y0, y1, y2, y3, y4, y5, y6, y7, y8] (3 + 1)))]))
     refine own_st (fun t_ => XS.aloadN (own_here Y1316) hx rfl (hb hby at_581) rfl rfl) ?_
     show own_Ends _ _ _ _ (T1315.setTop (mkF m 582 #[.val (.int x0), .val (.int x1), .val (.int x2), .val (.ref b593), .val (.ref b646), .val (.ref b685), .val (.ref b725), .val (.ref b771), .val (.ref b823), .val (.ref b881), .val (.ref b949), .val (.ref b1036), .val (.int (1 : Int32)), .val (.int (1 : Int32)), .val (.int (3 : Int32)), .val (.int (2 : Int32)), .val (.int (0 : Int32)), .val (.int (1 : Int32))] [(.ref b593), (.int (own_g [y0, y1, y2, y3, y4, y5, y6, y7, y8] (3 + 1)))]))
     refine own_st (fun t_ => XS.iload (own_here Y1316) hx rfl (hb hby at_582) rfl) ?_
     show own_Ends _ _ _ _ (T1315.setTop (mkF m 584 #[.val (.int x0), .val (.int x1), .val (.int x2), .val (.ref b593), .val (.ref b646), .val (.ref b685), .val (.ref b725), .val (.ref b771), .val (.ref b823), .val (.ref b881), .val (.ref b949), .val (.ref b1036), .val (.int (1 : Int32)), .val (.int (1 : Int32)), .val (.int (3 : Int32)), .val (.int (2 : Int32)), .val (.int (0 : Int32)), .val (.int (1 : Int32))] [(.int (3 : Int32)), (.ref b593), (.int (own_g [y0, y1, y2, y3, y4, y5, y6, y7, y8] (3 + 1)))]))
     refine own_st (fun t_ => XS.iload (own_here Y1316) hx rfl (hb hby at_584) rfl) ?_
     show own_Ends _ _ _ _ (T1315.setTop (mkF m 586 #[.val (.int x0), .val (.int x1), .val (.int x2), .val (.ref b593), .val (.ref b646), .val (.ref b685), .val (.ref b725), .val (.ref b771), .val (.ref b823), .val (.ref b881), .val (.ref b949), .val (.ref b1036), .val (.int (1 : Int32)), .val (.int (1 : Int32)), .val (.int (3 : Int32)), .val (.int (2 : Int32)), .val (.int (0 : Int32)), .val (.int (1 : Int32))] [(.int (1 : Int32)), (.int (3 : Int32)), (.ref b593), (.int (own_g [y0, y1, y2, y3, y4, y5, y6, y7, y8] (3 + 1)))]))
     refine own_st (fun t_ => XS.iadd (own_here Y1316) hx rfl (hb hby at_586) rfl) ?_
     show own_Ends _ _ _ _ (T1315.setTop (mkF m 587 #[.val (.int x0), .val (.int x1), .val (.int x2), .val (.ref b593), .val (.ref b646), .val (.ref b685), .val (.ref b725), .val (.ref b771), .val (.ref b823), .val (.ref b881), .val (.ref b949), .val (.ref b1036), .val (.int (1 : Int32)), .val (.int (1 : Int32)), .val (.int (3 : Int32)), .val (.int (2 : Int32)), .val (.int (0 : Int32)), .val (.int (1 : Int32))] [(.int (4 : Int32)), (.ref b593), (.int (own_g [y0, y1, y2, y3, y4, y5, y6, y7, y8] (3 + 1)))]))
     refine own_ldI Y1316 hx hZ f1302 (i := 4) (by decide) (by decide) (Nat.le_of_ble_eq_true rfl) (v := (.int y4)) rfl rfl rfl (hb hby at_587) ?_
     show own_Ends _ _ _ _ (T1315.setTop (mkF m 588 #[.val (.int x0), .val (.int x1), .val (.int x2), .val (.ref b593), .val (.ref b646), .val (.ref b685), .val (.ref b725), .val (.ref b771), .val (.ref b823), .val (.ref b881), .val (.ref b949), .val (.ref b1036), .val (.int (1 : Int32)), .val (.int (1 : Int32)), .val (.int (3 : Int32)), .val (.int (2 : Int32)), .val (.int (0 : Int32)), .val (.int (1 : Int32))] [(.int y4), (.int (own_g [y0, y1, y2, y3, y4, y5, y6, y7, y8] (3 + 1)))]))
     refine own_st (fun t_ => XS.icmpNo (own_here Y1316) hx rfl (hb hby at_588) rfl (XT.ii_ne_f rfl)) ?_
     show own_Ends _ _ _ _ (T1315.setTop (mkF m 591 #[.val (.int x0), .val (.int x1), .val (.int x2), .val (.ref b593), .val (.ref b646), .val (.ref b685), .val (.ref b725), .val (.ref b771), .val (.ref b823), .val (.ref b881), .val (.ref b949), .val (.ref b1036), .val (.int (1 : Int32)), .val (.int (1 : Int32)), .val (.int (3 : Int32)), .val (.int (2 : Int32)), .val (.int (0 : Int32)), .val (.int (1 : Int32))] []))
     refine own_st (fun t_ => XS.iconst (own_here Y1316) hx rfl (hb hby at_591) ) ?_
     show own_Ends _ _ _ _ (T1315.setTop (mkF m 592 #[.val (.int x0), .val (.int x1), .val (.int x2), .val (.ref b593), .val (.ref b646), .val (.ref b685), .val (.ref b725), .val (.ref b771), .val (.ref b823), .val (.ref b881), .val (.ref b949), .val (.ref b1036), .val (.int (1 : Int32)), .val (.int (1 : Int32)), .val (.int (3 : Int32)), .val (.int (2 : Int32)), .val (.int (0 : Int32)), .val (.int (1 : Int32))] [(.int (1 : Int32))]))
     refine own_st (fun t_ => XS.goto (own_here Y1316) hx rfl (pc0 := 592) (pc' := 596) rfl (hb hby at_592) (by decide) (by decide)) ?_
     show own_Ends _ _ _ _ (T1315.setTop (mkF m 596 #[.val (.int x0), .val (.int x1), .val (.int x2), .val (.ref b593), .val (.ref b646), .val (.ref b685), .val (.ref b725), .val (.ref b771), .val (.ref b823), .val (.ref b881), .val (.ref b949), .val (.ref b1036), .val (.int (1 : Int32)), .val (.int (1 : Int32)), .val (.int (3 : Int32)), .val (.int (2 : Int32)), .val (.int (0 : Int32)), .val (.int (1 : Int32))] [(.int (1 : Int32))]))
     refine own_retN Y1316 hx hlk (t := .boolean) hret (by simp) (hb hby at_596) (by decide) (by decide) ?_
     exact rfl
  ·
   have hg := hfin.2.2.1
   show own_Ends _ _ _ _ (T1164.setTop (mkF m 461 #[.val (.int x0), .val (.int x1), .val (.int x2), .val (.ref b593), .val (.ref b646), .val (.ref b685), .val (.ref b725), .val (.ref b771), .val (.ref b823), .val (.ref b881), .val (.ref b949), .val (.ref b1036), .val (.int (2 : Int32)), .unset, .unset, .unset, .unset, .unset] []))
   refine own_st (fun t_ => XS.iload (own_here Y1165) hx rfl (hb hby at_461) rfl) ?_
   show own_Ends _ _ _ _ (T1164.setTop (mkF m 463 #[.val (.int x0), .val (.int x1), .val (.int x2), .val (.ref b593), .val (.ref b646), .val (.ref b685), .val (.ref b725), .val (.ref b771), .val (.ref b823), .val (.ref b881), .val (.ref b949), .val (.ref b1036), .val (.int (2 : Int32)), .unset, .unset, .unset, .unset, .unset] [(.int (2 : Int32))]))
   refine own_st (fun t_ => XS.ifYes (own_here Y1165) hx rfl (pc0 := 463) (pc' := 470) rfl (hb hby at_463) rfl (XT.i0_ne_t (by decide)) (by decide) (by decide)) ?_
   show own_Ends _ _ _ _ (T1164.setTop (mkF m 470 #[.val (.int x0), .val (.int x1), .val (.int x2), .val (.ref b593), .val (.ref b646), .val (.ref b685), .val (.ref b725), .val (.ref b771), .val (.ref b823), .val (.ref b881), .val (.ref b949), .val (.ref b1036), .val (.int (2 : Int32)), .unset, .unset, .unset, .unset, .unset] []))
   refine own_st (fun t_ => XS.iload (own_here Y1165) hx rfl (hb hby at_470) rfl) ?_
   show own_Ends _ _ _ _ (T1164.setTop (mkF m 472 #[.val (.int x0), .val (.int x1), .val (.int x2), .val (.ref b593), .val (.ref b646), .val (.ref b685), .val (.ref b725), .val (.ref b771), .val (.ref b823), .val (.ref b881), .val (.ref b949), .val (.ref b1036), .val (.int (2 : Int32)), .unset, .unset, .unset, .unset, .unset] [(.int (2 : Int32))]))
   refine own_st (fun t_ => XS.iconst (own_here Y1165) hx rfl (hb hby at_472) ) ?_
   show own_Ends _ _ _ _ (T1164.setTop (mkF m 473 #[.val (.int x0), .val (.int x1), .val (.int x2), .val (.ref b593), .val (.ref b646), .val (.ref b685), .val (.ref b725), .val (.ref b771), .val (.ref b823), .val (.ref b881), .val (.ref b949), .val (.ref b1036), .val (.int (2 : Int32)), .unset, .unset, .unset, .unset, .unset] [(.int (3 : Int32)), (.int (2 : Int32))]))
   refine own_st (fun t_ => XS.icmpYes (own_here Y1165) hx rfl (pc0 := 473) (pc' := 480) rfl (hb hby at_473) rfl (XT.ii_ne_t (by decide)) (by decide) (by decide)) ?_
   show own_Ends _ _ _ _ (T1164.setTop (mkF m 480 #[.val (.int x0), .val (.int x1), .val (.int x2), .val (.ref b593), .val (.ref b646), .val (.ref b685), .val (.ref b725), .val (.ref b771), .val (.ref b823), .val (.ref b881), .val (.ref b949), .val (.ref b1036), .val (.int (2 : Int32)), .unset, .unset, .unset, .unset, .unset] []))
   refine own_st (fun t_ => XS.iconst (own_here Y1165) hx rfl (hb hby at_480) ) ?_
   show own_Ends _ _ _ _ (T1164.setTop (mkF m 481 #[.val (.int x0), .val (.int x1), .val (.int x2), .val (.ref b593), .val (.ref b646), .val (.ref b685), .val (.ref b725), .val (.ref b771), .val (.ref b823), .val (.ref b881), .val (.ref b949), .val (.ref b1036), .val (.int (2 : Int32)), .unset, .unset, .unset, .unset, .unset] [(.int (1 : Int32))]))
   refine own_st (fun t_ => XS.istore (own_here Y1165) hx rfl (hb hby at_481) rfl (l' := #[.val (.int x0), .val (.int x1), .val (.int x2), .val (.ref b593), .val (.ref b646), .val (.ref b685), .val (.ref b725), .val (.ref b771), .val (.ref b823), .val (.ref b881), .val (.ref b949), .val (.ref b1036), .val (.int (2 : Int32)), .val (.int (1 : Int32)), .unset, .unset, .unset, .unset]) rfl) ?_
   show own_Ends _ _ _ _ (T1164.setTop (mkF m 483 #[.val (.int x0), .val (.int x1), .val (.int x2), .val (.ref b593), .val (.ref b646), .val (.ref b685), .val (.ref b725), .val (.ref b771), .val (.ref b823), .val (.ref b881), .val (.ref b949), .val (.ref b1036), .val (.int (2 : Int32)), .val (.int (1 : Int32)), .unset, .unset, .unset, .unset] []))
   refine own_st (fun t_ => XS.iconst (own_here Y1165) hx rfl (hb hby at_483) ) ?_
   show own_Ends _ _ _ _ (T1164.setTop (mkF m 484 #[.val (.int x0), .val (.int x1), .val (.int x2), .val (.ref b593), .val (.ref b646), .val (.ref b685), .val (.ref b725), .val (.ref b771), .val (.ref b823), .val (.ref b881), .val (.ref b949), .val (.ref b1036), .val (.int (2 : Int32)), .val (.int (1 : Int32)), .unset, .unset, .unset, .unset] [(.int (3 : Int32))]))
   refine own_st (fun t_ => XS.iload (own_here Y1165) hx rfl (hb hby at_484) rfl) ?_
   show own_Ends _ _ _ _ (T1164.setTop (mkF m 486 #[.val (.int x0), .val (.int x1), .val (.int x2), .val (.ref b593), .val (.ref b646), .val (.ref b685), .val (.ref b725), .val (.ref b771), .val (.ref b823), .val (.ref b881), .val (.ref b949), .val (.ref b1036), .val (.int (2 : Int32)), .val (.int (1 : Int32)), .unset, .unset, .unset, .unset] [(.int (1 : Int32)), (.int (3 : Int32))]))
   refine own_st (fun t_ => XS.imul (own_here Y1165) hx rfl (hb hby at_486) rfl) ?_
   show own_Ends _ _ _ _ (T1164.setTop (mkF m 487 #[.val (.int x0), .val (.int x1), .val (.int x2), .val (.ref b593), .val (.ref b646), .val (.ref b685), .val (.ref b725), .val (.ref b771), .val (.ref b823), .val (.ref b881), .val (.ref b949), .val (.ref b1036), .val (.int (2 : Int32)), .val (.int (1 : Int32)), .unset, .unset, .unset, .unset] [(.int (3 : Int32))]))
   refine own_st (fun t_ => XS.istore (own_here Y1165) hx rfl (hb hby at_487) rfl (l' := #[.val (.int x0), .val (.int x1), .val (.int x2), .val (.ref b593), .val (.ref b646), .val (.ref b685), .val (.ref b725), .val (.ref b771), .val (.ref b823), .val (.ref b881), .val (.ref b949), .val (.ref b1036), .val (.int (2 : Int32)), .val (.int (1 : Int32)), .val (.int (3 : Int32)), .unset, .unset, .unset]) rfl) ?_
   show own_Ends _ _ _ _ (T1164.setTop (mkF m 489 #[.val (.int x0), .val (.int x1), .val (.int x2), .val (.ref b593), .val (.ref b646), .val (.ref b685), .val (.ref b725), .val (.ref b771), .val (.ref b823), .val (.ref b881), .val (.ref b949), .val (.ref b1036), .val (.int (2 : Int32)), .val (.int (1 : Int32)), .val (.int (3 : Int32)), .unset, .unset, .unset] []))
   refine own_st (fun t_ => XS.aload (own_here Y1165) hx rfl (hb hby at_489) rfl rfl) ?_
   show own_Ends _ _ _ _ (T1164.setTop (mkF m 491 #[.val (.int x0), .val (.int x1), .val (.int x2), .val (.ref b593), .val (.ref b646), .val (.ref b685), .val (.ref b725), .val (.ref b771), .val (.ref b823), .val (.ref b881), .val (.ref b949), .val (.ref b1036), .val (.int (2 : Int32)), .val (.int (1 : Int32)), .val (.int (3 : Int32)), .unset, .unset, .unset] [(.ref b823)]))
   refine own_st (fun t_ => XS.iload (own_here Y1165) hx rfl (hb hby at_491) rfl) ?_
   show own_Ends _ _ _ _ (T1164.setTop (mkF m 493 #[.val (.int x0), .val (.int x1), .val (.int x2), .val (.ref b593), .val (.ref b646), .val (.ref b685), .val (.ref b725), .val (.ref b771), .val (.ref b823), .val (.ref b881), .val (.ref b949), .val (.ref b1036), .val (.int (2 : Int32)), .val (.int (1 : Int32)), .val (.int (3 : Int32)), .unset, .unset, .unset] [(.int (2 : Int32)), (.ref b823)]))
   have f1320 : own_A Z h1113 b823 .int [(.int o0), (.int o1), (.int o2), (.int o3)] := f1128.ext E1114
   have f1321 : own_A Z h1166 b823 .int [(.int o0), (.int o1), (.int o2), (.int o3)] := f1320.keep K1169 (ninS ne1065 nin0)
   refine own_ldI Y1165 hx hZ f1321 (i := 2) (by decide) (by decide) (Nat.le_of_ble_eq_true rfl) (v := (.int o2)) rfl rfl rfl (hb hby at_493) ?_
   show own_Ends _ _ _ _ (T1164.setTop (mkF m 494 #[.val (.int x0), .val (.int x1), .val (.int x2), .val (.ref b593), .val (.ref b646), .val (.ref b685), .val (.ref b725), .val (.ref b771), .val (.ref b823), .val (.ref b881), .val (.ref b949), .val (.ref b1036), .val (.int (2 : Int32)), .val (.int (1 : Int32)), .val (.int (3 : Int32)), .unset, .unset, .unset] [(.int o2)]))
   refine own_st (fun t_ => XS.istore (own_here Y1165) hx rfl (hb hby at_494) rfl (l' := #[.val (.int x0), .val (.int x1), .val (.int x2), .val (.ref b593), .val (.ref b646), .val (.ref b685), .val (.ref b725), .val (.ref b771), .val (.ref b823), .val (.ref b881), .val (.ref b949), .val (.ref b1036), .val (.int (2 : Int32)), .val (.int (1 : Int32)), .val (.int (3 : Int32)), .val (.int o2), .unset, .unset]) rfl) ?_
   show own_Ends _ _ _ _ (T1164.setTop (mkF m 496 #[.val (.int x0), .val (.int x1), .val (.int x2), .val (.ref b593), .val (.ref b646), .val (.ref b685), .val (.ref b725), .val (.ref b771), .val (.ref b823), .val (.ref b881), .val (.ref b949), .val (.ref b1036), .val (.int (2 : Int32)), .val (.int (1 : Int32)), .val (.int (3 : Int32)), .val (.int o2), .unset, .unset] []))
   refine own_st (fun t_ => XS.aload (own_here Y1165) hx rfl (hb hby at_496) rfl rfl) ?_
   show own_Ends _ _ _ _ (T1164.setTop (mkF m 498 #[.val (.int x0), .val (.int x1), .val (.int x2), .val (.ref b593), .val (.ref b646), .val (.ref b685), .val (.ref b725), .val (.ref b771), .val (.ref b823), .val (.ref b881), .val (.ref b949), .val (.ref b1036), .val (.int (2 : Int32)), .val (.int (1 : Int32)), .val (.int (3 : Int32)), .val (.int o2), .unset, .unset] [(.ref b771)]))
   refine own_st (fun t_ => XS.iload (own_here Y1165) hx rfl (hb hby at_498) rfl) ?_
   show own_Ends _ _ _ _ (T1164.setTop (mkF m 500 #[.val (.int x0), .val (.int x1), .val (.int x2), .val (.ref b593), .val (.ref b646), .val (.ref b685), .val (.ref b725), .val (.ref b771), .val (.ref b823), .val (.ref b881), .val (.ref b949), .val (.ref b1036), .val (.int (2 : Int32)), .val (.int (1 : Int32)), .val (.int (3 : Int32)), .val (.int o2), .unset, .unset] [(.int (2 : Int32)), (.ref b771)]))
   have f1322 : own_A Z h1113 b771 .int [(.int z0), (.int z1), (.int z2), (.int z3)] := f1126.ext E1114
   have f1323 : own_A Z h1166 b771 .int [(.int z0), (.int z1), (.int z2), (.int z3)] := f1322.keep K1169 (ninS ne1063 nin0)
   refine own_ldI Y1165 hx hZ f1323 (i := 2) (by decide) (by decide) (Nat.le_of_ble_eq_true rfl) (v := (.int z2)) rfl rfl rfl (hb hby at_500) ?_
   show own_Ends _ _ _ _ (T1164.setTop (mkF m 501 #[.val (.int x0), .val (.int x1), .val (.int x2), .val (.ref b593), .val (.ref b646), .val (.ref b685), .val (.ref b725), .val (.ref b771), .val (.ref b823), .val (.ref b881), .val (.ref b949), .val (.ref b1036), .val (.int (2 : Int32)), .val (.int (1 : Int32)), .val (.int (3 : Int32)), .val (.int o2), .unset, .unset] [(.int z2)]))
   refine own_st (fun t_ => XS.iconst (own_here Y1165) hx rfl (hb hby at_501) ) ?_
   show own_Ends _ _ _ _ (T1164.setTop (mkF m 502 #[.val (.int x0), .val (.int x1), .val (.int x2), .val (.ref b593), .val (.ref b646), .val (.ref b685), .val (.ref b725), .val (.ref b771), .val (.ref b823), .val (.ref b881), .val (.ref b949), .val (.ref b1036), .val (.int (2 : Int32)), .val (.int (1 : Int32)), .val (.int (3 : Int32)), .val (.int o2), .unset, .unset] [(.int (1 : Int32)), (.int z2)]))
   by_cases c502_1324 : z2 = (1 : Int32)
   ·
    refine own_st (fun t_ => XS.icmpNo (own_here Y1165) hx rfl (hb hby at_502) rfl (XT.ii_ne_f c502_1324)) ?_
    show own_Ends _ _ _ _ (T1164.setTop (mkF m 505 #[.val (.int x0), .val (.int x1), .val (.int x2), .val (.ref b593), .val (.ref b646), .val (.ref b685), .val (.ref b725), .val (.ref b771), .val (.ref b823), .val (.ref b881), .val (.ref b949), .val (.ref b1036), .val (.int (2 : Int32)), .val (.int (1 : Int32)), .val (.int (3 : Int32)), .val (.int o2), .unset, .unset] []))
    refine own_st (fun t_ => XS.aload (own_here Y1165) hx rfl (hb hby at_505) rfl rfl) ?_
    show own_Ends _ _ _ _ (T1164.setTop (mkF m 507 #[.val (.int x0), .val (.int x1), .val (.int x2), .val (.ref b593), .val (.ref b646), .val (.ref b685), .val (.ref b725), .val (.ref b771), .val (.ref b823), .val (.ref b881), .val (.ref b949), .val (.ref b1036), .val (.int (2 : Int32)), .val (.int (1 : Int32)), .val (.int (3 : Int32)), .val (.int o2), .unset, .unset] [(.ref b1036)]))
    refine own_st (fun t_ => XS.iload (own_here Y1165) hx rfl (hb hby at_507) rfl) ?_
    show own_Ends _ _ _ _ (T1164.setTop (mkF m 509 #[.val (.int x0), .val (.int x1), .val (.int x2), .val (.ref b593), .val (.ref b646), .val (.ref b685), .val (.ref b725), .val (.ref b771), .val (.ref b823), .val (.ref b881), .val (.ref b949), .val (.ref b1036), .val (.int (2 : Int32)), .val (.int (1 : Int32)), .val (.int (3 : Int32)), .val (.int o2), .unset, .unset] [(.int (2 : Int32)), (.ref b1036)]))
    refine own_st (fun t_ => XS.iconst (own_here Y1165) hx rfl (hb hby at_509) ) ?_
    show own_Ends _ _ _ _ (T1164.setTop (mkF m 510 #[.val (.int x0), .val (.int x1), .val (.int x2), .val (.ref b593), .val (.ref b646), .val (.ref b685), .val (.ref b725), .val (.ref b771), .val (.ref b823), .val (.ref b881), .val (.ref b949), .val (.ref b1036), .val (.int (2 : Int32)), .val (.int (1 : Int32)), .val (.int (3 : Int32)), .val (.int o2), .unset, .unset] [(.int (0 : Int32)), (.int (2 : Int32)), (.ref b1036)]))
    have f1325 : own_A Z h1166 b593 .int [(.int y0), (.int y1), (.int y2), (.int y3), (.int y4), (.int y5), (.int y6), (.int y7), (.int y8)] := f1160.keep K1169 (ninS ne1043 nin0)
    have f1326 : own_A Z h1113 b646 .int [(.int (0 : Int32)), (.int (3 : Int32)), (.int (6 : Int32)), (.int (9 : Int32))] := f1120.ext E1114
    have f1327 : own_A Z h1166 b646 .int [(.int (0 : Int32)), (.int (3 : Int32)), (.int (6 : Int32)), (.int (9 : Int32))] := f1326.keep K1169 (ninS ne1049 nin0)
    have f1328 : own_A Z h1113 b949 .int (w4.map Value.int) := f1132.ext E1114
    have f1329 : own_A Z h1166 b949 .int (w4.map Value.int) := f1328.keep K1169 (ninS ne1068 nin0)
    have f1330 : own_A Z h1113 b881 .int [(.int (0 : Int32)), (.int z0), (.int m2), (.int m3), (.int m4)] := f1130.ext E1114
    have f1331 : own_A Z h1166 b881 .int [(.int (0 : Int32)), (.int z0), (.int m2), (.int m3), (.int m4)] := f1330.keep K1169 (ninS ne1067 nin0)
    have f1337 : Exa Z h1166 b1036 "com/example/tierpath/tierpath/Bounds" := f1139.keep K1169
    refine own_callV Y1165 hx hZ (y := (⟨"com/example/tierpath/tierpath/Bounds", "member", "(II)I"⟩ : MethodName)) (z := (⟨"com/example/tierpath/tierpath/Bounds", "member", "(II)I"⟩ : MethodName)) hown (hw _ (List.mem_of_getElem? (i := 42) rfl)) (hw _ (List.mem_of_getElem? (i := 43) rfl)) (notFace_of_selects (args := #[]) (mvT hZ (hw _ (List.mem_of_getElem? (i := 45) rfl)))) (hw _ (List.mem_of_getElem? (i := 45) rfl)) (hw _ (List.mem_of_getElem? (i := 44) rfl)) (hw _ (List.mem_of_getElem? (i := 7) rfl)) (hw _ (List.mem_of_getElem? (i := 46) rfl)) (by decide) (a := b1036) f1337 (argsL := [(.int (2 : Int32)), (.int (0 : Int32))]) (rest := []) (own_rm6_2 l Z a0 hw [] b1036 (0 : Int32) b593 b646 sl b949 b881 [y0, y1, y2, y3, y4, y5, y6, y7, y8] w4 (0 : Int32) z0 m2 m3 m4 ((k0 + k1) + 0) j2 h1166 n0  F1171 F1170 F1174 F1173 F1172 f1325 f1327 F1175 f1329 f1331 (own_add hm2k own_l0 (by omega)) (by rw [hwl4]; omega) ((congrArg Int32.toInt (hg.1 c502_1324)).trans ho2k) (by omega) rfl) (W := 0) (by decide) (by decide) (by decide) (by decide) rfl (by rw [hml]; rfl) (lenOf own_pd3 rfl) rfl (by show 2 * 0 + _ ≤ _; exact Nat.le_of_eq rfl) (hb hby at_510) (fun T1332 h1334 v1335 Y1333 q1336 => ?_)
    obtain ⟨rfl, rfl⟩ := q1336
    show own_Ends _ _ _ _ (T1332.setTop (mkF m 513 #[.val (.int x0), .val (.int x1), .val (.int x2), .val (.ref b593), .val (.ref b646), .val (.ref b685), .val (.ref b725), .val (.ref b771), .val (.ref b823), .val (.ref b881), .val (.ref b949), .val (.ref b1036), .val (.int (2 : Int32)), .val (.int (1 : Int32)), .val (.int (3 : Int32)), .val (.int o2), .unset, .unset] [(.int (own_g [y0, y1, y2, y3, y4, y5, y6, y7, y8] (3 + j2)))]))
    refine own_st (fun t_ => XS.aloadN (own_here Y1333) hx rfl (hb hby at_513) rfl rfl) ?_
    show own_Ends _ _ _ _ (T1332.setTop (mkF m 514 #[.val (.int x0), .val (.int x1), .val (.int x2), .val (.ref b593), .val (.ref b646), .val (.ref b685), .val (.ref b725), .val (.ref b771), .val (.ref b823), .val (.ref b881), .val (.ref b949), .val (.ref b1036), .val (.int (2 : Int32)), .val (.int (1 : Int32)), .val (.int (3 : Int32)), .val (.int o2), .unset, .unset] [(.ref b593), (.int (own_g [y0, y1, y2, y3, y4, y5, y6, y7, y8] (3 + j2)))]))
    refine own_st (fun t_ => XS.iload (own_here Y1333) hx rfl (hb hby at_514) rfl) ?_
    show own_Ends _ _ _ _ (T1332.setTop (mkF m 516 #[.val (.int x0), .val (.int x1), .val (.int x2), .val (.ref b593), .val (.ref b646), .val (.ref b685), .val (.ref b725), .val (.ref b771), .val (.ref b823), .val (.ref b881), .val (.ref b949), .val (.ref b1036), .val (.int (2 : Int32)), .val (.int (1 : Int32)), .val (.int (3 : Int32)), .val (.int o2), .unset, .unset] [(.int (3 : Int32)), (.ref b593), (.int (own_g [y0, y1, y2, y3, y4, y5, y6, y7, y8] (3 + j2)))]))
    refine own_st (fun t_ => XS.iload (own_here Y1333) hx rfl (hb hby at_516) rfl) ?_
    show own_Ends _ _ _ _ (T1332.setTop (mkF m 518 #[.val (.int x0), .val (.int x1), .val (.int x2), .val (.ref b593), .val (.ref b646), .val (.ref b685), .val (.ref b725), .val (.ref b771), .val (.ref b823), .val (.ref b881), .val (.ref b949), .val (.ref b1036), .val (.int (2 : Int32)), .val (.int (1 : Int32)), .val (.int (3 : Int32)), .val (.int o2), .unset, .unset] [(.int o2), (.int (3 : Int32)), (.ref b593), (.int (own_g [y0, y1, y2, y3, y4, y5, y6, y7, y8] (3 + j2)))]))
    refine own_st (fun t_ => XS.iadd (own_here Y1333) hx rfl (hb hby at_518) rfl) ?_
    show own_Ends _ _ _ _ (T1332.setTop (mkF m 519 #[.val (.int x0), .val (.int x1), .val (.int x2), .val (.ref b593), .val (.ref b646), .val (.ref b685), .val (.ref b725), .val (.ref b771), .val (.ref b823), .val (.ref b881), .val (.ref b949), .val (.ref b1036), .val (.int (2 : Int32)), .val (.int (1 : Int32)), .val (.int (3 : Int32)), .val (.int o2), .unset, .unset] [(.int ((3 : Int32) + o2)), (.ref b593), (.int (own_g [y0, y1, y2, y3, y4, y5, y6, y7, y8] (3 + j2)))]))
    obtain ⟨t0, t1⟩ := own_nat (own_add own_l3 ho2k (by omega))
    refine own_ldI Y1333 hx hZ f1325 (i := (3 + j2)) t0 t1 (own_mlen (xs := [y0, y1, y2, y3, y4, y5, y6, y7, y8]) (by show 3 + j2 < 9; omega)) (v := (.int (own_g [y0, y1, y2, y3, y4, y5, y6, y7, y8] (3 + j2)))) (own_mget (xs := [y0, y1, y2, y3, y4, y5, y6, y7, y8]) (own_mlen (by show 3 + j2 < 9; omega))) rfl rfl (hb hby at_519) ?_
    show own_Ends _ _ _ _ (T1332.setTop (mkF m 520 #[.val (.int x0), .val (.int x1), .val (.int x2), .val (.ref b593), .val (.ref b646), .val (.ref b685), .val (.ref b725), .val (.ref b771), .val (.ref b823), .val (.ref b881), .val (.ref b949), .val (.ref b1036), .val (.int (2 : Int32)), .val (.int (1 : Int32)), .val (.int (3 : Int32)), .val (.int o2), .unset, .unset] [(.int (own_g [y0, y1, y2, y3, y4, y5, y6, y7, y8] (3 + j2))), (.int (own_g [y0, y1, y2, y3, y4, y5, y6, y7, y8] (3 + j2)))]))
    refine own_st (fun t_ => XS.icmpNo (own_here Y1333) hx rfl (hb hby at_520) rfl (XT.ii_ne_f rfl)) ?_
    show own_Ends _ _ _ _ (T1332.setTop (mkF m 523 #[.val (.int x0), .val (.int x1), .val (.int x2), .val (.ref b593), .val (.ref b646), .val (.ref b685), .val (.ref b725), .val (.ref b771), .val (.ref b823), .val (.ref b881), .val (.ref b949), .val (.ref b1036), .val (.int (2 : Int32)), .val (.int (1 : Int32)), .val (.int (3 : Int32)), .val (.int o2), .unset, .unset] []))
    refine own_st (fun t_ => XS.iconst (own_here Y1333) hx rfl (hb hby at_523) ) ?_
    show own_Ends _ _ _ _ (T1332.setTop (mkF m 524 #[.val (.int x0), .val (.int x1), .val (.int x2), .val (.ref b593), .val (.ref b646), .val (.ref b685), .val (.ref b725), .val (.ref b771), .val (.ref b823), .val (.ref b881), .val (.ref b949), .val (.ref b1036), .val (.int (2 : Int32)), .val (.int (1 : Int32)), .val (.int (3 : Int32)), .val (.int o2), .unset, .unset] [(.int (1 : Int32))]))
    refine own_st (fun t_ => XS.goto (own_here Y1333) hx rfl (pc0 := 524) (pc' := 528) rfl (hb hby at_524) (by decide) (by decide)) ?_
    show own_Ends _ _ _ _ (T1332.setTop (mkF m 528 #[.val (.int x0), .val (.int x1), .val (.int x2), .val (.ref b593), .val (.ref b646), .val (.ref b685), .val (.ref b725), .val (.ref b771), .val (.ref b823), .val (.ref b881), .val (.ref b949), .val (.ref b1036), .val (.int (2 : Int32)), .val (.int (1 : Int32)), .val (.int (3 : Int32)), .val (.int o2), .unset, .unset] [(.int (1 : Int32))]))
    refine own_retN Y1333 hx hlk (t := .boolean) hret (by simp) (hb hby at_528) (by decide) (by decide) ?_
    exact rfl
   ·
    refine own_st (fun t_ => XS.icmpYes (own_here Y1165) hx rfl (pc0 := 502) (pc' := 529) rfl (hb hby at_502) rfl (XT.ii_ne_t c502_1324) (by decide) (by decide)) ?_
    show own_Ends _ _ _ _ (T1164.setTop (mkF m 529 #[.val (.int x0), .val (.int x1), .val (.int x2), .val (.ref b593), .val (.ref b646), .val (.ref b685), .val (.ref b725), .val (.ref b771), .val (.ref b823), .val (.ref b881), .val (.ref b949), .val (.ref b1036), .val (.int (2 : Int32)), .val (.int (1 : Int32)), .val (.int (3 : Int32)), .val (.int o2), .unset, .unset] []))
    have hz2 : z2 = 2 := hz212.resolve_left c502_1324
    have ho3 : o2 = 0 ∨ o2 = 1 ∨ o2 = 2 := by
      have : o2.toInt = 0 ∨ o2.toInt = 1 ∨ o2.toInt = 2 := by omega
      simp only [own_eq]; exact this
    rcases ho3 with q | q | q
    ·
     rw [q] at hg ⊢
     show own_Ends _ _ _ _ (T1164.setTop (mkF m 529 #[.val (.int x0), .val (.int x1), .val (.int x2), .val (.ref b593), .val (.ref b646), .val (.ref b685), .val (.ref b725), .val (.ref b771), .val (.ref b823), .val (.ref b881), .val (.ref b949), .val (.ref b1036), .val (.int (2 : Int32)), .val (.int (1 : Int32)), .val (.int (3 : Int32)), .val (.int (0 : Int32)), .unset, .unset] []))
     refine own_st (fun t_ => XS.iconst (own_here Y1165) hx rfl (hb hby at_529) ) ?_
     show own_Ends _ _ _ _ (T1164.setTop (mkF m 530 #[.val (.int x0), .val (.int x1), .val (.int x2), .val (.ref b593), .val (.ref b646), .val (.ref b685), .val (.ref b725), .val (.ref b771), .val (.ref b823), .val (.ref b881), .val (.ref b949), .val (.ref b1036), .val (.int (2 : Int32)), .val (.int (1 : Int32)), .val (.int (3 : Int32)), .val (.int (0 : Int32)), .unset, .unset] [(.int (0 : Int32))]))
     refine own_st (fun t_ => XS.iload (own_here Y1165) hx rfl (hb hby at_530) rfl) ?_
     show own_Ends _ _ _ _ (T1164.setTop (mkF m 532 #[.val (.int x0), .val (.int x1), .val (.int x2), .val (.ref b593), .val (.ref b646), .val (.ref b685), .val (.ref b725), .val (.ref b771), .val (.ref b823), .val (.ref b881), .val (.ref b949), .val (.ref b1036), .val (.int (2 : Int32)), .val (.int (1 : Int32)), .val (.int (3 : Int32)), .val (.int (0 : Int32)), .unset, .unset] [(.int (0 : Int32)), (.int (0 : Int32))]))
     refine own_st (fun t_ => XS.icmpYes (own_here Y1165) hx rfl (pc0 := 532) (pc' := 539) rfl (hb hby at_532) rfl (XT.ii_ge_t (by decide)) (by decide) (by decide)) ?_
     show own_Ends _ _ _ _ (T1164.setTop (mkF m 539 #[.val (.int x0), .val (.int x1), .val (.int x2), .val (.ref b593), .val (.ref b646), .val (.ref b685), .val (.ref b725), .val (.ref b771), .val (.ref b823), .val (.ref b881), .val (.ref b949), .val (.ref b1036), .val (.int (2 : Int32)), .val (.int (1 : Int32)), .val (.int (3 : Int32)), .val (.int (0 : Int32)), .unset, .unset] []))
     refine own_st (fun t_ => XS.iconst (own_here Y1165) hx rfl (hb hby at_539) ) ?_
     show own_Ends _ _ _ _ (T1164.setTop (mkF m 540 #[.val (.int x0), .val (.int x1), .val (.int x2), .val (.ref b593), .val (.ref b646), .val (.ref b685), .val (.ref b725), .val (.ref b771), .val (.ref b823), .val (.ref b881), .val (.ref b949), .val (.ref b1036), .val (.int (2 : Int32)), .val (.int (1 : Int32)), .val (.int (3 : Int32)), .val (.int (0 : Int32)), .unset, .unset] [(.int (1 : Int32))]))
     refine own_st (fun t_ => XS.istore (own_here Y1165) hx rfl (hb hby at_540) rfl (l' := #[.val (.int x0), .val (.int x1), .val (.int x2), .val (.ref b593), .val (.ref b646), .val (.ref b685), .val (.ref b725), .val (.ref b771), .val (.ref b823), .val (.ref b881), .val (.ref b949), .val (.ref b1036), .val (.int (2 : Int32)), .val (.int (1 : Int32)), .val (.int (3 : Int32)), .val (.int (0 : Int32)), .val (.int (1 : Int32)), .unset]) rfl) ?_
     show own_Ends _ _ _ _ (T1164.setTop (mkF m 542 #[.val (.int x0), .val (.int x1), .val (.int x2), .val (.ref b593), .val (.ref b646), .val (.ref b685), .val (.ref b725), .val (.ref b771), .val (.ref b823), .val (.ref b881), .val (.ref b949), .val (.ref b1036), .val (.int (2 : Int32)), .val (.int (1 : Int32)), .val (.int (3 : Int32)), .val (.int (0 : Int32)), .val (.int (1 : Int32)), .unset] []))
     refine own_st (fun t_ => XS.iconst (own_here Y1165) hx rfl (hb hby at_542) ) ?_
     show own_Ends _ _ _ _ (T1164.setTop (mkF m 543 #[.val (.int x0), .val (.int x1), .val (.int x2), .val (.ref b593), .val (.ref b646), .val (.ref b685), .val (.ref b725), .val (.ref b771), .val (.ref b823), .val (.ref b881), .val (.ref b949), .val (.ref b1036), .val (.int (2 : Int32)), .val (.int (1 : Int32)), .val (.int (3 : Int32)), .val (.int (0 : Int32)), .val (.int (1 : Int32)), .unset] [(.int (1 : Int32))]))
     refine own_st (fun t_ => XS.iload (own_here Y1165) hx rfl (hb hby at_543) rfl) ?_
     show own_Ends _ _ _ _ (T1164.setTop (mkF m 545 #[.val (.int x0), .val (.int x1), .val (.int x2), .val (.ref b593), .val (.ref b646), .val (.ref b685), .val (.ref b725), .val (.ref b771), .val (.ref b823), .val (.ref b881), .val (.ref b949), .val (.ref b1036), .val (.int (2 : Int32)), .val (.int (1 : Int32)), .val (.int (3 : Int32)), .val (.int (0 : Int32)), .val (.int (1 : Int32)), .unset] [(.int (0 : Int32)), (.int (1 : Int32))]))
     refine own_st (fun t_ => XS.icmpYes (own_here Y1165) hx rfl (pc0 := 545) (pc' := 552) rfl (hb hby at_545) rfl (XT.ii_ge_t (by decide)) (by decide) (by decide)) ?_
     show own_Ends _ _ _ _ (T1164.setTop (mkF m 552 #[.val (.int x0), .val (.int x1), .val (.int x2), .val (.ref b593), .val (.ref b646), .val (.ref b685), .val (.ref b725), .val (.ref b771), .val (.ref b823), .val (.ref b881), .val (.ref b949), .val (.ref b1036), .val (.int (2 : Int32)), .val (.int (1 : Int32)), .val (.int (3 : Int32)), .val (.int (0 : Int32)), .val (.int (1 : Int32)), .unset] []))
     refine own_st (fun t_ => XS.iconst (own_here Y1165) hx rfl (hb hby at_552) ) ?_
     show own_Ends _ _ _ _ (T1164.setTop (mkF m 553 #[.val (.int x0), .val (.int x1), .val (.int x2), .val (.ref b593), .val (.ref b646), .val (.ref b685), .val (.ref b725), .val (.ref b771), .val (.ref b823), .val (.ref b881), .val (.ref b949), .val (.ref b1036), .val (.int (2 : Int32)), .val (.int (1 : Int32)), .val (.int (3 : Int32)), .val (.int (0 : Int32)), .val (.int (1 : Int32)), .unset] [(.int (2 : Int32))]))
     refine own_st (fun t_ => XS.istore (own_here Y1165) hx rfl (hb hby at_553) rfl (l' := #[.val (.int x0), .val (.int x1), .val (.int x2), .val (.ref b593), .val (.ref b646), .val (.ref b685), .val (.ref b725), .val (.ref b771), .val (.ref b823), .val (.ref b881), .val (.ref b949), .val (.ref b1036), .val (.int (2 : Int32)), .val (.int (1 : Int32)), .val (.int (3 : Int32)), .val (.int (0 : Int32)), .val (.int (1 : Int32)), .val (.int (2 : Int32))]) rfl) ?_
     show own_Ends _ _ _ _ (T1164.setTop (mkF m 555 #[.val (.int x0), .val (.int x1), .val (.int x2), .val (.ref b593), .val (.ref b646), .val (.ref b685), .val (.ref b725), .val (.ref b771), .val (.ref b823), .val (.ref b881), .val (.ref b949), .val (.ref b1036), .val (.int (2 : Int32)), .val (.int (1 : Int32)), .val (.int (3 : Int32)), .val (.int (0 : Int32)), .val (.int (1 : Int32)), .val (.int (2 : Int32))] []))
     refine own_st (fun t_ => XS.aload (own_here Y1165) hx rfl (hb hby at_555) rfl rfl) ?_
     show own_Ends _ _ _ _ (T1164.setTop (mkF m 557 #[.val (.int x0), .val (.int x1), .val (.int x2), .val (.ref b593), .val (.ref b646), .val (.ref b685), .val (.ref b725), .val (.ref b771), .val (.ref b823), .val (.ref b881), .val (.ref b949), .val (.ref b1036), .val (.int (2 : Int32)), .val (.int (1 : Int32)), .val (.int (3 : Int32)), .val (.int (0 : Int32)), .val (.int (1 : Int32)), .val (.int (2 : Int32))] [(.ref b1036)]))
     refine own_st (fun t_ => XS.iload (own_here Y1165) hx rfl (hb hby at_557) rfl) ?_
     show own_Ends _ _ _ _ (T1164.setTop (mkF m 559 #[.val (.int x0), .val (.int x1), .val (.int x2), .val (.ref b593), .val (.ref b646), .val (.ref b685), .val (.ref b725), .val (.ref b771), .val (.ref b823), .val (.ref b881), .val (.ref b949), .val (.ref b1036), .val (.int (2 : Int32)), .val (.int (1 : Int32)), .val (.int (3 : Int32)), .val (.int (0 : Int32)), .val (.int (1 : Int32)), .val (.int (2 : Int32))] [(.int (2 : Int32)), (.ref b1036)]))
     refine own_st (fun t_ => XS.iconst (own_here Y1165) hx rfl (hb hby at_559) ) ?_
     show own_Ends _ _ _ _ (T1164.setTop (mkF m 560 #[.val (.int x0), .val (.int x1), .val (.int x2), .val (.ref b593), .val (.ref b646), .val (.ref b685), .val (.ref b725), .val (.ref b771), .val (.ref b823), .val (.ref b881), .val (.ref b949), .val (.ref b1036), .val (.int (2 : Int32)), .val (.int (1 : Int32)), .val (.int (3 : Int32)), .val (.int (0 : Int32)), .val (.int (1 : Int32)), .val (.int (2 : Int32))] [(.int (0 : Int32)), (.int (2 : Int32)), (.ref b1036)]))
     have f1338 : own_A Z h1166 b593 .int [(.int y0), (.int y1), (.int y2), (.int y3), (.int y4), (.int y5), (.int y6), (.int y7), (.int y8)] := f1160.keep K1169 (ninS ne1043 nin0)
     have f1339 : own_A Z h1113 b646 .int [(.int (0 : Int32)), (.int (3 : Int32)), (.int (6 : Int32)), (.int (9 : Int32))] := f1120.ext E1114
     have f1340 : own_A Z h1166 b646 .int [(.int (0 : Int32)), (.int (3 : Int32)), (.int (6 : Int32)), (.int (9 : Int32))] := f1339.keep K1169 (ninS ne1049 nin0)
     have f1341 : own_A Z h1113 b949 .int (w4.map Value.int) := f1132.ext E1114
     have f1342 : own_A Z h1166 b949 .int (w4.map Value.int) := f1341.keep K1169 (ninS ne1068 nin0)
     have f1343 : own_A Z h1113 b881 .int [(.int (0 : Int32)), (.int z0), (.int m2), (.int m3), (.int m4)] := f1130.ext E1114
     have f1344 : own_A Z h1166 b881 .int [(.int (0 : Int32)), (.int z0), (.int m2), (.int m3), (.int m4)] := f1343.keep K1169 (ninS ne1067 nin0)
     have f1350 : Exa Z h1166 b1036 "com/example/tierpath/tierpath/Bounds" := f1139.keep K1169
     refine own_callV Y1165 hx hZ (y := (⟨"com/example/tierpath/tierpath/Bounds", "member", "(II)I"⟩ : MethodName)) (z := (⟨"com/example/tierpath/tierpath/Bounds", "member", "(II)I"⟩ : MethodName)) hown (hw _ (List.mem_of_getElem? (i := 42) rfl)) (hw _ (List.mem_of_getElem? (i := 43) rfl)) (notFace_of_selects (args := #[]) (mvT hZ (hw _ (List.mem_of_getElem? (i := 45) rfl)))) (hw _ (List.mem_of_getElem? (i := 45) rfl)) (hw _ (List.mem_of_getElem? (i := 44) rfl)) (hw _ (List.mem_of_getElem? (i := 7) rfl)) (hw _ (List.mem_of_getElem? (i := 46) rfl)) (by decide) (a := b1036) f1350 (argsL := [(.int (2 : Int32)), (.int (0 : Int32))]) (rest := []) (own_rm6_2 l Z a0 hw [] b1036 (0 : Int32) b593 b646 sl b949 b881 [y0, y1, y2, y3, y4, y5, y6, y7, y8] w4 (0 : Int32) z0 m2 m3 m4 ((k0 + k1) + 0) 1 h1166 n0  F1171 F1170 F1174 F1173 F1172 f1338 f1340 F1175 f1342 f1344 (own_add hm2k own_l0 (by omega)) (by rw [hwl4]; omega) ((congrArg Int32.toInt (hg.2 hz2).1).trans rfl) (by omega) rfl) (W := 0) (by decide) (by decide) (by decide) (by decide) rfl (by rw [hml]; rfl) (lenOf own_pd3 rfl) rfl (by show 2 * 0 + _ ≤ _; exact Nat.le_of_eq rfl) (hb hby at_560) (fun T1345 h1347 v1348 Y1346 q1349 => ?_)
     obtain ⟨rfl, rfl⟩ := q1349
     show own_Ends _ _ _ _ (T1345.setTop (mkF m 563 #[.val (.int x0), .val (.int x1), .val (.int x2), .val (.ref b593), .val (.ref b646), .val (.ref b685), .val (.ref b725), .val (.ref b771), .val (.ref b823), .val (.ref b881), .val (.ref b949), .val (.ref b1036), .val (.int (2 : Int32)), .val (.int (1 : Int32)), .val (.int (3 : Int32)), .val (.int (0 : Int32)), .val (.int (1 : Int32)), .val (.int (2 : Int32))] [(.int (own_g [y0, y1, y2, y3, y4, y5, y6, y7, y8] (3 + 1)))]))
     refine own_st (fun t_ => XS.aloadN (own_here Y1346) hx rfl (hb hby at_563) rfl rfl) ?_
     show own_Ends _ _ _ _ (T1345.setTop (mkF m 564 #[.val (.int x0), .val (.int x1), .val (.int x2), .val (.ref b593), .val (.ref b646), .val (.ref b685), .val (.ref b725), .val (.ref b771), .val (.ref b823), .val (.ref b881), .val (.ref b949), .val (.ref b1036), .val (.int (2 : Int32)), .val (.int (1 : Int32)), .val (.int (3 : Int32)), .val (.int (0 : Int32)), .val (.int (1 : Int32)), .val (.int (2 : Int32))] [(.ref b593), (.int (own_g [y0, y1, y2, y3, y4, y5, y6, y7, y8] (3 + 1)))]))
     refine own_st (fun t_ => XS.iload (own_here Y1346) hx rfl (hb hby at_564) rfl) ?_
     show own_Ends _ _ _ _ (T1345.setTop (mkF m 566 #[.val (.int x0), .val (.int x1), .val (.int x2), .val (.ref b593), .val (.ref b646), .val (.ref b685), .val (.ref b725), .val (.ref b771), .val (.ref b823), .val (.ref b881), .val (.ref b949), .val (.ref b1036), .val (.int (2 : Int32)), .val (.int (1 : Int32)), .val (.int (3 : Int32)), .val (.int (0 : Int32)), .val (.int (1 : Int32)), .val (.int (2 : Int32))] [(.int (3 : Int32)), (.ref b593), (.int (own_g [y0, y1, y2, y3, y4, y5, y6, y7, y8] (3 + 1)))]))
     refine own_st (fun t_ => XS.iload (own_here Y1346) hx rfl (hb hby at_566) rfl) ?_
     show own_Ends _ _ _ _ (T1345.setTop (mkF m 568 #[.val (.int x0), .val (.int x1), .val (.int x2), .val (.ref b593), .val (.ref b646), .val (.ref b685), .val (.ref b725), .val (.ref b771), .val (.ref b823), .val (.ref b881), .val (.ref b949), .val (.ref b1036), .val (.int (2 : Int32)), .val (.int (1 : Int32)), .val (.int (3 : Int32)), .val (.int (0 : Int32)), .val (.int (1 : Int32)), .val (.int (2 : Int32))] [(.int (1 : Int32)), (.int (3 : Int32)), (.ref b593), (.int (own_g [y0, y1, y2, y3, y4, y5, y6, y7, y8] (3 + 1)))]))
     refine own_st (fun t_ => XS.iadd (own_here Y1346) hx rfl (hb hby at_568) rfl) ?_
     show own_Ends _ _ _ _ (T1345.setTop (mkF m 569 #[.val (.int x0), .val (.int x1), .val (.int x2), .val (.ref b593), .val (.ref b646), .val (.ref b685), .val (.ref b725), .val (.ref b771), .val (.ref b823), .val (.ref b881), .val (.ref b949), .val (.ref b1036), .val (.int (2 : Int32)), .val (.int (1 : Int32)), .val (.int (3 : Int32)), .val (.int (0 : Int32)), .val (.int (1 : Int32)), .val (.int (2 : Int32))] [(.int (4 : Int32)), (.ref b593), (.int (own_g [y0, y1, y2, y3, y4, y5, y6, y7, y8] (3 + 1)))]))
     refine own_ldI Y1346 hx hZ f1338 (i := 4) (by decide) (by decide) (Nat.le_of_ble_eq_true rfl) (v := (.int y4)) rfl rfl rfl (hb hby at_569) ?_
     show own_Ends _ _ _ _ (T1345.setTop (mkF m 570 #[.val (.int x0), .val (.int x1), .val (.int x2), .val (.ref b593), .val (.ref b646), .val (.ref b685), .val (.ref b725), .val (.ref b771), .val (.ref b823), .val (.ref b881), .val (.ref b949), .val (.ref b1036), .val (.int (2 : Int32)), .val (.int (1 : Int32)), .val (.int (3 : Int32)), .val (.int (0 : Int32)), .val (.int (1 : Int32)), .val (.int (2 : Int32))] [(.int y4), (.int (own_g [y0, y1, y2, y3, y4, y5, y6, y7, y8] (3 + 1)))]))
     refine own_st (fun t_ => XS.icmpNo (own_here Y1346) hx rfl (hb hby at_570) rfl (XT.ii_ne_f rfl)) ?_
     show own_Ends _ _ _ _ (T1345.setTop (mkF m 573 #[.val (.int x0), .val (.int x1), .val (.int x2), .val (.ref b593), .val (.ref b646), .val (.ref b685), .val (.ref b725), .val (.ref b771), .val (.ref b823), .val (.ref b881), .val (.ref b949), .val (.ref b1036), .val (.int (2 : Int32)), .val (.int (1 : Int32)), .val (.int (3 : Int32)), .val (.int (0 : Int32)), .val (.int (1 : Int32)), .val (.int (2 : Int32))] []))
     refine own_st (fun t_ => XS.aload (own_here Y1346) hx rfl (hb hby at_573) rfl rfl) ?_
     show own_Ends _ _ _ _ (T1345.setTop (mkF m 575 #[.val (.int x0), .val (.int x1), .val (.int x2), .val (.ref b593), .val (.ref b646), .val (.ref b685), .val (.ref b725), .val (.ref b771), .val (.ref b823), .val (.ref b881), .val (.ref b949), .val (.ref b1036), .val (.int (2 : Int32)), .val (.int (1 : Int32)), .val (.int (3 : Int32)), .val (.int (0 : Int32)), .val (.int (1 : Int32)), .val (.int (2 : Int32))] [(.ref b1036)]))
     refine own_st (fun t_ => XS.iload (own_here Y1346) hx rfl (hb hby at_575) rfl) ?_
     show own_Ends _ _ _ _ (T1345.setTop (mkF m 577 #[.val (.int x0), .val (.int x1), .val (.int x2), .val (.ref b593), .val (.ref b646), .val (.ref b685), .val (.ref b725), .val (.ref b771), .val (.ref b823), .val (.ref b881), .val (.ref b949), .val (.ref b1036), .val (.int (2 : Int32)), .val (.int (1 : Int32)), .val (.int (3 : Int32)), .val (.int (0 : Int32)), .val (.int (1 : Int32)), .val (.int (2 : Int32))] [(.int (2 : Int32)), (.ref b1036)]))
     refine own_st (fun t_ => XS.iconst (own_here Y1346) hx rfl (hb hby at_577) ) ?_
     show own_Ends _ _ _ _ (T1345.setTop (mkF m 578 #[.val (.int x0), .val (.int x1), .val (.int x2), .val (.ref b593), .val (.ref b646), .val (.ref b685), .val (.ref b725), .val (.ref b771), .val (.ref b823), .val (.ref b881), .val (.ref b949), .val (.ref b1036), .val (.int (2 : Int32)), .val (.int (1 : Int32)), .val (.int (3 : Int32)), .val (.int (0 : Int32)), .val (.int (1 : Int32)), .val (.int (2 : Int32))] [(.int (1 : Int32)), (.int (2 : Int32)), (.ref b1036)]))
     refine own_callV Y1346 hx hZ (y := (⟨"com/example/tierpath/tierpath/Bounds", "member", "(II)I"⟩ : MethodName)) (z := (⟨"com/example/tierpath/tierpath/Bounds", "member", "(II)I"⟩ : MethodName)) hown (hw _ (List.mem_of_getElem? (i := 42) rfl)) (hw _ (List.mem_of_getElem? (i := 43) rfl)) (notFace_of_selects (args := #[]) (mvT hZ (hw _ (List.mem_of_getElem? (i := 45) rfl)))) (hw _ (List.mem_of_getElem? (i := 45) rfl)) (hw _ (List.mem_of_getElem? (i := 44) rfl)) (hw _ (List.mem_of_getElem? (i := 7) rfl)) (hw _ (List.mem_of_getElem? (i := 46) rfl)) (by decide) (a := b1036) f1350 (argsL := [(.int (2 : Int32)), (.int (1 : Int32))]) (rest := []) (own_rm6_2 l Z a0 hw [] b1036 (1 : Int32) b593 b646 sl b949 b881 [y0, y1, y2, y3, y4, y5, y6, y7, y8] w4 (0 : Int32) z0 m2 m3 m4 ((k0 + k1) + 1) 2 h1166 n0  F1171 F1170 F1174 F1173 F1172 f1338 f1340 F1175 f1342 f1344 (own_add hm2k own_l1 (by omega)) (by rw [hwl4]; omega) ((congrArg Int32.toInt (hg.2 hz2).2).trans rfl) (by omega) rfl) (W := 0) (by decide) (by decide) (by decide) (by decide) rfl (by rw [hml]; rfl) (lenOf own_pd3 rfl) rfl (by show 2 * 0 + _ ≤ _; exact Nat.le_of_eq rfl) (hb hby at_578) (fun T1351 h1353 v1354 Y1352 q1355 => ?_)
     obtain ⟨rfl, rfl⟩ := q1355
     show own_Ends _ _ _ _ (T1351.setTop (mkF m 581 #[.val (.int x0), .val (.int x1), .val (.int x2), .val (.ref b593), .val (.ref b646), .val (.ref b685), .val (.ref b725), .val (.ref b771), .val (.ref b823), .val (.ref b881), .val (.ref b949), .val (.ref b1036), .val (.int (2 : Int32)), .val (.int (1 : Int32)), .val (.int (3 : Int32)), .val (.int (0 : Int32)), .val (.int (1 : Int32)), .val (.int (2 : Int32))] [(.int (own_g [y0, y1, y2, y3, y4, y5, y6, y7, y8] (3 + 2)))]))
     refine own_st (fun t_ => XS.aloadN (own_here Y1352) hx rfl (hb hby at_581) rfl rfl) ?_
     show own_Ends _ _ _ _ (T1351.setTop (mkF m 582 #[.val (.int x0), .val (.int x1), .val (.int x2), .val (.ref b593), .val (.ref b646), .val (.ref b685), .val (.ref b725), .val (.ref b771), .val (.ref b823), .val (.ref b881), .val (.ref b949), .val (.ref b1036), .val (.int (2 : Int32)), .val (.int (1 : Int32)), .val (.int (3 : Int32)), .val (.int (0 : Int32)), .val (.int (1 : Int32)), .val (.int (2 : Int32))] [(.ref b593), (.int (own_g [y0, y1, y2, y3, y4, y5, y6, y7, y8] (3 + 2)))]))
     refine own_st (fun t_ => XS.iload (own_here Y1352) hx rfl (hb hby at_582) rfl) ?_
     show own_Ends _ _ _ _ (T1351.setTop (mkF m 584 #[.val (.int x0), .val (.int x1), .val (.int x2), .val (.ref b593), .val (.ref b646), .val (.ref b685), .val (.ref b725), .val (.ref b771), .val (.ref b823), .val (.ref b881), .val (.ref b949), .val (.ref b1036), .val (.int (2 : Int32)), .val (.int (1 : Int32)), .val (.int (3 : Int32)), .val (.int (0 : Int32)), .val (.int (1 : Int32)), .val (.int (2 : Int32))] [(.int (3 : Int32)), (.ref b593), (.int (own_g [y0, y1, y2, y3, y4, y5, y6, y7, y8] (3 + 2)))]))
     refine own_st (fun t_ => XS.iload (own_here Y1352) hx rfl (hb hby at_584) rfl) ?_
     show own_Ends _ _ _ _ (T1351.setTop (mkF m 586 #[.val (.int x0), .val (.int x1), .val (.int x2), .val (.ref b593), .val (.ref b646), .val (.ref b685), .val (.ref b725), .val (.ref b771), .val (.ref b823), .val (.ref b881), .val (.ref b949), .val (.ref b1036), .val (.int (2 : Int32)), .val (.int (1 : Int32)), .val (.int (3 : Int32)), .val (.int (0 : Int32)), .val (.int (1 : Int32)), .val (.int (2 : Int32))] [(.int (2 : Int32)), (.int (3 : Int32)), (.ref b593), (.int (own_g [y0, y1, y2, y3, y4, y5, y6, y7, y8] (3 + 2)))]))
     refine own_st (fun t_ => XS.iadd (own_here Y1352) hx rfl (hb hby at_586) rfl) ?_
     show own_Ends _ _ _ _ (T1351.setTop (mkF m 587 #[.val (.int x0), .val (.int x1), .val (.int x2), .val (.ref b593), .val (.ref b646), .val (.ref b685), .val (.ref b725), .val (.ref b771), .val (.ref b823), .val (.ref b881), .val (.ref b949), .val (.ref b1036), .val (.int (2 : Int32)), .val (.int (1 : Int32)), .val (.int (3 : Int32)), .val (.int (0 : Int32)), .val (.int (1 : Int32)), .val (.int (2 : Int32))] [(.int (5 : Int32)), (.ref b593), (.int (own_g [y0, y1, y2, y3, y4, y5, y6, y7, y8] (3 + 2)))]))
     refine own_ldI Y1352 hx hZ f1338 (i := 5) (by decide) (by decide) (Nat.le_of_ble_eq_true rfl) (v := (.int y5)) rfl rfl rfl (hb hby at_587) ?_
     show own_Ends _ _ _ _ (T1351.setTop (mkF m 588 #[.val (.int x0), .val (.int x1), .val (.int x2), .val (.ref b593), .val (.ref b646), .val (.ref b685), .val (.ref b725), .val (.ref b771), .val (.ref b823), .val (.ref b881), .val (.ref b949), .val (.ref b1036), .val (.int (2 : Int32)), .val (.int (1 : Int32)), .val (.int (3 : Int32)), .val (.int (0 : Int32)), .val (.int (1 : Int32)), .val (.int (2 : Int32))] [(.int y5), (.int (own_g [y0, y1, y2, y3, y4, y5, y6, y7, y8] (3 + 2)))]))
     refine own_st (fun t_ => XS.icmpNo (own_here Y1352) hx rfl (hb hby at_588) rfl (XT.ii_ne_f rfl)) ?_
     show own_Ends _ _ _ _ (T1351.setTop (mkF m 591 #[.val (.int x0), .val (.int x1), .val (.int x2), .val (.ref b593), .val (.ref b646), .val (.ref b685), .val (.ref b725), .val (.ref b771), .val (.ref b823), .val (.ref b881), .val (.ref b949), .val (.ref b1036), .val (.int (2 : Int32)), .val (.int (1 : Int32)), .val (.int (3 : Int32)), .val (.int (0 : Int32)), .val (.int (1 : Int32)), .val (.int (2 : Int32))] []))
     refine own_st (fun t_ => XS.iconst (own_here Y1352) hx rfl (hb hby at_591) ) ?_
     show own_Ends _ _ _ _ (T1351.setTop (mkF m 592 #[.val (.int x0), .val (.int x1), .val (.int x2), .val (.ref b593), .val (.ref b646), .val (.ref b685), .val (.ref b725), .val (.ref b771), .val (.ref b823), .val (.ref b881), .val (.ref b949), .val (.ref b1036), .val (.int (2 : Int32)), .val (.int (1 : Int32)), .val (.int (3 : Int32)), .val (.int (0 : Int32)), .val (.int (1 : Int32)), .val (.int (2 : Int32))] [(.int (1 : Int32))]))
     refine own_st (fun t_ => XS.goto (own_here Y1352) hx rfl (pc0 := 592) (pc' := 596) rfl (hb hby at_592) (by decide) (by decide)) ?_
     show own_Ends _ _ _ _ (T1351.setTop (mkF m 596 #[.val (.int x0), .val (.int x1), .val (.int x2), .val (.ref b593), .val (.ref b646), .val (.ref b685), .val (.ref b725), .val (.ref b771), .val (.ref b823), .val (.ref b881), .val (.ref b949), .val (.ref b1036), .val (.int (2 : Int32)), .val (.int (1 : Int32)), .val (.int (3 : Int32)), .val (.int (0 : Int32)), .val (.int (1 : Int32)), .val (.int (2 : Int32))] [(.int (1 : Int32))]))
     refine own_retN Y1352 hx hlk (t := .boolean) hret (by simp) (hb hby at_596) (by decide) (by decide) ?_
     exact rfl
    ·
     rw [q] at hg ⊢
     show own_Ends _ _ _ _ (T1164.setTop (mkF m 529 #[.val (.int x0), .val (.int x1), .val (.int x2), .val (.ref b593), .val (.ref b646), .val (.ref b685), .val (.ref b725), .val (.ref b771), .val (.ref b823), .val (.ref b881), .val (.ref b949), .val (.ref b1036), .val (.int (2 : Int32)), .val (.int (1 : Int32)), .val (.int (3 : Int32)), .val (.int (1 : Int32)), .unset, .unset] []))
     refine own_st (fun t_ => XS.iconst (own_here Y1165) hx rfl (hb hby at_529) ) ?_
     show own_Ends _ _ _ _ (T1164.setTop (mkF m 530 #[.val (.int x0), .val (.int x1), .val (.int x2), .val (.ref b593), .val (.ref b646), .val (.ref b685), .val (.ref b725), .val (.ref b771), .val (.ref b823), .val (.ref b881), .val (.ref b949), .val (.ref b1036), .val (.int (2 : Int32)), .val (.int (1 : Int32)), .val (.int (3 : Int32)), .val (.int (1 : Int32)), .unset, .unset] [(.int (0 : Int32))]))
     refine own_st (fun t_ => XS.iload (own_here Y1165) hx rfl (hb hby at_530) rfl) ?_
     show own_Ends _ _ _ _ (T1164.setTop (mkF m 532 #[.val (.int x0), .val (.int x1), .val (.int x2), .val (.ref b593), .val (.ref b646), .val (.ref b685), .val (.ref b725), .val (.ref b771), .val (.ref b823), .val (.ref b881), .val (.ref b949), .val (.ref b1036), .val (.int (2 : Int32)), .val (.int (1 : Int32)), .val (.int (3 : Int32)), .val (.int (1 : Int32)), .unset, .unset] [(.int (1 : Int32)), (.int (0 : Int32))]))
     refine own_st (fun t_ => XS.icmpNo (own_here Y1165) hx rfl (hb hby at_532) rfl (XT.ii_ge_f (by decide))) ?_
     show own_Ends _ _ _ _ (T1164.setTop (mkF m 535 #[.val (.int x0), .val (.int x1), .val (.int x2), .val (.ref b593), .val (.ref b646), .val (.ref b685), .val (.ref b725), .val (.ref b771), .val (.ref b823), .val (.ref b881), .val (.ref b949), .val (.ref b1036), .val (.int (2 : Int32)), .val (.int (1 : Int32)), .val (.int (3 : Int32)), .val (.int (1 : Int32)), .unset, .unset] []))
     refine own_st (fun t_ => XS.iconst (own_here Y1165) hx rfl (hb hby at_535) ) ?_
     show own_Ends _ _ _ _ (T1164.setTop (mkF m 536 #[.val (.int x0), .val (.int x1), .val (.int x2), .val (.ref b593), .val (.ref b646), .val (.ref b685), .val (.ref b725), .val (.ref b771), .val (.ref b823), .val (.ref b881), .val (.ref b949), .val (.ref b1036), .val (.int (2 : Int32)), .val (.int (1 : Int32)), .val (.int (3 : Int32)), .val (.int (1 : Int32)), .unset, .unset] [(.int (0 : Int32))]))
     refine own_st (fun t_ => XS.goto (own_here Y1165) hx rfl (pc0 := 536) (pc' := 540) rfl (hb hby at_536) (by decide) (by decide)) ?_
     show own_Ends _ _ _ _ (T1164.setTop (mkF m 540 #[.val (.int x0), .val (.int x1), .val (.int x2), .val (.ref b593), .val (.ref b646), .val (.ref b685), .val (.ref b725), .val (.ref b771), .val (.ref b823), .val (.ref b881), .val (.ref b949), .val (.ref b1036), .val (.int (2 : Int32)), .val (.int (1 : Int32)), .val (.int (3 : Int32)), .val (.int (1 : Int32)), .unset, .unset] [(.int (0 : Int32))]))
     refine own_st (fun t_ => XS.istore (own_here Y1165) hx rfl (hb hby at_540) rfl (l' := #[.val (.int x0), .val (.int x1), .val (.int x2), .val (.ref b593), .val (.ref b646), .val (.ref b685), .val (.ref b725), .val (.ref b771), .val (.ref b823), .val (.ref b881), .val (.ref b949), .val (.ref b1036), .val (.int (2 : Int32)), .val (.int (1 : Int32)), .val (.int (3 : Int32)), .val (.int (1 : Int32)), .val (.int (0 : Int32)), .unset]) rfl) ?_
     show own_Ends _ _ _ _ (T1164.setTop (mkF m 542 #[.val (.int x0), .val (.int x1), .val (.int x2), .val (.ref b593), .val (.ref b646), .val (.ref b685), .val (.ref b725), .val (.ref b771), .val (.ref b823), .val (.ref b881), .val (.ref b949), .val (.ref b1036), .val (.int (2 : Int32)), .val (.int (1 : Int32)), .val (.int (3 : Int32)), .val (.int (1 : Int32)), .val (.int (0 : Int32)), .unset] []))
     refine own_st (fun t_ => XS.iconst (own_here Y1165) hx rfl (hb hby at_542) ) ?_
     show own_Ends _ _ _ _ (T1164.setTop (mkF m 543 #[.val (.int x0), .val (.int x1), .val (.int x2), .val (.ref b593), .val (.ref b646), .val (.ref b685), .val (.ref b725), .val (.ref b771), .val (.ref b823), .val (.ref b881), .val (.ref b949), .val (.ref b1036), .val (.int (2 : Int32)), .val (.int (1 : Int32)), .val (.int (3 : Int32)), .val (.int (1 : Int32)), .val (.int (0 : Int32)), .unset] [(.int (1 : Int32))]))
     refine own_st (fun t_ => XS.iload (own_here Y1165) hx rfl (hb hby at_543) rfl) ?_
     show own_Ends _ _ _ _ (T1164.setTop (mkF m 545 #[.val (.int x0), .val (.int x1), .val (.int x2), .val (.ref b593), .val (.ref b646), .val (.ref b685), .val (.ref b725), .val (.ref b771), .val (.ref b823), .val (.ref b881), .val (.ref b949), .val (.ref b1036), .val (.int (2 : Int32)), .val (.int (1 : Int32)), .val (.int (3 : Int32)), .val (.int (1 : Int32)), .val (.int (0 : Int32)), .unset] [(.int (1 : Int32)), (.int (1 : Int32))]))
     refine own_st (fun t_ => XS.icmpYes (own_here Y1165) hx rfl (pc0 := 545) (pc' := 552) rfl (hb hby at_545) rfl (XT.ii_ge_t (by decide)) (by decide) (by decide)) ?_
     show own_Ends _ _ _ _ (T1164.setTop (mkF m 552 #[.val (.int x0), .val (.int x1), .val (.int x2), .val (.ref b593), .val (.ref b646), .val (.ref b685), .val (.ref b725), .val (.ref b771), .val (.ref b823), .val (.ref b881), .val (.ref b949), .val (.ref b1036), .val (.int (2 : Int32)), .val (.int (1 : Int32)), .val (.int (3 : Int32)), .val (.int (1 : Int32)), .val (.int (0 : Int32)), .unset] []))
     refine own_st (fun t_ => XS.iconst (own_here Y1165) hx rfl (hb hby at_552) ) ?_
     show own_Ends _ _ _ _ (T1164.setTop (mkF m 553 #[.val (.int x0), .val (.int x1), .val (.int x2), .val (.ref b593), .val (.ref b646), .val (.ref b685), .val (.ref b725), .val (.ref b771), .val (.ref b823), .val (.ref b881), .val (.ref b949), .val (.ref b1036), .val (.int (2 : Int32)), .val (.int (1 : Int32)), .val (.int (3 : Int32)), .val (.int (1 : Int32)), .val (.int (0 : Int32)), .unset] [(.int (2 : Int32))]))
     refine own_st (fun t_ => XS.istore (own_here Y1165) hx rfl (hb hby at_553) rfl (l' := #[.val (.int x0), .val (.int x1), .val (.int x2), .val (.ref b593), .val (.ref b646), .val (.ref b685), .val (.ref b725), .val (.ref b771), .val (.ref b823), .val (.ref b881), .val (.ref b949), .val (.ref b1036), .val (.int (2 : Int32)), .val (.int (1 : Int32)), .val (.int (3 : Int32)), .val (.int (1 : Int32)), .val (.int (0 : Int32)), .val (.int (2 : Int32))]) rfl) ?_
     show own_Ends _ _ _ _ (T1164.setTop (mkF m 555 #[.val (.int x0), .val (.int x1), .val (.int x2), .val (.ref b593), .val (.ref b646), .val (.ref b685), .val (.ref b725), .val (.ref b771), .val (.ref b823), .val (.ref b881), .val (.ref b949), .val (.ref b1036), .val (.int (2 : Int32)), .val (.int (1 : Int32)), .val (.int (3 : Int32)), .val (.int (1 : Int32)), .val (.int (0 : Int32)), .val (.int (2 : Int32))] []))
     refine own_st (fun t_ => XS.aload (own_here Y1165) hx rfl (hb hby at_555) rfl rfl) ?_
     show own_Ends _ _ _ _ (T1164.setTop (mkF m 557 #[.val (.int x0), .val (.int x1), .val (.int x2), .val (.ref b593), .val (.ref b646), .val (.ref b685), .val (.ref b725), .val (.ref b771), .val (.ref b823), .val (.ref b881), .val (.ref b949), .val (.ref b1036), .val (.int (2 : Int32)), .val (.int (1 : Int32)), .val (.int (3 : Int32)), .val (.int (1 : Int32)), .val (.int (0 : Int32)), .val (.int (2 : Int32))] [(.ref b1036)]))
     refine own_st (fun t_ => XS.iload (own_here Y1165) hx rfl (hb hby at_557) rfl) ?_
     show own_Ends _ _ _ _ (T1164.setTop (mkF m 559 #[.val (.int x0), .val (.int x1), .val (.int x2), .val (.ref b593), .val (.ref b646), .val (.ref b685), .val (.ref b725), .val (.ref b771), .val (.ref b823), .val (.ref b881), .val (.ref b949), .val (.ref b1036), .val (.int (2 : Int32)), .val (.int (1 : Int32)), .val (.int (3 : Int32)), .val (.int (1 : Int32)), .val (.int (0 : Int32)), .val (.int (2 : Int32))] [(.int (2 : Int32)), (.ref b1036)]))
     refine own_st (fun t_ => XS.iconst (own_here Y1165) hx rfl (hb hby at_559) ) ?_
     show own_Ends _ _ _ _ (T1164.setTop (mkF m 560 #[.val (.int x0), .val (.int x1), .val (.int x2), .val (.ref b593), .val (.ref b646), .val (.ref b685), .val (.ref b725), .val (.ref b771), .val (.ref b823), .val (.ref b881), .val (.ref b949), .val (.ref b1036), .val (.int (2 : Int32)), .val (.int (1 : Int32)), .val (.int (3 : Int32)), .val (.int (1 : Int32)), .val (.int (0 : Int32)), .val (.int (2 : Int32))] [(.int (0 : Int32)), (.int (2 : Int32)), (.ref b1036)]))
     have f1356 : own_A Z h1166 b593 .int [(.int y0), (.int y1), (.int y2), (.int y3), (.int y4), (.int y5), (.int y6), (.int y7), (.int y8)] := f1160.keep K1169 (ninS ne1043 nin0)
     have f1357 : own_A Z h1113 b646 .int [(.int (0 : Int32)), (.int (3 : Int32)), (.int (6 : Int32)), (.int (9 : Int32))] := f1120.ext E1114
     have f1358 : own_A Z h1166 b646 .int [(.int (0 : Int32)), (.int (3 : Int32)), (.int (6 : Int32)), (.int (9 : Int32))] := f1357.keep K1169 (ninS ne1049 nin0)
     have f1359 : own_A Z h1113 b949 .int (w4.map Value.int) := f1132.ext E1114
     have f1360 : own_A Z h1166 b949 .int (w4.map Value.int) := f1359.keep K1169 (ninS ne1068 nin0)
     have f1361 : own_A Z h1113 b881 .int [(.int (0 : Int32)), (.int z0), (.int m2), (.int m3), (.int m4)] := f1130.ext E1114
     have f1362 : own_A Z h1166 b881 .int [(.int (0 : Int32)), (.int z0), (.int m2), (.int m3), (.int m4)] := f1361.keep K1169 (ninS ne1067 nin0)
     have f1368 : Exa Z h1166 b1036 "com/example/tierpath/tierpath/Bounds" := f1139.keep K1169
     refine own_callV Y1165 hx hZ (y := (⟨"com/example/tierpath/tierpath/Bounds", "member", "(II)I"⟩ : MethodName)) (z := (⟨"com/example/tierpath/tierpath/Bounds", "member", "(II)I"⟩ : MethodName)) hown (hw _ (List.mem_of_getElem? (i := 42) rfl)) (hw _ (List.mem_of_getElem? (i := 43) rfl)) (notFace_of_selects (args := #[]) (mvT hZ (hw _ (List.mem_of_getElem? (i := 45) rfl)))) (hw _ (List.mem_of_getElem? (i := 45) rfl)) (hw _ (List.mem_of_getElem? (i := 44) rfl)) (hw _ (List.mem_of_getElem? (i := 7) rfl)) (hw _ (List.mem_of_getElem? (i := 46) rfl)) (by decide) (a := b1036) f1368 (argsL := [(.int (2 : Int32)), (.int (0 : Int32))]) (rest := []) (own_rm6_2 l Z a0 hw [] b1036 (0 : Int32) b593 b646 sl b949 b881 [y0, y1, y2, y3, y4, y5, y6, y7, y8] w4 (0 : Int32) z0 m2 m3 m4 ((k0 + k1) + 0) 0 h1166 n0  F1171 F1170 F1174 F1173 F1172 f1356 f1358 F1175 f1360 f1362 (own_add hm2k own_l0 (by omega)) (by rw [hwl4]; omega) ((congrArg Int32.toInt (hg.2 hz2).1).trans rfl) (by omega) rfl) (W := 0) (by decide) (by decide) (by decide) (by decide) rfl (by rw [hml]; rfl) (lenOf own_pd3 rfl) rfl (by show 2 * 0 + _ ≤ _; exact Nat.le_of_eq rfl) (hb hby at_560) (fun T1363 h1365 v1366 Y1364 q1367 => ?_)
     obtain ⟨rfl, rfl⟩ := q1367
     show own_Ends _ _ _ _ (T1363.setTop (mkF m 563 #[.val (.int x0), .val (.int x1), .val (.int x2), .val (.ref b593), .val (.ref b646), .val (.ref b685), .val (.ref b725), .val (.ref b771), .val (.ref b823), .val (.ref b881), .val (.ref b949), .val (.ref b1036), .val (.int (2 : Int32)), .val (.int (1 : Int32)), .val (.int (3 : Int32)), .val (.int (1 : Int32)), .val (.int (0 : Int32)), .val (.int (2 : Int32))] [(.int (own_g [y0, y1, y2, y3, y4, y5, y6, y7, y8] (3 + 0)))]))
     refine own_st (fun t_ => XS.aloadN (own_here Y1364) hx rfl (hb hby at_563) rfl rfl) ?_
     show own_Ends _ _ _ _ (T1363.setTop (mkF m 564 #[.val (.int x0), .val (.int x1), .val (.int x2), .val (.ref b593), .val (.ref b646), .val (.ref b685), .val (.ref b725), .val (.ref b771), .val (.ref b823), .val (.ref b881), .val (.ref b949), .val (.ref b1036), .val (.int (2 : Int32)), .val (.int (1 : Int32)), .val (.int (3 : Int32)), .val (.int (1 : Int32)), .val (.int (0 : Int32)), .val (.int (2 : Int32))] [(.ref b593), (.int (own_g [y0, y1, y2, y3, y4, y5, y6, y7, y8] (3 + 0)))]))
     refine own_st (fun t_ => XS.iload (own_here Y1364) hx rfl (hb hby at_564) rfl) ?_
     show own_Ends _ _ _ _ (T1363.setTop (mkF m 566 #[.val (.int x0), .val (.int x1), .val (.int x2), .val (.ref b593), .val (.ref b646), .val (.ref b685), .val (.ref b725), .val (.ref b771), .val (.ref b823), .val (.ref b881), .val (.ref b949), .val (.ref b1036), .val (.int (2 : Int32)), .val (.int (1 : Int32)), .val (.int (3 : Int32)), .val (.int (1 : Int32)), .val (.int (0 : Int32)), .val (.int (2 : Int32))] [(.int (3 : Int32)), (.ref b593), (.int (own_g [y0, y1, y2, y3, y4, y5, y6, y7, y8] (3 + 0)))]))
     refine own_st (fun t_ => XS.iload (own_here Y1364) hx rfl (hb hby at_566) rfl) ?_
     show own_Ends _ _ _ _ (T1363.setTop (mkF m 568 #[.val (.int x0), .val (.int x1), .val (.int x2), .val (.ref b593), .val (.ref b646), .val (.ref b685), .val (.ref b725), .val (.ref b771), .val (.ref b823), .val (.ref b881), .val (.ref b949), .val (.ref b1036), .val (.int (2 : Int32)), .val (.int (1 : Int32)), .val (.int (3 : Int32)), .val (.int (1 : Int32)), .val (.int (0 : Int32)), .val (.int (2 : Int32))] [(.int (0 : Int32)), (.int (3 : Int32)), (.ref b593), (.int (own_g [y0, y1, y2, y3, y4, y5, y6, y7, y8] (3 + 0)))]))
     refine own_st (fun t_ => XS.iadd (own_here Y1364) hx rfl (hb hby at_568) rfl) ?_
     show own_Ends _ _ _ _ (T1363.setTop (mkF m 569 #[.val (.int x0), .val (.int x1), .val (.int x2), .val (.ref b593), .val (.ref b646), .val (.ref b685), .val (.ref b725), .val (.ref b771), .val (.ref b823), .val (.ref b881), .val (.ref b949), .val (.ref b1036), .val (.int (2 : Int32)), .val (.int (1 : Int32)), .val (.int (3 : Int32)), .val (.int (1 : Int32)), .val (.int (0 : Int32)), .val (.int (2 : Int32))] [(.int (3 : Int32)), (.ref b593), (.int (own_g [y0, y1, y2, y3, y4, y5, y6, y7, y8] (3 + 0)))]))
     refine own_ldI Y1364 hx hZ f1356 (i := 3) (by decide) (by decide) (Nat.le_of_ble_eq_true rfl) (v := (.int y3)) rfl rfl rfl (hb hby at_569) ?_
     show own_Ends _ _ _ _ (T1363.setTop (mkF m 570 #[.val (.int x0), .val (.int x1), .val (.int x2), .val (.ref b593), .val (.ref b646), .val (.ref b685), .val (.ref b725), .val (.ref b771), .val (.ref b823), .val (.ref b881), .val (.ref b949), .val (.ref b1036), .val (.int (2 : Int32)), .val (.int (1 : Int32)), .val (.int (3 : Int32)), .val (.int (1 : Int32)), .val (.int (0 : Int32)), .val (.int (2 : Int32))] [(.int y3), (.int (own_g [y0, y1, y2, y3, y4, y5, y6, y7, y8] (3 + 0)))]))
     refine own_st (fun t_ => XS.icmpNo (own_here Y1364) hx rfl (hb hby at_570) rfl (XT.ii_ne_f rfl)) ?_
     show own_Ends _ _ _ _ (T1363.setTop (mkF m 573 #[.val (.int x0), .val (.int x1), .val (.int x2), .val (.ref b593), .val (.ref b646), .val (.ref b685), .val (.ref b725), .val (.ref b771), .val (.ref b823), .val (.ref b881), .val (.ref b949), .val (.ref b1036), .val (.int (2 : Int32)), .val (.int (1 : Int32)), .val (.int (3 : Int32)), .val (.int (1 : Int32)), .val (.int (0 : Int32)), .val (.int (2 : Int32))] []))
     refine own_st (fun t_ => XS.aload (own_here Y1364) hx rfl (hb hby at_573) rfl rfl) ?_
     show own_Ends _ _ _ _ (T1363.setTop (mkF m 575 #[.val (.int x0), .val (.int x1), .val (.int x2), .val (.ref b593), .val (.ref b646), .val (.ref b685), .val (.ref b725), .val (.ref b771), .val (.ref b823), .val (.ref b881), .val (.ref b949), .val (.ref b1036), .val (.int (2 : Int32)), .val (.int (1 : Int32)), .val (.int (3 : Int32)), .val (.int (1 : Int32)), .val (.int (0 : Int32)), .val (.int (2 : Int32))] [(.ref b1036)]))
     refine own_st (fun t_ => XS.iload (own_here Y1364) hx rfl (hb hby at_575) rfl) ?_
     show own_Ends _ _ _ _ (T1363.setTop (mkF m 577 #[.val (.int x0), .val (.int x1), .val (.int x2), .val (.ref b593), .val (.ref b646), .val (.ref b685), .val (.ref b725), .val (.ref b771), .val (.ref b823), .val (.ref b881), .val (.ref b949), .val (.ref b1036), .val (.int (2 : Int32)), .val (.int (1 : Int32)), .val (.int (3 : Int32)), .val (.int (1 : Int32)), .val (.int (0 : Int32)), .val (.int (2 : Int32))] [(.int (2 : Int32)), (.ref b1036)]))
     refine own_st (fun t_ => XS.iconst (own_here Y1364) hx rfl (hb hby at_577) ) ?_
     show own_Ends _ _ _ _ (T1363.setTop (mkF m 578 #[.val (.int x0), .val (.int x1), .val (.int x2), .val (.ref b593), .val (.ref b646), .val (.ref b685), .val (.ref b725), .val (.ref b771), .val (.ref b823), .val (.ref b881), .val (.ref b949), .val (.ref b1036), .val (.int (2 : Int32)), .val (.int (1 : Int32)), .val (.int (3 : Int32)), .val (.int (1 : Int32)), .val (.int (0 : Int32)), .val (.int (2 : Int32))] [(.int (1 : Int32)), (.int (2 : Int32)), (.ref b1036)]))
     refine own_callV Y1364 hx hZ (y := (⟨"com/example/tierpath/tierpath/Bounds", "member", "(II)I"⟩ : MethodName)) (z := (⟨"com/example/tierpath/tierpath/Bounds", "member", "(II)I"⟩ : MethodName)) hown (hw _ (List.mem_of_getElem? (i := 42) rfl)) (hw _ (List.mem_of_getElem? (i := 43) rfl)) (notFace_of_selects (args := #[]) (mvT hZ (hw _ (List.mem_of_getElem? (i := 45) rfl)))) (hw _ (List.mem_of_getElem? (i := 45) rfl)) (hw _ (List.mem_of_getElem? (i := 44) rfl)) (hw _ (List.mem_of_getElem? (i := 7) rfl)) (hw _ (List.mem_of_getElem? (i := 46) rfl)) (by decide) (a := b1036) f1368 (argsL := [(.int (2 : Int32)), (.int (1 : Int32))]) (rest := []) (own_rm6_2 l Z a0 hw [] b1036 (1 : Int32) b593 b646 sl b949 b881 [y0, y1, y2, y3, y4, y5, y6, y7, y8] w4 (0 : Int32) z0 m2 m3 m4 ((k0 + k1) + 1) 2 h1166 n0  F1171 F1170 F1174 F1173 F1172 f1356 f1358 F1175 f1360 f1362 (own_add hm2k own_l1 (by omega)) (by rw [hwl4]; omega) ((congrArg Int32.toInt (hg.2 hz2).2).trans rfl) (by omega) rfl) (W := 0) (by decide) (by decide) (by decide) (by decide) rfl (by rw [hml]; rfl) (lenOf own_pd3 rfl) rfl (by show 2 * 0 + _ ≤ _; exact Nat.le_of_eq rfl) (hb hby at_578) (fun T1369 h1371 v1372 Y1370 q1373 => ?_)
     obtain ⟨rfl, rfl⟩ := q1373
     show own_Ends _ _ _ _ (T1369.setTop (mkF m 581 #[.val (.int x0), .val (.int x1), .val (.int x2), .val (.ref b593), .val (.ref b646), .val (.ref b685), .val (.ref b725), .val (.ref b771), .val (.ref b823), .val (.ref b881), .val (.ref b949), .val (.ref b1036), .val (.int (2 : Int32)), .val (.int (1 : Int32)), .val (.int (3 : Int32)), .val (.int (1 : Int32)), .val (.int (0 : Int32)), .val (.int (2 : Int32))] [(.int (own_g [y0, y1, y2, y3, y4, y5, y6, y7, y8] (3 + 2)))]))
     refine own_st (fun t_ => XS.aloadN (own_here Y1370) hx rfl (hb hby at_581) rfl rfl) ?_
     show own_Ends _ _ _ _ (T1369.setTop (mkF m 582 #[.val (.int x0), .val (.int x1), .val (.int x2), .val (.ref b593), .val (.ref b646), .val (.ref b685), .val (.ref b725), .val (.ref b771), .val (.ref b823), .val (.ref b881), .val (.ref b949), .val (.ref b1036), .val (.int (2 : Int32)), .val (.int (1 : Int32)), .val (.int (3 : Int32)), .val (.int (1 : Int32)), .val (.int (0 : Int32)), .val (.int (2 : Int32))] [(.ref b593), (.int (own_g [y0, y1, y2, y3, y4, y5, y6, y7, y8] (3 + 2)))]))
     refine own_st (fun t_ => XS.iload (own_here Y1370) hx rfl (hb hby at_582) rfl) ?_
     show own_Ends _ _ _ _ (T1369.setTop (mkF m 584 #[.val (.int x0), .val (.int x1), .val (.int x2), .val (.ref b593), .val (.ref b646), .val (.ref b685), .val (.ref b725), .val (.ref b771), .val (.ref b823), .val (.ref b881), .val (.ref b949), .val (.ref b1036), .val (.int (2 : Int32)), .val (.int (1 : Int32)), .val (.int (3 : Int32)), .val (.int (1 : Int32)), .val (.int (0 : Int32)), .val (.int (2 : Int32))] [(.int (3 : Int32)), (.ref b593), (.int (own_g [y0, y1, y2, y3, y4, y5, y6, y7, y8] (3 + 2)))]))
     refine own_st (fun t_ => XS.iload (own_here Y1370) hx rfl (hb hby at_584) rfl) ?_
     show own_Ends _ _ _ _ (T1369.setTop (mkF m 586 #[.val (.int x0), .val (.int x1), .val (.int x2), .val (.ref b593), .val (.ref b646), .val (.ref b685), .val (.ref b725), .val (.ref b771), .val (.ref b823), .val (.ref b881), .val (.ref b949), .val (.ref b1036), .val (.int (2 : Int32)), .val (.int (1 : Int32)), .val (.int (3 : Int32)), .val (.int (1 : Int32)), .val (.int (0 : Int32)), .val (.int (2 : Int32))] [(.int (2 : Int32)), (.int (3 : Int32)), (.ref b593), (.int (own_g [y0, y1, y2, y3, y4, y5, y6, y7, y8] (3 + 2)))]))
     refine own_st (fun t_ => XS.iadd (own_here Y1370) hx rfl (hb hby at_586) rfl) ?_
     show own_Ends _ _ _ _ (T1369.setTop (mkF m 587 #[.val (.int x0), .val (.int x1), .val (.int x2), .val (.ref b593), .val (.ref b646), .val (.ref b685), .val (.ref b725), .val (.ref b771), .val (.ref b823), .val (.ref b881), .val (.ref b949), .val (.ref b1036), .val (.int (2 : Int32)), .val (.int (1 : Int32)), .val (.int (3 : Int32)), .val (.int (1 : Int32)), .val (.int (0 : Int32)), .val (.int (2 : Int32))] [(.int (5 : Int32)), (.ref b593), (.int (own_g [y0, y1, y2, y3, y4, y5, y6, y7, y8] (3 + 2)))]))
     refine own_ldI Y1370 hx hZ f1356 (i := 5) (by decide) (by decide) (Nat.le_of_ble_eq_true rfl) (v := (.int y5)) rfl rfl rfl (hb hby at_587) ?_
     show own_Ends _ _ _ _ (T1369.setTop (mkF m 588 #[.val (.int x0), .val (.int x1), .val (.int x2), .val (.ref b593), .val (.ref b646), .val (.ref b685), .val (.ref b725), .val (.ref b771), .val (.ref b823), .val (.ref b881), .val (.ref b949), .val (.ref b1036), .val (.int (2 : Int32)), .val (.int (1 : Int32)), .val (.int (3 : Int32)), .val (.int (1 : Int32)), .val (.int (0 : Int32)), .val (.int (2 : Int32))] [(.int y5), (.int (own_g [y0, y1, y2, y3, y4, y5, y6, y7, y8] (3 + 2)))]))
     refine own_st (fun t_ => XS.icmpNo (own_here Y1370) hx rfl (hb hby at_588) rfl (XT.ii_ne_f rfl)) ?_
     show own_Ends _ _ _ _ (T1369.setTop (mkF m 591 #[.val (.int x0), .val (.int x1), .val (.int x2), .val (.ref b593), .val (.ref b646), .val (.ref b685), .val (.ref b725), .val (.ref b771), .val (.ref b823), .val (.ref b881), .val (.ref b949), .val (.ref b1036), .val (.int (2 : Int32)), .val (.int (1 : Int32)), .val (.int (3 : Int32)), .val (.int (1 : Int32)), .val (.int (0 : Int32)), .val (.int (2 : Int32))] []))
     refine own_st (fun t_ => XS.iconst (own_here Y1370) hx rfl (hb hby at_591) ) ?_
     show own_Ends _ _ _ _ (T1369.setTop (mkF m 592 #[.val (.int x0), .val (.int x1), .val (.int x2), .val (.ref b593), .val (.ref b646), .val (.ref b685), .val (.ref b725), .val (.ref b771), .val (.ref b823), .val (.ref b881), .val (.ref b949), .val (.ref b1036), .val (.int (2 : Int32)), .val (.int (1 : Int32)), .val (.int (3 : Int32)), .val (.int (1 : Int32)), .val (.int (0 : Int32)), .val (.int (2 : Int32))] [(.int (1 : Int32))]))
     refine own_st (fun t_ => XS.goto (own_here Y1370) hx rfl (pc0 := 592) (pc' := 596) rfl (hb hby at_592) (by decide) (by decide)) ?_
     show own_Ends _ _ _ _ (T1369.setTop (mkF m 596 #[.val (.int x0), .val (.int x1), .val (.int x2), .val (.ref b593), .val (.ref b646), .val (.ref b685), .val (.ref b725), .val (.ref b771), .val (.ref b823), .val (.ref b881), .val (.ref b949), .val (.ref b1036), .val (.int (2 : Int32)), .val (.int (1 : Int32)), .val (.int (3 : Int32)), .val (.int (1 : Int32)), .val (.int (0 : Int32)), .val (.int (2 : Int32))] [(.int (1 : Int32))]))
     refine own_retN Y1370 hx hlk (t := .boolean) hret (by simp) (hb hby at_596) (by decide) (by decide) ?_
     exact rfl
    ·
     rw [q] at hg ⊢
     show own_Ends _ _ _ _ (T1164.setTop (mkF m 529 #[.val (.int x0), .val (.int x1), .val (.int x2), .val (.ref b593), .val (.ref b646), .val (.ref b685), .val (.ref b725), .val (.ref b771), .val (.ref b823), .val (.ref b881), .val (.ref b949), .val (.ref b1036), .val (.int (2 : Int32)), .val (.int (1 : Int32)), .val (.int (3 : Int32)), .val (.int (2 : Int32)), .unset, .unset] []))
     refine own_st (fun t_ => XS.iconst (own_here Y1165) hx rfl (hb hby at_529) ) ?_
     show own_Ends _ _ _ _ (T1164.setTop (mkF m 530 #[.val (.int x0), .val (.int x1), .val (.int x2), .val (.ref b593), .val (.ref b646), .val (.ref b685), .val (.ref b725), .val (.ref b771), .val (.ref b823), .val (.ref b881), .val (.ref b949), .val (.ref b1036), .val (.int (2 : Int32)), .val (.int (1 : Int32)), .val (.int (3 : Int32)), .val (.int (2 : Int32)), .unset, .unset] [(.int (0 : Int32))]))
     refine own_st (fun t_ => XS.iload (own_here Y1165) hx rfl (hb hby at_530) rfl) ?_
     show own_Ends _ _ _ _ (T1164.setTop (mkF m 532 #[.val (.int x0), .val (.int x1), .val (.int x2), .val (.ref b593), .val (.ref b646), .val (.ref b685), .val (.ref b725), .val (.ref b771), .val (.ref b823), .val (.ref b881), .val (.ref b949), .val (.ref b1036), .val (.int (2 : Int32)), .val (.int (1 : Int32)), .val (.int (3 : Int32)), .val (.int (2 : Int32)), .unset, .unset] [(.int (2 : Int32)), (.int (0 : Int32))]))
     refine own_st (fun t_ => XS.icmpNo (own_here Y1165) hx rfl (hb hby at_532) rfl (XT.ii_ge_f (by decide))) ?_
     show own_Ends _ _ _ _ (T1164.setTop (mkF m 535 #[.val (.int x0), .val (.int x1), .val (.int x2), .val (.ref b593), .val (.ref b646), .val (.ref b685), .val (.ref b725), .val (.ref b771), .val (.ref b823), .val (.ref b881), .val (.ref b949), .val (.ref b1036), .val (.int (2 : Int32)), .val (.int (1 : Int32)), .val (.int (3 : Int32)), .val (.int (2 : Int32)), .unset, .unset] []))
     refine own_st (fun t_ => XS.iconst (own_here Y1165) hx rfl (hb hby at_535) ) ?_
     show own_Ends _ _ _ _ (T1164.setTop (mkF m 536 #[.val (.int x0), .val (.int x1), .val (.int x2), .val (.ref b593), .val (.ref b646), .val (.ref b685), .val (.ref b725), .val (.ref b771), .val (.ref b823), .val (.ref b881), .val (.ref b949), .val (.ref b1036), .val (.int (2 : Int32)), .val (.int (1 : Int32)), .val (.int (3 : Int32)), .val (.int (2 : Int32)), .unset, .unset] [(.int (0 : Int32))]))
     refine own_st (fun t_ => XS.goto (own_here Y1165) hx rfl (pc0 := 536) (pc' := 540) rfl (hb hby at_536) (by decide) (by decide)) ?_
     show own_Ends _ _ _ _ (T1164.setTop (mkF m 540 #[.val (.int x0), .val (.int x1), .val (.int x2), .val (.ref b593), .val (.ref b646), .val (.ref b685), .val (.ref b725), .val (.ref b771), .val (.ref b823), .val (.ref b881), .val (.ref b949), .val (.ref b1036), .val (.int (2 : Int32)), .val (.int (1 : Int32)), .val (.int (3 : Int32)), .val (.int (2 : Int32)), .unset, .unset] [(.int (0 : Int32))]))
     refine own_st (fun t_ => XS.istore (own_here Y1165) hx rfl (hb hby at_540) rfl (l' := #[.val (.int x0), .val (.int x1), .val (.int x2), .val (.ref b593), .val (.ref b646), .val (.ref b685), .val (.ref b725), .val (.ref b771), .val (.ref b823), .val (.ref b881), .val (.ref b949), .val (.ref b1036), .val (.int (2 : Int32)), .val (.int (1 : Int32)), .val (.int (3 : Int32)), .val (.int (2 : Int32)), .val (.int (0 : Int32)), .unset]) rfl) ?_
     show own_Ends _ _ _ _ (T1164.setTop (mkF m 542 #[.val (.int x0), .val (.int x1), .val (.int x2), .val (.ref b593), .val (.ref b646), .val (.ref b685), .val (.ref b725), .val (.ref b771), .val (.ref b823), .val (.ref b881), .val (.ref b949), .val (.ref b1036), .val (.int (2 : Int32)), .val (.int (1 : Int32)), .val (.int (3 : Int32)), .val (.int (2 : Int32)), .val (.int (0 : Int32)), .unset] []))
     refine own_st (fun t_ => XS.iconst (own_here Y1165) hx rfl (hb hby at_542) ) ?_
     show own_Ends _ _ _ _ (T1164.setTop (mkF m 543 #[.val (.int x0), .val (.int x1), .val (.int x2), .val (.ref b593), .val (.ref b646), .val (.ref b685), .val (.ref b725), .val (.ref b771), .val (.ref b823), .val (.ref b881), .val (.ref b949), .val (.ref b1036), .val (.int (2 : Int32)), .val (.int (1 : Int32)), .val (.int (3 : Int32)), .val (.int (2 : Int32)), .val (.int (0 : Int32)), .unset] [(.int (1 : Int32))]))
     refine own_st (fun t_ => XS.iload (own_here Y1165) hx rfl (hb hby at_543) rfl) ?_
     show own_Ends _ _ _ _ (T1164.setTop (mkF m 545 #[.val (.int x0), .val (.int x1), .val (.int x2), .val (.ref b593), .val (.ref b646), .val (.ref b685), .val (.ref b725), .val (.ref b771), .val (.ref b823), .val (.ref b881), .val (.ref b949), .val (.ref b1036), .val (.int (2 : Int32)), .val (.int (1 : Int32)), .val (.int (3 : Int32)), .val (.int (2 : Int32)), .val (.int (0 : Int32)), .unset] [(.int (2 : Int32)), (.int (1 : Int32))]))
     refine own_st (fun t_ => XS.icmpNo (own_here Y1165) hx rfl (hb hby at_545) rfl (XT.ii_ge_f (by decide))) ?_
     show own_Ends _ _ _ _ (T1164.setTop (mkF m 548 #[.val (.int x0), .val (.int x1), .val (.int x2), .val (.ref b593), .val (.ref b646), .val (.ref b685), .val (.ref b725), .val (.ref b771), .val (.ref b823), .val (.ref b881), .val (.ref b949), .val (.ref b1036), .val (.int (2 : Int32)), .val (.int (1 : Int32)), .val (.int (3 : Int32)), .val (.int (2 : Int32)), .val (.int (0 : Int32)), .unset] []))
     refine own_st (fun t_ => XS.iconst (own_here Y1165) hx rfl (hb hby at_548) ) ?_
     show own_Ends _ _ _ _ (T1164.setTop (mkF m 549 #[.val (.int x0), .val (.int x1), .val (.int x2), .val (.ref b593), .val (.ref b646), .val (.ref b685), .val (.ref b725), .val (.ref b771), .val (.ref b823), .val (.ref b881), .val (.ref b949), .val (.ref b1036), .val (.int (2 : Int32)), .val (.int (1 : Int32)), .val (.int (3 : Int32)), .val (.int (2 : Int32)), .val (.int (0 : Int32)), .unset] [(.int (1 : Int32))]))
     refine own_st (fun t_ => XS.goto (own_here Y1165) hx rfl (pc0 := 549) (pc' := 553) rfl (hb hby at_549) (by decide) (by decide)) ?_
     show own_Ends _ _ _ _ (T1164.setTop (mkF m 553 #[.val (.int x0), .val (.int x1), .val (.int x2), .val (.ref b593), .val (.ref b646), .val (.ref b685), .val (.ref b725), .val (.ref b771), .val (.ref b823), .val (.ref b881), .val (.ref b949), .val (.ref b1036), .val (.int (2 : Int32)), .val (.int (1 : Int32)), .val (.int (3 : Int32)), .val (.int (2 : Int32)), .val (.int (0 : Int32)), .unset] [(.int (1 : Int32))]))
     refine own_st (fun t_ => XS.istore (own_here Y1165) hx rfl (hb hby at_553) rfl (l' := #[.val (.int x0), .val (.int x1), .val (.int x2), .val (.ref b593), .val (.ref b646), .val (.ref b685), .val (.ref b725), .val (.ref b771), .val (.ref b823), .val (.ref b881), .val (.ref b949), .val (.ref b1036), .val (.int (2 : Int32)), .val (.int (1 : Int32)), .val (.int (3 : Int32)), .val (.int (2 : Int32)), .val (.int (0 : Int32)), .val (.int (1 : Int32))]) rfl) ?_
     show own_Ends _ _ _ _ (T1164.setTop (mkF m 555 #[.val (.int x0), .val (.int x1), .val (.int x2), .val (.ref b593), .val (.ref b646), .val (.ref b685), .val (.ref b725), .val (.ref b771), .val (.ref b823), .val (.ref b881), .val (.ref b949), .val (.ref b1036), .val (.int (2 : Int32)), .val (.int (1 : Int32)), .val (.int (3 : Int32)), .val (.int (2 : Int32)), .val (.int (0 : Int32)), .val (.int (1 : Int32))] []))
     refine own_st (fun t_ => XS.aload (own_here Y1165) hx rfl (hb hby at_555) rfl rfl) ?_
     show own_Ends _ _ _ _ (T1164.setTop (mkF m 557 #[.val (.int x0), .val (.int x1), .val (.int x2), .val (.ref b593), .val (.ref b646), .val (.ref b685), .val (.ref b725), .val (.ref b771), .val (.ref b823), .val (.ref b881), .val (.ref b949), .val (.ref b1036), .val (.int (2 : Int32)), .val (.int (1 : Int32)), .val (.int (3 : Int32)), .val (.int (2 : Int32)), .val (.int (0 : Int32)), .val (.int (1 : Int32))] [(.ref b1036)]))
     refine own_st (fun t_ => XS.iload (own_here Y1165) hx rfl (hb hby at_557) rfl) ?_
     show own_Ends _ _ _ _ (T1164.setTop (mkF m 559 #[.val (.int x0), .val (.int x1), .val (.int x2), .val (.ref b593), .val (.ref b646), .val (.ref b685), .val (.ref b725), .val (.ref b771), .val (.ref b823), .val (.ref b881), .val (.ref b949), .val (.ref b1036), .val (.int (2 : Int32)), .val (.int (1 : Int32)), .val (.int (3 : Int32)), .val (.int (2 : Int32)), .val (.int (0 : Int32)), .val (.int (1 : Int32))] [(.int (2 : Int32)), (.ref b1036)]))
     refine own_st (fun t_ => XS.iconst (own_here Y1165) hx rfl (hb hby at_559) ) ?_
     show own_Ends _ _ _ _ (T1164.setTop (mkF m 560 #[.val (.int x0), .val (.int x1), .val (.int x2), .val (.ref b593), .val (.ref b646), .val (.ref b685), .val (.ref b725), .val (.ref b771), .val (.ref b823), .val (.ref b881), .val (.ref b949), .val (.ref b1036), .val (.int (2 : Int32)), .val (.int (1 : Int32)), .val (.int (3 : Int32)), .val (.int (2 : Int32)), .val (.int (0 : Int32)), .val (.int (1 : Int32))] [(.int (0 : Int32)), (.int (2 : Int32)), (.ref b1036)]))
     have f1374 : own_A Z h1166 b593 .int [(.int y0), (.int y1), (.int y2), (.int y3), (.int y4), (.int y5), (.int y6), (.int y7), (.int y8)] := f1160.keep K1169 (ninS ne1043 nin0)
     have f1375 : own_A Z h1113 b646 .int [(.int (0 : Int32)), (.int (3 : Int32)), (.int (6 : Int32)), (.int (9 : Int32))] := f1120.ext E1114
     have f1376 : own_A Z h1166 b646 .int [(.int (0 : Int32)), (.int (3 : Int32)), (.int (6 : Int32)), (.int (9 : Int32))] := f1375.keep K1169 (ninS ne1049 nin0)
     have f1377 : own_A Z h1113 b949 .int (w4.map Value.int) := f1132.ext E1114
     have f1378 : own_A Z h1166 b949 .int (w4.map Value.int) := f1377.keep K1169 (ninS ne1068 nin0)
     have f1379 : own_A Z h1113 b881 .int [(.int (0 : Int32)), (.int z0), (.int m2), (.int m3), (.int m4)] := f1130.ext E1114
     have f1380 : own_A Z h1166 b881 .int [(.int (0 : Int32)), (.int z0), (.int m2), (.int m3), (.int m4)] := f1379.keep K1169 (ninS ne1067 nin0)
     have f1386 : Exa Z h1166 b1036 "com/example/tierpath/tierpath/Bounds" := f1139.keep K1169
     refine own_callV Y1165 hx hZ (y := (⟨"com/example/tierpath/tierpath/Bounds", "member", "(II)I"⟩ : MethodName)) (z := (⟨"com/example/tierpath/tierpath/Bounds", "member", "(II)I"⟩ : MethodName)) hown (hw _ (List.mem_of_getElem? (i := 42) rfl)) (hw _ (List.mem_of_getElem? (i := 43) rfl)) (notFace_of_selects (args := #[]) (mvT hZ (hw _ (List.mem_of_getElem? (i := 45) rfl)))) (hw _ (List.mem_of_getElem? (i := 45) rfl)) (hw _ (List.mem_of_getElem? (i := 44) rfl)) (hw _ (List.mem_of_getElem? (i := 7) rfl)) (hw _ (List.mem_of_getElem? (i := 46) rfl)) (by decide) (a := b1036) f1386 (argsL := [(.int (2 : Int32)), (.int (0 : Int32))]) (rest := []) (own_rm6_2 l Z a0 hw [] b1036 (0 : Int32) b593 b646 sl b949 b881 [y0, y1, y2, y3, y4, y5, y6, y7, y8] w4 (0 : Int32) z0 m2 m3 m4 ((k0 + k1) + 0) 0 h1166 n0  F1171 F1170 F1174 F1173 F1172 f1374 f1376 F1175 f1378 f1380 (own_add hm2k own_l0 (by omega)) (by rw [hwl4]; omega) ((congrArg Int32.toInt (hg.2 hz2).1).trans rfl) (by omega) rfl) (W := 0) (by decide) (by decide) (by decide) (by decide) rfl (by rw [hml]; rfl) (lenOf own_pd3 rfl) rfl (by show 2 * 0 + _ ≤ _; exact Nat.le_of_eq rfl) (hb hby at_560) (fun T1381 h1383 v1384 Y1382 q1385 => ?_)
     obtain ⟨rfl, rfl⟩ := q1385
     show own_Ends _ _ _ _ (T1381.setTop (mkF m 563 #[.val (.int x0), .val (.int x1), .val (.int x2), .val (.ref b593), .val (.ref b646), .val (.ref b685), .val (.ref b725), .val (.ref b771), .val (.ref b823), .val (.ref b881), .val (.ref b949), .val (.ref b1036), .val (.int (2 : Int32)), .val (.int (1 : Int32)), .val (.int (3 : Int32)), .val (.int (2 : Int32)), .val (.int (0 : Int32)), .val (.int (1 : Int32))] [(.int (own_g [y0, y1, y2, y3, y4, y5, y6, y7, y8] (3 + 0)))]))
     refine own_st (fun t_ => XS.aloadN (own_here Y1382) hx rfl (hb hby at_563) rfl rfl) ?_
     show own_Ends _ _ _ _ (T1381.setTop (mkF m 564 #[.val (.int x0), .val (.int x1), .val (.int x2), .val (.ref b593), .val (.ref b646), .val (.ref b685), .val (.ref b725), .val (.ref b771), .val (.ref b823), .val (.ref b881), .val (.ref b949), .val (.ref b1036), .val (.int (2 : Int32)), .val (.int (1 : Int32)), .val (.int (3 : Int32)), .val (.int (2 : Int32)), .val (.int (0 : Int32)), .val (.int (1 : Int32))] [(.ref b593), (.int (own_g [y0, y1, y2, y3, y4, y5, y6, y7, y8] (3 + 0)))]))
     refine own_st (fun t_ => XS.iload (own_here Y1382) hx rfl (hb hby at_564) rfl) ?_
     show own_Ends _ _ _ _ (T1381.setTop (mkF m 566 #[.val (.int x0), .val (.int x1), .val (.int x2), .val (.ref b593), .val (.ref b646), .val (.ref b685), .val (.ref b725), .val (.ref b771), .val (.ref b823), .val (.ref b881), .val (.ref b949), .val (.ref b1036), .val (.int (2 : Int32)), .val (.int (1 : Int32)), .val (.int (3 : Int32)), .val (.int (2 : Int32)), .val (.int (0 : Int32)), .val (.int (1 : Int32))] [(.int (3 : Int32)), (.ref b593), (.int (own_g [y0, y1, y2, y3, y4, y5, y6, y7, y8] (3 + 0)))]))
     refine own_st (fun t_ => XS.iload (own_here Y1382) hx rfl (hb hby at_566) rfl) ?_
     show own_Ends _ _ _ _ (T1381.setTop (mkF m 568 #[.val (.int x0), .val (.int x1), .val (.int x2), .val (.ref b593), .val (.ref b646), .val (.ref b685), .val (.ref b725), .val (.ref b771), .val (.ref b823), .val (.ref b881), .val (.ref b949), .val (.ref b1036), .val (.int (2 : Int32)), .val (.int (1 : Int32)), .val (.int (3 : Int32)), .val (.int (2 : Int32)), .val (.int (0 : Int32)), .val (.int (1 : Int32))] [(.int (0 : Int32)), (.int (3 : Int32)), (.ref b593), (.int (own_g [y0, y1, y2, y3, y4, y5, y6, y7, y8] (3 + 0)))]))
     refine own_st (fun t_ => XS.iadd (own_here Y1382) hx rfl (hb hby at_568) rfl) ?_
     show own_Ends _ _ _ _ (T1381.setTop (mkF m 569 #[.val (.int x0), .val (.int x1), .val (.int x2), .val (.ref b593), .val (.ref b646), .val (.ref b685), .val (.ref b725), .val (.ref b771), .val (.ref b823), .val (.ref b881), .val (.ref b949), .val (.ref b1036), .val (.int (2 : Int32)), .val (.int (1 : Int32)), .val (.int (3 : Int32)), .val (.int (2 : Int32)), .val (.int (0 : Int32)), .val (.int (1 : Int32))] [(.int (3 : Int32)), (.ref b593), (.int (own_g [y0, y1, y2, y3, y4, y5, y6, y7, y8] (3 + 0)))]))
     refine own_ldI Y1382 hx hZ f1374 (i := 3) (by decide) (by decide) (Nat.le_of_ble_eq_true rfl) (v := (.int y3)) rfl rfl rfl (hb hby at_569) ?_
     show own_Ends _ _ _ _ (T1381.setTop (mkF m 570 #[.val (.int x0), .val (.int x1), .val (.int x2), .val (.ref b593), .val (.ref b646), .val (.ref b685), .val (.ref b725), .val (.ref b771), .val (.ref b823), .val (.ref b881), .val (.ref b949), .val (.ref b1036), .val (.int (2 : Int32)), .val (.int (1 : Int32)), .val (.int (3 : Int32)), .val (.int (2 : Int32)), .val (.int (0 : Int32)), .val (.int (1 : Int32))] [(.int y3), (.int (own_g [y0, y1, y2, y3, y4, y5, y6, y7, y8] (3 + 0)))]))
     refine own_st (fun t_ => XS.icmpNo (own_here Y1382) hx rfl (hb hby at_570) rfl (XT.ii_ne_f rfl)) ?_
     show own_Ends _ _ _ _ (T1381.setTop (mkF m 573 #[.val (.int x0), .val (.int x1), .val (.int x2), .val (.ref b593), .val (.ref b646), .val (.ref b685), .val (.ref b725), .val (.ref b771), .val (.ref b823), .val (.ref b881), .val (.ref b949), .val (.ref b1036), .val (.int (2 : Int32)), .val (.int (1 : Int32)), .val (.int (3 : Int32)), .val (.int (2 : Int32)), .val (.int (0 : Int32)), .val (.int (1 : Int32))] []))
     refine own_st (fun t_ => XS.aload (own_here Y1382) hx rfl (hb hby at_573) rfl rfl) ?_
     show own_Ends _ _ _ _ (T1381.setTop (mkF m 575 #[.val (.int x0), .val (.int x1), .val (.int x2), .val (.ref b593), .val (.ref b646), .val (.ref b685), .val (.ref b725), .val (.ref b771), .val (.ref b823), .val (.ref b881), .val (.ref b949), .val (.ref b1036), .val (.int (2 : Int32)), .val (.int (1 : Int32)), .val (.int (3 : Int32)), .val (.int (2 : Int32)), .val (.int (0 : Int32)), .val (.int (1 : Int32))] [(.ref b1036)]))
     refine own_st (fun t_ => XS.iload (own_here Y1382) hx rfl (hb hby at_575) rfl) ?_
     show own_Ends _ _ _ _ (T1381.setTop (mkF m 577 #[.val (.int x0), .val (.int x1), .val (.int x2), .val (.ref b593), .val (.ref b646), .val (.ref b685), .val (.ref b725), .val (.ref b771), .val (.ref b823), .val (.ref b881), .val (.ref b949), .val (.ref b1036), .val (.int (2 : Int32)), .val (.int (1 : Int32)), .val (.int (3 : Int32)), .val (.int (2 : Int32)), .val (.int (0 : Int32)), .val (.int (1 : Int32))] [(.int (2 : Int32)), (.ref b1036)]))
     refine own_st (fun t_ => XS.iconst (own_here Y1382) hx rfl (hb hby at_577) ) ?_
     show own_Ends _ _ _ _ (T1381.setTop (mkF m 578 #[.val (.int x0), .val (.int x1), .val (.int x2), .val (.ref b593), .val (.ref b646), .val (.ref b685), .val (.ref b725), .val (.ref b771), .val (.ref b823), .val (.ref b881), .val (.ref b949), .val (.ref b1036), .val (.int (2 : Int32)), .val (.int (1 : Int32)), .val (.int (3 : Int32)), .val (.int (2 : Int32)), .val (.int (0 : Int32)), .val (.int (1 : Int32))] [(.int (1 : Int32)), (.int (2 : Int32)), (.ref b1036)]))
     refine own_callV Y1382 hx hZ (y := (⟨"com/example/tierpath/tierpath/Bounds", "member", "(II)I"⟩ : MethodName)) (z := (⟨"com/example/tierpath/tierpath/Bounds", "member", "(II)I"⟩ : MethodName)) hown (hw _ (List.mem_of_getElem? (i := 42) rfl)) (hw _ (List.mem_of_getElem? (i := 43) rfl)) (notFace_of_selects (args := #[]) (mvT hZ (hw _ (List.mem_of_getElem? (i := 45) rfl)))) (hw _ (List.mem_of_getElem? (i := 45) rfl)) (hw _ (List.mem_of_getElem? (i := 44) rfl)) (hw _ (List.mem_of_getElem? (i := 7) rfl)) (hw _ (List.mem_of_getElem? (i := 46) rfl)) (by decide) (a := b1036) f1386 (argsL := [(.int (2 : Int32)), (.int (1 : Int32))]) (rest := []) (own_rm6_2 l Z a0 hw [] b1036 (1 : Int32) b593 b646 sl b949 b881 [y0, y1, y2, y3, y4, y5, y6, y7, y8] w4 (0 : Int32) z0 m2 m3 m4 ((k0 + k1) + 1) 1 h1166 n0  F1171 F1170 F1174 F1173 F1172 f1374 f1376 F1175 f1378 f1380 (own_add hm2k own_l1 (by omega)) (by rw [hwl4]; omega) ((congrArg Int32.toInt (hg.2 hz2).2).trans rfl) (by omega) rfl) (W := 0) (by decide) (by decide) (by decide) (by decide) rfl (by rw [hml]; rfl) (lenOf own_pd3 rfl) rfl (by show 2 * 0 + _ ≤ _; exact Nat.le_of_eq rfl) (hb hby at_578) (fun T1387 h1389 v1390 Y1388 q1391 => ?_)
     obtain ⟨rfl, rfl⟩ := q1391
     show own_Ends _ _ _ _ (T1387.setTop (mkF m 581 #[.val (.int x0), .val (.int x1), .val (.int x2), .val (.ref b593), .val (.ref b646), .val (.ref b685), .val (.ref b725), .val (.ref b771), .val (.ref b823), .val (.ref b881), .val (.ref b949), .val (.ref b1036), .val (.int (2 : Int32)), .val (.int (1 : Int32)), .val (.int (3 : Int32)), .val (.int (2 : Int32)), .val (.int (0 : Int32)), .val (.int (1 : Int32))] [(.int (own_g [y0, y1, y2, y3, y4, y5, y6, y7, y8] (3 + 1)))]))
     refine own_st (fun t_ => XS.aloadN (own_here Y1388) hx rfl (hb hby at_581) rfl rfl) ?_
     show own_Ends _ _ _ _ (T1387.setTop (mkF m 582 #[.val (.int x0), .val (.int x1), .val (.int x2), .val (.ref b593), .val (.ref b646), .val (.ref b685), .val (.ref b725), .val (.ref b771), .val (.ref b823), .val (.ref b881), .val (.ref b949), .val (.ref b1036), .val (.int (2 : Int32)), .val (.int (1 : Int32)), .val (.int (3 : Int32)), .val (.int (2 : Int32)), .val (.int (0 : Int32)), .val (.int (1 : Int32))] [(.ref b593), (.int (own_g [y0, y1, y2, y3, y4, y5, y6, y7, y8] (3 + 1)))]))
     refine own_st (fun t_ => XS.iload (own_here Y1388) hx rfl (hb hby at_582) rfl) ?_
     show own_Ends _ _ _ _ (T1387.setTop (mkF m 584 #[.val (.int x0), .val (.int x1), .val (.int x2), .val (.ref b593), .val (.ref b646), .val (.ref b685), .val (.ref b725), .val (.ref b771), .val (.ref b823), .val (.ref b881), .val (.ref b949), .val (.ref b1036), .val (.int (2 : Int32)), .val (.int (1 : Int32)), .val (.int (3 : Int32)), .val (.int (2 : Int32)), .val (.int (0 : Int32)), .val (.int (1 : Int32))] [(.int (3 : Int32)), (.ref b593), (.int (own_g [y0, y1, y2, y3, y4, y5, y6, y7, y8] (3 + 1)))]))
     refine own_st (fun t_ => XS.iload (own_here Y1388) hx rfl (hb hby at_584) rfl) ?_
     show own_Ends _ _ _ _ (T1387.setTop (mkF m 586 #[.val (.int x0), .val (.int x1), .val (.int x2), .val (.ref b593), .val (.ref b646), .val (.ref b685), .val (.ref b725), .val (.ref b771), .val (.ref b823), .val (.ref b881), .val (.ref b949), .val (.ref b1036), .val (.int (2 : Int32)), .val (.int (1 : Int32)), .val (.int (3 : Int32)), .val (.int (2 : Int32)), .val (.int (0 : Int32)), .val (.int (1 : Int32))] [(.int (1 : Int32)), (.int (3 : Int32)), (.ref b593), (.int (own_g [y0, y1, y2, y3, y4, y5, y6, y7, y8] (3 + 1)))]))
     refine own_st (fun t_ => XS.iadd (own_here Y1388) hx rfl (hb hby at_586) rfl) ?_
     show own_Ends _ _ _ _ (T1387.setTop (mkF m 587 #[.val (.int x0), .val (.int x1), .val (.int x2), .val (.ref b593), .val (.ref b646), .val (.ref b685), .val (.ref b725), .val (.ref b771), .val (.ref b823), .val (.ref b881), .val (.ref b949), .val (.ref b1036), .val (.int (2 : Int32)), .val (.int (1 : Int32)), .val (.int (3 : Int32)), .val (.int (2 : Int32)), .val (.int (0 : Int32)), .val (.int (1 : Int32))] [(.int (4 : Int32)), (.ref b593), (.int (own_g [y0, y1, y2, y3, y4, y5, y6, y7, y8] (3 + 1)))]))
     refine own_ldI Y1388 hx hZ f1374 (i := 4) (by decide) (by decide) (Nat.le_of_ble_eq_true rfl) (v := (.int y4)) rfl rfl rfl (hb hby at_587) ?_
     show own_Ends _ _ _ _ (T1387.setTop (mkF m 588 #[.val (.int x0), .val (.int x1), .val (.int x2), .val (.ref b593), .val (.ref b646), .val (.ref b685), .val (.ref b725), .val (.ref b771), .val (.ref b823), .val (.ref b881), .val (.ref b949), .val (.ref b1036), .val (.int (2 : Int32)), .val (.int (1 : Int32)), .val (.int (3 : Int32)), .val (.int (2 : Int32)), .val (.int (0 : Int32)), .val (.int (1 : Int32))] [(.int y4), (.int (own_g [y0, y1, y2, y3, y4, y5, y6, y7, y8] (3 + 1)))]))
     refine own_st (fun t_ => XS.icmpNo (own_here Y1388) hx rfl (hb hby at_588) rfl (XT.ii_ne_f rfl)) ?_
     show own_Ends _ _ _ _ (T1387.setTop (mkF m 591 #[.val (.int x0), .val (.int x1), .val (.int x2), .val (.ref b593), .val (.ref b646), .val (.ref b685), .val (.ref b725), .val (.ref b771), .val (.ref b823), .val (.ref b881), .val (.ref b949), .val (.ref b1036), .val (.int (2 : Int32)), .val (.int (1 : Int32)), .val (.int (3 : Int32)), .val (.int (2 : Int32)), .val (.int (0 : Int32)), .val (.int (1 : Int32))] []))
     refine own_st (fun t_ => XS.iconst (own_here Y1388) hx rfl (hb hby at_591) ) ?_
     show own_Ends _ _ _ _ (T1387.setTop (mkF m 592 #[.val (.int x0), .val (.int x1), .val (.int x2), .val (.ref b593), .val (.ref b646), .val (.ref b685), .val (.ref b725), .val (.ref b771), .val (.ref b823), .val (.ref b881), .val (.ref b949), .val (.ref b1036), .val (.int (2 : Int32)), .val (.int (1 : Int32)), .val (.int (3 : Int32)), .val (.int (2 : Int32)), .val (.int (0 : Int32)), .val (.int (1 : Int32))] [(.int (1 : Int32))]))
     refine own_st (fun t_ => XS.goto (own_here Y1388) hx rfl (pc0 := 592) (pc' := 596) rfl (hb hby at_592) (by decide) (by decide)) ?_
     show own_Ends _ _ _ _ (T1387.setTop (mkF m 596 #[.val (.int x0), .val (.int x1), .val (.int x2), .val (.ref b593), .val (.ref b646), .val (.ref b685), .val (.ref b725), .val (.ref b771), .val (.ref b823), .val (.ref b881), .val (.ref b949), .val (.ref b1036), .val (.int (2 : Int32)), .val (.int (1 : Int32)), .val (.int (3 : Int32)), .val (.int (2 : Int32)), .val (.int (0 : Int32)), .val (.int (1 : Int32))] [(.int (1 : Int32))]))
     refine own_retN Y1388 hx hlk (t := .boolean) hret (by simp) (hb hby at_596) (by decide) (by decide) ?_
     exact rfl
  ·
   have hg := hfin.2.2.2
   show own_Ends _ _ _ _ (T1164.setTop (mkF m 461 #[.val (.int x0), .val (.int x1), .val (.int x2), .val (.ref b593), .val (.ref b646), .val (.ref b685), .val (.ref b725), .val (.ref b771), .val (.ref b823), .val (.ref b881), .val (.ref b949), .val (.ref b1036), .val (.int (3 : Int32)), .unset, .unset, .unset, .unset, .unset] []))
   refine own_st (fun t_ => XS.iload (own_here Y1165) hx rfl (hb hby at_461) rfl) ?_
   show own_Ends _ _ _ _ (T1164.setTop (mkF m 463 #[.val (.int x0), .val (.int x1), .val (.int x2), .val (.ref b593), .val (.ref b646), .val (.ref b685), .val (.ref b725), .val (.ref b771), .val (.ref b823), .val (.ref b881), .val (.ref b949), .val (.ref b1036), .val (.int (3 : Int32)), .unset, .unset, .unset, .unset, .unset] [(.int (3 : Int32))]))
   refine own_st (fun t_ => XS.ifYes (own_here Y1165) hx rfl (pc0 := 463) (pc' := 470) rfl (hb hby at_463) rfl (XT.i0_ne_t (by decide)) (by decide) (by decide)) ?_
   show own_Ends _ _ _ _ (T1164.setTop (mkF m 470 #[.val (.int x0), .val (.int x1), .val (.int x2), .val (.ref b593), .val (.ref b646), .val (.ref b685), .val (.ref b725), .val (.ref b771), .val (.ref b823), .val (.ref b881), .val (.ref b949), .val (.ref b1036), .val (.int (3 : Int32)), .unset, .unset, .unset, .unset, .unset] []))
   refine own_st (fun t_ => XS.iload (own_here Y1165) hx rfl (hb hby at_470) rfl) ?_
   show own_Ends _ _ _ _ (T1164.setTop (mkF m 472 #[.val (.int x0), .val (.int x1), .val (.int x2), .val (.ref b593), .val (.ref b646), .val (.ref b685), .val (.ref b725), .val (.ref b771), .val (.ref b823), .val (.ref b881), .val (.ref b949), .val (.ref b1036), .val (.int (3 : Int32)), .unset, .unset, .unset, .unset, .unset] [(.int (3 : Int32))]))
   refine own_st (fun t_ => XS.iconst (own_here Y1165) hx rfl (hb hby at_472) ) ?_
   show own_Ends _ _ _ _ (T1164.setTop (mkF m 473 #[.val (.int x0), .val (.int x1), .val (.int x2), .val (.ref b593), .val (.ref b646), .val (.ref b685), .val (.ref b725), .val (.ref b771), .val (.ref b823), .val (.ref b881), .val (.ref b949), .val (.ref b1036), .val (.int (3 : Int32)), .unset, .unset, .unset, .unset, .unset] [(.int (3 : Int32)), (.int (3 : Int32))]))
   refine own_st (fun t_ => XS.icmpNo (own_here Y1165) hx rfl (hb hby at_473) rfl (XT.ii_ne_f (by decide))) ?_
   show own_Ends _ _ _ _ (T1164.setTop (mkF m 476 #[.val (.int x0), .val (.int x1), .val (.int x2), .val (.ref b593), .val (.ref b646), .val (.ref b685), .val (.ref b725), .val (.ref b771), .val (.ref b823), .val (.ref b881), .val (.ref b949), .val (.ref b1036), .val (.int (3 : Int32)), .unset, .unset, .unset, .unset, .unset] []))
   refine own_st (fun t_ => XS.iconst (own_here Y1165) hx rfl (hb hby at_476) ) ?_
   show own_Ends _ _ _ _ (T1164.setTop (mkF m 477 #[.val (.int x0), .val (.int x1), .val (.int x2), .val (.ref b593), .val (.ref b646), .val (.ref b685), .val (.ref b725), .val (.ref b771), .val (.ref b823), .val (.ref b881), .val (.ref b949), .val (.ref b1036), .val (.int (3 : Int32)), .unset, .unset, .unset, .unset, .unset] [(.int (2 : Int32))]))
   refine own_st (fun t_ => XS.goto (own_here Y1165) hx rfl (pc0 := 477) (pc' := 481) rfl (hb hby at_477) (by decide) (by decide)) ?_
   show own_Ends _ _ _ _ (T1164.setTop (mkF m 481 #[.val (.int x0), .val (.int x1), .val (.int x2), .val (.ref b593), .val (.ref b646), .val (.ref b685), .val (.ref b725), .val (.ref b771), .val (.ref b823), .val (.ref b881), .val (.ref b949), .val (.ref b1036), .val (.int (3 : Int32)), .unset, .unset, .unset, .unset, .unset] [(.int (2 : Int32))]))
   refine own_st (fun t_ => XS.istore (own_here Y1165) hx rfl (hb hby at_481) rfl (l' := #[.val (.int x0), .val (.int x1), .val (.int x2), .val (.ref b593), .val (.ref b646), .val (.ref b685), .val (.ref b725), .val (.ref b771), .val (.ref b823), .val (.ref b881), .val (.ref b949), .val (.ref b1036), .val (.int (3 : Int32)), .val (.int (2 : Int32)), .unset, .unset, .unset, .unset]) rfl) ?_
   show own_Ends _ _ _ _ (T1164.setTop (mkF m 483 #[.val (.int x0), .val (.int x1), .val (.int x2), .val (.ref b593), .val (.ref b646), .val (.ref b685), .val (.ref b725), .val (.ref b771), .val (.ref b823), .val (.ref b881), .val (.ref b949), .val (.ref b1036), .val (.int (3 : Int32)), .val (.int (2 : Int32)), .unset, .unset, .unset, .unset] []))
   refine own_st (fun t_ => XS.iconst (own_here Y1165) hx rfl (hb hby at_483) ) ?_
   show own_Ends _ _ _ _ (T1164.setTop (mkF m 484 #[.val (.int x0), .val (.int x1), .val (.int x2), .val (.ref b593), .val (.ref b646), .val (.ref b685), .val (.ref b725), .val (.ref b771), .val (.ref b823), .val (.ref b881), .val (.ref b949), .val (.ref b1036), .val (.int (3 : Int32)), .val (.int (2 : Int32)), .unset, .unset, .unset, .unset] [(.int (3 : Int32))]))
   refine own_st (fun t_ => XS.iload (own_here Y1165) hx rfl (hb hby at_484) rfl) ?_
   show own_Ends _ _ _ _ (T1164.setTop (mkF m 486 #[.val (.int x0), .val (.int x1), .val (.int x2), .val (.ref b593), .val (.ref b646), .val (.ref b685), .val (.ref b725), .val (.ref b771), .val (.ref b823), .val (.ref b881), .val (.ref b949), .val (.ref b1036), .val (.int (3 : Int32)), .val (.int (2 : Int32)), .unset, .unset, .unset, .unset] [(.int (2 : Int32)), (.int (3 : Int32))]))
   refine own_st (fun t_ => XS.imul (own_here Y1165) hx rfl (hb hby at_486) rfl) ?_
   show own_Ends _ _ _ _ (T1164.setTop (mkF m 487 #[.val (.int x0), .val (.int x1), .val (.int x2), .val (.ref b593), .val (.ref b646), .val (.ref b685), .val (.ref b725), .val (.ref b771), .val (.ref b823), .val (.ref b881), .val (.ref b949), .val (.ref b1036), .val (.int (3 : Int32)), .val (.int (2 : Int32)), .unset, .unset, .unset, .unset] [(.int (6 : Int32))]))
   refine own_st (fun t_ => XS.istore (own_here Y1165) hx rfl (hb hby at_487) rfl (l' := #[.val (.int x0), .val (.int x1), .val (.int x2), .val (.ref b593), .val (.ref b646), .val (.ref b685), .val (.ref b725), .val (.ref b771), .val (.ref b823), .val (.ref b881), .val (.ref b949), .val (.ref b1036), .val (.int (3 : Int32)), .val (.int (2 : Int32)), .val (.int (6 : Int32)), .unset, .unset, .unset]) rfl) ?_
   show own_Ends _ _ _ _ (T1164.setTop (mkF m 489 #[.val (.int x0), .val (.int x1), .val (.int x2), .val (.ref b593), .val (.ref b646), .val (.ref b685), .val (.ref b725), .val (.ref b771), .val (.ref b823), .val (.ref b881), .val (.ref b949), .val (.ref b1036), .val (.int (3 : Int32)), .val (.int (2 : Int32)), .val (.int (6 : Int32)), .unset, .unset, .unset] []))
   refine own_st (fun t_ => XS.aload (own_here Y1165) hx rfl (hb hby at_489) rfl rfl) ?_
   show own_Ends _ _ _ _ (T1164.setTop (mkF m 491 #[.val (.int x0), .val (.int x1), .val (.int x2), .val (.ref b593), .val (.ref b646), .val (.ref b685), .val (.ref b725), .val (.ref b771), .val (.ref b823), .val (.ref b881), .val (.ref b949), .val (.ref b1036), .val (.int (3 : Int32)), .val (.int (2 : Int32)), .val (.int (6 : Int32)), .unset, .unset, .unset] [(.ref b823)]))
   refine own_st (fun t_ => XS.iload (own_here Y1165) hx rfl (hb hby at_491) rfl) ?_
   show own_Ends _ _ _ _ (T1164.setTop (mkF m 493 #[.val (.int x0), .val (.int x1), .val (.int x2), .val (.ref b593), .val (.ref b646), .val (.ref b685), .val (.ref b725), .val (.ref b771), .val (.ref b823), .val (.ref b881), .val (.ref b949), .val (.ref b1036), .val (.int (3 : Int32)), .val (.int (2 : Int32)), .val (.int (6 : Int32)), .unset, .unset, .unset] [(.int (3 : Int32)), (.ref b823)]))
   have f1392 : own_A Z h1113 b823 .int [(.int o0), (.int o1), (.int o2), (.int o3)] := f1128.ext E1114
   have f1393 : own_A Z h1166 b823 .int [(.int o0), (.int o1), (.int o2), (.int o3)] := f1392.keep K1169 (ninS ne1065 nin0)
   refine own_ldI Y1165 hx hZ f1393 (i := 3) (by decide) (by decide) (Nat.le_of_ble_eq_true rfl) (v := (.int o3)) rfl rfl rfl (hb hby at_493) ?_
   show own_Ends _ _ _ _ (T1164.setTop (mkF m 494 #[.val (.int x0), .val (.int x1), .val (.int x2), .val (.ref b593), .val (.ref b646), .val (.ref b685), .val (.ref b725), .val (.ref b771), .val (.ref b823), .val (.ref b881), .val (.ref b949), .val (.ref b1036), .val (.int (3 : Int32)), .val (.int (2 : Int32)), .val (.int (6 : Int32)), .unset, .unset, .unset] [(.int o3)]))
   refine own_st (fun t_ => XS.istore (own_here Y1165) hx rfl (hb hby at_494) rfl (l' := #[.val (.int x0), .val (.int x1), .val (.int x2), .val (.ref b593), .val (.ref b646), .val (.ref b685), .val (.ref b725), .val (.ref b771), .val (.ref b823), .val (.ref b881), .val (.ref b949), .val (.ref b1036), .val (.int (3 : Int32)), .val (.int (2 : Int32)), .val (.int (6 : Int32)), .val (.int o3), .unset, .unset]) rfl) ?_
   show own_Ends _ _ _ _ (T1164.setTop (mkF m 496 #[.val (.int x0), .val (.int x1), .val (.int x2), .val (.ref b593), .val (.ref b646), .val (.ref b685), .val (.ref b725), .val (.ref b771), .val (.ref b823), .val (.ref b881), .val (.ref b949), .val (.ref b1036), .val (.int (3 : Int32)), .val (.int (2 : Int32)), .val (.int (6 : Int32)), .val (.int o3), .unset, .unset] []))
   refine own_st (fun t_ => XS.aload (own_here Y1165) hx rfl (hb hby at_496) rfl rfl) ?_
   show own_Ends _ _ _ _ (T1164.setTop (mkF m 498 #[.val (.int x0), .val (.int x1), .val (.int x2), .val (.ref b593), .val (.ref b646), .val (.ref b685), .val (.ref b725), .val (.ref b771), .val (.ref b823), .val (.ref b881), .val (.ref b949), .val (.ref b1036), .val (.int (3 : Int32)), .val (.int (2 : Int32)), .val (.int (6 : Int32)), .val (.int o3), .unset, .unset] [(.ref b771)]))
   refine own_st (fun t_ => XS.iload (own_here Y1165) hx rfl (hb hby at_498) rfl) ?_
   show own_Ends _ _ _ _ (T1164.setTop (mkF m 500 #[.val (.int x0), .val (.int x1), .val (.int x2), .val (.ref b593), .val (.ref b646), .val (.ref b685), .val (.ref b725), .val (.ref b771), .val (.ref b823), .val (.ref b881), .val (.ref b949), .val (.ref b1036), .val (.int (3 : Int32)), .val (.int (2 : Int32)), .val (.int (6 : Int32)), .val (.int o3), .unset, .unset] [(.int (3 : Int32)), (.ref b771)]))
   have f1394 : own_A Z h1113 b771 .int [(.int z0), (.int z1), (.int z2), (.int z3)] := f1126.ext E1114
   have f1395 : own_A Z h1166 b771 .int [(.int z0), (.int z1), (.int z2), (.int z3)] := f1394.keep K1169 (ninS ne1063 nin0)
   refine own_ldI Y1165 hx hZ f1395 (i := 3) (by decide) (by decide) (Nat.le_of_ble_eq_true rfl) (v := (.int z3)) rfl rfl rfl (hb hby at_500) ?_
   show own_Ends _ _ _ _ (T1164.setTop (mkF m 501 #[.val (.int x0), .val (.int x1), .val (.int x2), .val (.ref b593), .val (.ref b646), .val (.ref b685), .val (.ref b725), .val (.ref b771), .val (.ref b823), .val (.ref b881), .val (.ref b949), .val (.ref b1036), .val (.int (3 : Int32)), .val (.int (2 : Int32)), .val (.int (6 : Int32)), .val (.int o3), .unset, .unset] [(.int z3)]))
   refine own_st (fun t_ => XS.iconst (own_here Y1165) hx rfl (hb hby at_501) ) ?_
   show own_Ends _ _ _ _ (T1164.setTop (mkF m 502 #[.val (.int x0), .val (.int x1), .val (.int x2), .val (.ref b593), .val (.ref b646), .val (.ref b685), .val (.ref b725), .val (.ref b771), .val (.ref b823), .val (.ref b881), .val (.ref b949), .val (.ref b1036), .val (.int (3 : Int32)), .val (.int (2 : Int32)), .val (.int (6 : Int32)), .val (.int o3), .unset, .unset] [(.int (1 : Int32)), (.int z3)]))
   by_cases c502_1396 : z3 = (1 : Int32)
   ·
    refine own_st (fun t_ => XS.icmpNo (own_here Y1165) hx rfl (hb hby at_502) rfl (XT.ii_ne_f c502_1396)) ?_
    show own_Ends _ _ _ _ (T1164.setTop (mkF m 505 #[.val (.int x0), .val (.int x1), .val (.int x2), .val (.ref b593), .val (.ref b646), .val (.ref b685), .val (.ref b725), .val (.ref b771), .val (.ref b823), .val (.ref b881), .val (.ref b949), .val (.ref b1036), .val (.int (3 : Int32)), .val (.int (2 : Int32)), .val (.int (6 : Int32)), .val (.int o3), .unset, .unset] []))
    refine own_st (fun t_ => XS.aload (own_here Y1165) hx rfl (hb hby at_505) rfl rfl) ?_
    show own_Ends _ _ _ _ (T1164.setTop (mkF m 507 #[.val (.int x0), .val (.int x1), .val (.int x2), .val (.ref b593), .val (.ref b646), .val (.ref b685), .val (.ref b725), .val (.ref b771), .val (.ref b823), .val (.ref b881), .val (.ref b949), .val (.ref b1036), .val (.int (3 : Int32)), .val (.int (2 : Int32)), .val (.int (6 : Int32)), .val (.int o3), .unset, .unset] [(.ref b1036)]))
    refine own_st (fun t_ => XS.iload (own_here Y1165) hx rfl (hb hby at_507) rfl) ?_
    show own_Ends _ _ _ _ (T1164.setTop (mkF m 509 #[.val (.int x0), .val (.int x1), .val (.int x2), .val (.ref b593), .val (.ref b646), .val (.ref b685), .val (.ref b725), .val (.ref b771), .val (.ref b823), .val (.ref b881), .val (.ref b949), .val (.ref b1036), .val (.int (3 : Int32)), .val (.int (2 : Int32)), .val (.int (6 : Int32)), .val (.int o3), .unset, .unset] [(.int (3 : Int32)), (.ref b1036)]))
    refine own_st (fun t_ => XS.iconst (own_here Y1165) hx rfl (hb hby at_509) ) ?_
    show own_Ends _ _ _ _ (T1164.setTop (mkF m 510 #[.val (.int x0), .val (.int x1), .val (.int x2), .val (.ref b593), .val (.ref b646), .val (.ref b685), .val (.ref b725), .val (.ref b771), .val (.ref b823), .val (.ref b881), .val (.ref b949), .val (.ref b1036), .val (.int (3 : Int32)), .val (.int (2 : Int32)), .val (.int (6 : Int32)), .val (.int o3), .unset, .unset] [(.int (0 : Int32)), (.int (3 : Int32)), (.ref b1036)]))
    have f1397 : own_A Z h1166 b593 .int [(.int y0), (.int y1), (.int y2), (.int y3), (.int y4), (.int y5), (.int y6), (.int y7), (.int y8)] := f1160.keep K1169 (ninS ne1043 nin0)
    have f1398 : own_A Z h1113 b646 .int [(.int (0 : Int32)), (.int (3 : Int32)), (.int (6 : Int32)), (.int (9 : Int32))] := f1120.ext E1114
    have f1399 : own_A Z h1166 b646 .int [(.int (0 : Int32)), (.int (3 : Int32)), (.int (6 : Int32)), (.int (9 : Int32))] := f1398.keep K1169 (ninS ne1049 nin0)
    have f1400 : own_A Z h1113 b949 .int (w4.map Value.int) := f1132.ext E1114
    have f1401 : own_A Z h1166 b949 .int (w4.map Value.int) := f1400.keep K1169 (ninS ne1068 nin0)
    have f1402 : own_A Z h1113 b881 .int [(.int (0 : Int32)), (.int z0), (.int m2), (.int m3), (.int m4)] := f1130.ext E1114
    have f1403 : own_A Z h1166 b881 .int [(.int (0 : Int32)), (.int z0), (.int m2), (.int m3), (.int m4)] := f1402.keep K1169 (ninS ne1067 nin0)
    have f1409 : Exa Z h1166 b1036 "com/example/tierpath/tierpath/Bounds" := f1139.keep K1169
    refine own_callV Y1165 hx hZ (y := (⟨"com/example/tierpath/tierpath/Bounds", "member", "(II)I"⟩ : MethodName)) (z := (⟨"com/example/tierpath/tierpath/Bounds", "member", "(II)I"⟩ : MethodName)) hown (hw _ (List.mem_of_getElem? (i := 42) rfl)) (hw _ (List.mem_of_getElem? (i := 43) rfl)) (notFace_of_selects (args := #[]) (mvT hZ (hw _ (List.mem_of_getElem? (i := 45) rfl)))) (hw _ (List.mem_of_getElem? (i := 45) rfl)) (hw _ (List.mem_of_getElem? (i := 44) rfl)) (hw _ (List.mem_of_getElem? (i := 7) rfl)) (hw _ (List.mem_of_getElem? (i := 46) rfl)) (by decide) (a := b1036) f1409 (argsL := [(.int (3 : Int32)), (.int (0 : Int32))]) (rest := []) (own_rm6_3 l Z a0 hw [] b1036 (0 : Int32) b593 b646 sl b949 b881 [y0, y1, y2, y3, y4, y5, y6, y7, y8] w4 (0 : Int32) z0 m2 m3 m4 ((k0 + k1 + k2) + 0) j3 h1166 n0  F1171 F1170 F1174 F1173 F1172 f1397 f1399 F1175 f1401 f1403 (own_add hm3k own_l0 (by omega)) (by rw [hwl4]; omega) ((congrArg Int32.toInt (hg.1 c502_1396)).trans ho3k) (by omega) rfl) (W := 0) (by decide) (by decide) (by decide) (by decide) rfl (by rw [hml]; rfl) (lenOf own_pd3 rfl) rfl (by show 2 * 0 + _ ≤ _; exact Nat.le_of_eq rfl) (hb hby at_510) (fun T1404 h1406 v1407 Y1405 q1408 => ?_)
    obtain ⟨rfl, rfl⟩ := q1408
    show own_Ends _ _ _ _ (T1404.setTop (mkF m 513 #[.val (.int x0), .val (.int x1), .val (.int x2), .val (.ref b593), .val (.ref b646), .val (.ref b685), .val (.ref b725), .val (.ref b771), .val (.ref b823), .val (.ref b881), .val (.ref b949), .val (.ref b1036), .val (.int (3 : Int32)), .val (.int (2 : Int32)), .val (.int (6 : Int32)), .val (.int o3), .unset, .unset] [(.int (own_g [y0, y1, y2, y3, y4, y5, y6, y7, y8] (6 + j3)))]))
    refine own_st (fun t_ => XS.aloadN (own_here Y1405) hx rfl (hb hby at_513) rfl rfl) ?_
    show own_Ends _ _ _ _ (T1404.setTop (mkF m 514 #[.val (.int x0), .val (.int x1), .val (.int x2), .val (.ref b593), .val (.ref b646), .val (.ref b685), .val (.ref b725), .val (.ref b771), .val (.ref b823), .val (.ref b881), .val (.ref b949), .val (.ref b1036), .val (.int (3 : Int32)), .val (.int (2 : Int32)), .val (.int (6 : Int32)), .val (.int o3), .unset, .unset] [(.ref b593), (.int (own_g [y0, y1, y2, y3, y4, y5, y6, y7, y8] (6 + j3)))]))
    refine own_st (fun t_ => XS.iload (own_here Y1405) hx rfl (hb hby at_514) rfl) ?_
    show own_Ends _ _ _ _ (T1404.setTop (mkF m 516 #[.val (.int x0), .val (.int x1), .val (.int x2), .val (.ref b593), .val (.ref b646), .val (.ref b685), .val (.ref b725), .val (.ref b771), .val (.ref b823), .val (.ref b881), .val (.ref b949), .val (.ref b1036), .val (.int (3 : Int32)), .val (.int (2 : Int32)), .val (.int (6 : Int32)), .val (.int o3), .unset, .unset] [(.int (6 : Int32)), (.ref b593), (.int (own_g [y0, y1, y2, y3, y4, y5, y6, y7, y8] (6 + j3)))]))
    refine own_st (fun t_ => XS.iload (own_here Y1405) hx rfl (hb hby at_516) rfl) ?_
    show own_Ends _ _ _ _ (T1404.setTop (mkF m 518 #[.val (.int x0), .val (.int x1), .val (.int x2), .val (.ref b593), .val (.ref b646), .val (.ref b685), .val (.ref b725), .val (.ref b771), .val (.ref b823), .val (.ref b881), .val (.ref b949), .val (.ref b1036), .val (.int (3 : Int32)), .val (.int (2 : Int32)), .val (.int (6 : Int32)), .val (.int o3), .unset, .unset] [(.int o3), (.int (6 : Int32)), (.ref b593), (.int (own_g [y0, y1, y2, y3, y4, y5, y6, y7, y8] (6 + j3)))]))
    refine own_st (fun t_ => XS.iadd (own_here Y1405) hx rfl (hb hby at_518) rfl) ?_
    show own_Ends _ _ _ _ (T1404.setTop (mkF m 519 #[.val (.int x0), .val (.int x1), .val (.int x2), .val (.ref b593), .val (.ref b646), .val (.ref b685), .val (.ref b725), .val (.ref b771), .val (.ref b823), .val (.ref b881), .val (.ref b949), .val (.ref b1036), .val (.int (3 : Int32)), .val (.int (2 : Int32)), .val (.int (6 : Int32)), .val (.int o3), .unset, .unset] [(.int ((6 : Int32) + o3)), (.ref b593), (.int (own_g [y0, y1, y2, y3, y4, y5, y6, y7, y8] (6 + j3)))]))
    obtain ⟨t0, t1⟩ := own_nat (own_add own_l6 ho3k (by omega))
    refine own_ldI Y1405 hx hZ f1397 (i := (6 + j3)) t0 t1 (own_mlen (xs := [y0, y1, y2, y3, y4, y5, y6, y7, y8]) (by show 6 + j3 < 9; omega)) (v := (.int (own_g [y0, y1, y2, y3, y4, y5, y6, y7, y8] (6 + j3)))) (own_mget (xs := [y0, y1, y2, y3, y4, y5, y6, y7, y8]) (own_mlen (by show 6 + j3 < 9; omega))) rfl rfl (hb hby at_519) ?_
    show own_Ends _ _ _ _ (T1404.setTop (mkF m 520 #[.val (.int x0), .val (.int x1), .val (.int x2), .val (.ref b593), .val (.ref b646), .val (.ref b685), .val (.ref b725), .val (.ref b771), .val (.ref b823), .val (.ref b881), .val (.ref b949), .val (.ref b1036), .val (.int (3 : Int32)), .val (.int (2 : Int32)), .val (.int (6 : Int32)), .val (.int o3), .unset, .unset] [(.int (own_g [y0, y1, y2, y3, y4, y5, y6, y7, y8] (6 + j3))), (.int (own_g [y0, y1, y2, y3, y4, y5, y6, y7, y8] (6 + j3)))]))
    refine own_st (fun t_ => XS.icmpNo (own_here Y1405) hx rfl (hb hby at_520) rfl (XT.ii_ne_f rfl)) ?_
    show own_Ends _ _ _ _ (T1404.setTop (mkF m 523 #[.val (.int x0), .val (.int x1), .val (.int x2), .val (.ref b593), .val (.ref b646), .val (.ref b685), .val (.ref b725), .val (.ref b771), .val (.ref b823), .val (.ref b881), .val (.ref b949), .val (.ref b1036), .val (.int (3 : Int32)), .val (.int (2 : Int32)), .val (.int (6 : Int32)), .val (.int o3), .unset, .unset] []))
    refine own_st (fun t_ => XS.iconst (own_here Y1405) hx rfl (hb hby at_523) ) ?_
    show own_Ends _ _ _ _ (T1404.setTop (mkF m 524 #[.val (.int x0), .val (.int x1), .val (.int x2), .val (.ref b593), .val (.ref b646), .val (.ref b685), .val (.ref b725), .val (.ref b771), .val (.ref b823), .val (.ref b881), .val (.ref b949), .val (.ref b1036), .val (.int (3 : Int32)), .val (.int (2 : Int32)), .val (.int (6 : Int32)), .val (.int o3), .unset, .unset] [(.int (1 : Int32))]))
    refine own_st (fun t_ => XS.goto (own_here Y1405) hx rfl (pc0 := 524) (pc' := 528) rfl (hb hby at_524) (by decide) (by decide)) ?_
    show own_Ends _ _ _ _ (T1404.setTop (mkF m 528 #[.val (.int x0), .val (.int x1), .val (.int x2), .val (.ref b593), .val (.ref b646), .val (.ref b685), .val (.ref b725), .val (.ref b771), .val (.ref b823), .val (.ref b881), .val (.ref b949), .val (.ref b1036), .val (.int (3 : Int32)), .val (.int (2 : Int32)), .val (.int (6 : Int32)), .val (.int o3), .unset, .unset] [(.int (1 : Int32))]))
    refine own_retN Y1405 hx hlk (t := .boolean) hret (by simp) (hb hby at_528) (by decide) (by decide) ?_
    exact rfl
   ·
    refine own_st (fun t_ => XS.icmpYes (own_here Y1165) hx rfl (pc0 := 502) (pc' := 529) rfl (hb hby at_502) rfl (XT.ii_ne_t c502_1396) (by decide) (by decide)) ?_
    show own_Ends _ _ _ _ (T1164.setTop (mkF m 529 #[.val (.int x0), .val (.int x1), .val (.int x2), .val (.ref b593), .val (.ref b646), .val (.ref b685), .val (.ref b725), .val (.ref b771), .val (.ref b823), .val (.ref b881), .val (.ref b949), .val (.ref b1036), .val (.int (3 : Int32)), .val (.int (2 : Int32)), .val (.int (6 : Int32)), .val (.int o3), .unset, .unset] []))
    have hz2 : z3 = 2 := hz312.resolve_left c502_1396
    have ho3 : o3 = 0 ∨ o3 = 1 ∨ o3 = 2 := by
      have : o3.toInt = 0 ∨ o3.toInt = 1 ∨ o3.toInt = 2 := by omega
      simp only [own_eq]; exact this
    rcases ho3 with q | q | q
    ·
     rw [q] at hg ⊢
     show own_Ends _ _ _ _ (T1164.setTop (mkF m 529 #[.val (.int x0), .val (.int x1), .val (.int x2), .val (.ref b593), .val (.ref b646), .val (.ref b685), .val (.ref b725), .val (.ref b771), .val (.ref b823), .val (.ref b881), .val (.ref b949), .val (.ref b1036), .val (.int (3 : Int32)), .val (.int (2 : Int32)), .val (.int (6 : Int32)), .val (.int (0 : Int32)), .unset, .unset] []))
     refine own_st (fun t_ => XS.iconst (own_here Y1165) hx rfl (hb hby at_529) ) ?_
     show own_Ends _ _ _ _ (T1164.setTop (mkF m 530 #[.val (.int x0), .val (.int x1), .val (.int x2), .val (.ref b593), .val (.ref b646), .val (.ref b685), .val (.ref b725), .val (.ref b771), .val (.ref b823), .val (.ref b881), .val (.ref b949), .val (.ref b1036), .val (.int (3 : Int32)), .val (.int (2 : Int32)), .val (.int (6 : Int32)), .val (.int (0 : Int32)), .unset, .unset] [(.int (0 : Int32))]))
     refine own_st (fun t_ => XS.iload (own_here Y1165) hx rfl (hb hby at_530) rfl) ?_
     show own_Ends _ _ _ _ (T1164.setTop (mkF m 532 #[.val (.int x0), .val (.int x1), .val (.int x2), .val (.ref b593), .val (.ref b646), .val (.ref b685), .val (.ref b725), .val (.ref b771), .val (.ref b823), .val (.ref b881), .val (.ref b949), .val (.ref b1036), .val (.int (3 : Int32)), .val (.int (2 : Int32)), .val (.int (6 : Int32)), .val (.int (0 : Int32)), .unset, .unset] [(.int (0 : Int32)), (.int (0 : Int32))]))
     refine own_st (fun t_ => XS.icmpYes (own_here Y1165) hx rfl (pc0 := 532) (pc' := 539) rfl (hb hby at_532) rfl (XT.ii_ge_t (by decide)) (by decide) (by decide)) ?_
     show own_Ends _ _ _ _ (T1164.setTop (mkF m 539 #[.val (.int x0), .val (.int x1), .val (.int x2), .val (.ref b593), .val (.ref b646), .val (.ref b685), .val (.ref b725), .val (.ref b771), .val (.ref b823), .val (.ref b881), .val (.ref b949), .val (.ref b1036), .val (.int (3 : Int32)), .val (.int (2 : Int32)), .val (.int (6 : Int32)), .val (.int (0 : Int32)), .unset, .unset] []))
     refine own_st (fun t_ => XS.iconst (own_here Y1165) hx rfl (hb hby at_539) ) ?_
     show own_Ends _ _ _ _ (T1164.setTop (mkF m 540 #[.val (.int x0), .val (.int x1), .val (.int x2), .val (.ref b593), .val (.ref b646), .val (.ref b685), .val (.ref b725), .val (.ref b771), .val (.ref b823), .val (.ref b881), .val (.ref b949), .val (.ref b1036), .val (.int (3 : Int32)), .val (.int (2 : Int32)), .val (.int (6 : Int32)), .val (.int (0 : Int32)), .unset, .unset] [(.int (1 : Int32))]))
     refine own_st (fun t_ => XS.istore (own_here Y1165) hx rfl (hb hby at_540) rfl (l' := #[.val (.int x0), .val (.int x1), .val (.int x2), .val (.ref b593), .val (.ref b646), .val (.ref b685), .val (.ref b725), .val (.ref b771), .val (.ref b823), .val (.ref b881), .val (.ref b949), .val (.ref b1036), .val (.int (3 : Int32)), .val (.int (2 : Int32)), .val (.int (6 : Int32)), .val (.int (0 : Int32)), .val (.int (1 : Int32)), .unset]) rfl) ?_
     show own_Ends _ _ _ _ (T1164.setTop (mkF m 542 #[.val (.int x0), .val (.int x1), .val (.int x2), .val (.ref b593), .val (.ref b646), .val (.ref b685), .val (.ref b725), .val (.ref b771), .val (.ref b823), .val (.ref b881), .val (.ref b949), .val (.ref b1036), .val (.int (3 : Int32)), .val (.int (2 : Int32)), .val (.int (6 : Int32)), .val (.int (0 : Int32)), .val (.int (1 : Int32)), .unset] []))
     refine own_st (fun t_ => XS.iconst (own_here Y1165) hx rfl (hb hby at_542) ) ?_
     show own_Ends _ _ _ _ (T1164.setTop (mkF m 543 #[.val (.int x0), .val (.int x1), .val (.int x2), .val (.ref b593), .val (.ref b646), .val (.ref b685), .val (.ref b725), .val (.ref b771), .val (.ref b823), .val (.ref b881), .val (.ref b949), .val (.ref b1036), .val (.int (3 : Int32)), .val (.int (2 : Int32)), .val (.int (6 : Int32)), .val (.int (0 : Int32)), .val (.int (1 : Int32)), .unset] [(.int (1 : Int32))]))
     refine own_st (fun t_ => XS.iload (own_here Y1165) hx rfl (hb hby at_543) rfl) ?_
     show own_Ends _ _ _ _ (T1164.setTop (mkF m 545 #[.val (.int x0), .val (.int x1), .val (.int x2), .val (.ref b593), .val (.ref b646), .val (.ref b685), .val (.ref b725), .val (.ref b771), .val (.ref b823), .val (.ref b881), .val (.ref b949), .val (.ref b1036), .val (.int (3 : Int32)), .val (.int (2 : Int32)), .val (.int (6 : Int32)), .val (.int (0 : Int32)), .val (.int (1 : Int32)), .unset] [(.int (0 : Int32)), (.int (1 : Int32))]))
     refine own_st (fun t_ => XS.icmpYes (own_here Y1165) hx rfl (pc0 := 545) (pc' := 552) rfl (hb hby at_545) rfl (XT.ii_ge_t (by decide)) (by decide) (by decide)) ?_
     show own_Ends _ _ _ _ (T1164.setTop (mkF m 552 #[.val (.int x0), .val (.int x1), .val (.int x2), .val (.ref b593), .val (.ref b646), .val (.ref b685), .val (.ref b725), .val (.ref b771), .val (.ref b823), .val (.ref b881), .val (.ref b949), .val (.ref b1036), .val (.int (3 : Int32)), .val (.int (2 : Int32)), .val (.int (6 : Int32)), .val (.int (0 : Int32)), .val (.int (1 : Int32)), .unset] []))
     refine own_st (fun t_ => XS.iconst (own_here Y1165) hx rfl (hb hby at_552) ) ?_
     show own_Ends _ _ _ _ (T1164.setTop (mkF m 553 #[.val (.int x0), .val (.int x1), .val (.int x2), .val (.ref b593), .val (.ref b646), .val (.ref b685), .val (.ref b725), .val (.ref b771), .val (.ref b823), .val (.ref b881), .val (.ref b949), .val (.ref b1036), .val (.int (3 : Int32)), .val (.int (2 : Int32)), .val (.int (6 : Int32)), .val (.int (0 : Int32)), .val (.int (1 : Int32)), .unset] [(.int (2 : Int32))]))
     refine own_st (fun t_ => XS.istore (own_here Y1165) hx rfl (hb hby at_553) rfl (l' := #[.val (.int x0), .val (.int x1), .val (.int x2), .val (.ref b593), .val (.ref b646), .val (.ref b685), .val (.ref b725), .val (.ref b771), .val (.ref b823), .val (.ref b881), .val (.ref b949), .val (.ref b1036), .val (.int (3 : Int32)), .val (.int (2 : Int32)), .val (.int (6 : Int32)), .val (.int (0 : Int32)), .val (.int (1 : Int32)), .val (.int (2 : Int32))]) rfl) ?_
     show own_Ends _ _ _ _ (T1164.setTop (mkF m 555 #[.val (.int x0), .val (.int x1), .val (.int x2), .val (.ref b593), .val (.ref b646), .val (.ref b685), .val (.ref b725), .val (.ref b771), .val (.ref b823), .val (.ref b881), .val (.ref b949), .val (.ref b1036), .val (.int (3 : Int32)), .val (.int (2 : Int32)), .val (.int (6 : Int32)), .val (.int (0 : Int32)), .val (.int (1 : Int32)), .val (.int (2 : Int32))] []))
     refine own_st (fun t_ => XS.aload (own_here Y1165) hx rfl (hb hby at_555) rfl rfl) ?_
     show own_Ends _ _ _ _ (T1164.setTop (mkF m 557 #[.val (.int x0), .val (.int x1), .val (.int x2), .val (.ref b593), .val (.ref b646), .val (.ref b685), .val (.ref b725), .val (.ref b771), .val (.ref b823), .val (.ref b881), .val (.ref b949), .val (.ref b1036), .val (.int (3 : Int32)), .val (.int (2 : Int32)), .val (.int (6 : Int32)), .val (.int (0 : Int32)), .val (.int (1 : Int32)), .val (.int (2 : Int32))] [(.ref b1036)]))
     refine own_st (fun t_ => XS.iload (own_here Y1165) hx rfl (hb hby at_557) rfl) ?_
     show own_Ends _ _ _ _ (T1164.setTop (mkF m 559 #[.val (.int x0), .val (.int x1), .val (.int x2), .val (.ref b593), .val (.ref b646), .val (.ref b685), .val (.ref b725), .val (.ref b771), .val (.ref b823), .val (.ref b881), .val (.ref b949), .val (.ref b1036), .val (.int (3 : Int32)), .val (.int (2 : Int32)), .val (.int (6 : Int32)), .val (.int (0 : Int32)), .val (.int (1 : Int32)), .val (.int (2 : Int32))] [(.int (3 : Int32)), (.ref b1036)]))
     refine own_st (fun t_ => XS.iconst (own_here Y1165) hx rfl (hb hby at_559) ) ?_
     show own_Ends _ _ _ _ (T1164.setTop (mkF m 560 #[.val (.int x0), .val (.int x1), .val (.int x2), .val (.ref b593), .val (.ref b646), .val (.ref b685), .val (.ref b725), .val (.ref b771), .val (.ref b823), .val (.ref b881), .val (.ref b949), .val (.ref b1036), .val (.int (3 : Int32)), .val (.int (2 : Int32)), .val (.int (6 : Int32)), .val (.int (0 : Int32)), .val (.int (1 : Int32)), .val (.int (2 : Int32))] [(.int (0 : Int32)), (.int (3 : Int32)), (.ref b1036)]))
     have f1410 : own_A Z h1166 b593 .int [(.int y0), (.int y1), (.int y2), (.int y3), (.int y4), (.int y5), (.int y6), (.int y7), (.int y8)] := f1160.keep K1169 (ninS ne1043 nin0)
     have f1411 : own_A Z h1113 b646 .int [(.int (0 : Int32)), (.int (3 : Int32)), (.int (6 : Int32)), (.int (9 : Int32))] := f1120.ext E1114
     have f1412 : own_A Z h1166 b646 .int [(.int (0 : Int32)), (.int (3 : Int32)), (.int (6 : Int32)), (.int (9 : Int32))] := f1411.keep K1169 (ninS ne1049 nin0)
     have f1413 : own_A Z h1113 b949 .int (w4.map Value.int) := f1132.ext E1114
     have f1414 : own_A Z h1166 b949 .int (w4.map Value.int) := f1413.keep K1169 (ninS ne1068 nin0)
     have f1415 : own_A Z h1113 b881 .int [(.int (0 : Int32)), (.int z0), (.int m2), (.int m3), (.int m4)] := f1130.ext E1114
     have f1416 : own_A Z h1166 b881 .int [(.int (0 : Int32)), (.int z0), (.int m2), (.int m3), (.int m4)] := f1415.keep K1169 (ninS ne1067 nin0)
     have f1422 : Exa Z h1166 b1036 "com/example/tierpath/tierpath/Bounds" := f1139.keep K1169
     refine own_callV Y1165 hx hZ (y := (⟨"com/example/tierpath/tierpath/Bounds", "member", "(II)I"⟩ : MethodName)) (z := (⟨"com/example/tierpath/tierpath/Bounds", "member", "(II)I"⟩ : MethodName)) hown (hw _ (List.mem_of_getElem? (i := 42) rfl)) (hw _ (List.mem_of_getElem? (i := 43) rfl)) (notFace_of_selects (args := #[]) (mvT hZ (hw _ (List.mem_of_getElem? (i := 45) rfl)))) (hw _ (List.mem_of_getElem? (i := 45) rfl)) (hw _ (List.mem_of_getElem? (i := 44) rfl)) (hw _ (List.mem_of_getElem? (i := 7) rfl)) (hw _ (List.mem_of_getElem? (i := 46) rfl)) (by decide) (a := b1036) f1422 (argsL := [(.int (3 : Int32)), (.int (0 : Int32))]) (rest := []) (own_rm6_3 l Z a0 hw [] b1036 (0 : Int32) b593 b646 sl b949 b881 [y0, y1, y2, y3, y4, y5, y6, y7, y8] w4 (0 : Int32) z0 m2 m3 m4 ((k0 + k1 + k2) + 0) 1 h1166 n0  F1171 F1170 F1174 F1173 F1172 f1410 f1412 F1175 f1414 f1416 (own_add hm3k own_l0 (by omega)) (by rw [hwl4]; omega) ((congrArg Int32.toInt (hg.2 hz2).1).trans rfl) (by omega) rfl) (W := 0) (by decide) (by decide) (by decide) (by decide) rfl (by rw [hml]; rfl) (lenOf own_pd3 rfl) rfl (by show 2 * 0 + _ ≤ _; exact Nat.le_of_eq rfl) (hb hby at_560) (fun T1417 h1419 v1420 Y1418 q1421 => ?_)
     obtain ⟨rfl, rfl⟩ := q1421
     show own_Ends _ _ _ _ (T1417.setTop (mkF m 563 #[.val (.int x0), .val (.int x1), .val (.int x2), .val (.ref b593), .val (.ref b646), .val (.ref b685), .val (.ref b725), .val (.ref b771), .val (.ref b823), .val (.ref b881), .val (.ref b949), .val (.ref b1036), .val (.int (3 : Int32)), .val (.int (2 : Int32)), .val (.int (6 : Int32)), .val (.int (0 : Int32)), .val (.int (1 : Int32)), .val (.int (2 : Int32))] [(.int (own_g [y0, y1, y2, y3, y4, y5, y6, y7, y8] (6 + 1)))]))
     refine own_st (fun t_ => XS.aloadN (own_here Y1418) hx rfl (hb hby at_563) rfl rfl) ?_
     show own_Ends _ _ _ _ (T1417.setTop (mkF m 564 #[.val (.int x0), .val (.int x1), .val (.int x2), .val (.ref b593), .val (.ref b646), .val (.ref b685), .val (.ref b725), .val (.ref b771), .val (.ref b823), .val (.ref b881), .val (.ref b949), .val (.ref b1036), .val (.int (3 : Int32)), .val (.int (2 : Int32)), .val (.int (6 : Int32)), .val (.int (0 : Int32)), .val (.int (1 : Int32)), .val (.int (2 : Int32))] [(.ref b593), (.int (own_g [y0, y1, y2, y3, y4, y5, y6, y7, y8] (6 + 1)))]))
     refine own_st (fun t_ => XS.iload (own_here Y1418) hx rfl (hb hby at_564) rfl) ?_
     show own_Ends _ _ _ _ (T1417.setTop (mkF m 566 #[.val (.int x0), .val (.int x1), .val (.int x2), .val (.ref b593), .val (.ref b646), .val (.ref b685), .val (.ref b725), .val (.ref b771), .val (.ref b823), .val (.ref b881), .val (.ref b949), .val (.ref b1036), .val (.int (3 : Int32)), .val (.int (2 : Int32)), .val (.int (6 : Int32)), .val (.int (0 : Int32)), .val (.int (1 : Int32)), .val (.int (2 : Int32))] [(.int (6 : Int32)), (.ref b593), (.int (own_g [y0, y1, y2, y3, y4, y5, y6, y7, y8] (6 + 1)))]))
     refine own_st (fun t_ => XS.iload (own_here Y1418) hx rfl (hb hby at_566) rfl) ?_
     show own_Ends _ _ _ _ (T1417.setTop (mkF m 568 #[.val (.int x0), .val (.int x1), .val (.int x2), .val (.ref b593), .val (.ref b646), .val (.ref b685), .val (.ref b725), .val (.ref b771), .val (.ref b823), .val (.ref b881), .val (.ref b949), .val (.ref b1036), .val (.int (3 : Int32)), .val (.int (2 : Int32)), .val (.int (6 : Int32)), .val (.int (0 : Int32)), .val (.int (1 : Int32)), .val (.int (2 : Int32))] [(.int (1 : Int32)), (.int (6 : Int32)), (.ref b593), (.int (own_g [y0, y1, y2, y3, y4, y5, y6, y7, y8] (6 + 1)))]))
     refine own_st (fun t_ => XS.iadd (own_here Y1418) hx rfl (hb hby at_568) rfl) ?_
     show own_Ends _ _ _ _ (T1417.setTop (mkF m 569 #[.val (.int x0), .val (.int x1), .val (.int x2), .val (.ref b593), .val (.ref b646), .val (.ref b685), .val (.ref b725), .val (.ref b771), .val (.ref b823), .val (.ref b881), .val (.ref b949), .val (.ref b1036), .val (.int (3 : Int32)), .val (.int (2 : Int32)), .val (.int (6 : Int32)), .val (.int (0 : Int32)), .val (.int (1 : Int32)), .val (.int (2 : Int32))] [(.int (7 : Int32)), (.ref b593), (.int (own_g [y0, y1, y2, y3, y4, y5, y6, y7, y8] (6 + 1)))]))
     refine own_ldI Y1418 hx hZ f1410 (i := 7) (by decide) (by decide) (Nat.le_of_ble_eq_true rfl) (v := (.int y7)) rfl rfl rfl (hb hby at_569) ?_
     show own_Ends _ _ _ _ (T1417.setTop (mkF m 570 #[.val (.int x0), .val (.int x1), .val (.int x2), .val (.ref b593), .val (.ref b646), .val (.ref b685), .val (.ref b725), .val (.ref b771), .val (.ref b823), .val (.ref b881), .val (.ref b949), .val (.ref b1036), .val (.int (3 : Int32)), .val (.int (2 : Int32)), .val (.int (6 : Int32)), .val (.int (0 : Int32)), .val (.int (1 : Int32)), .val (.int (2 : Int32))] [(.int y7), (.int (own_g [y0, y1, y2, y3, y4, y5, y6, y7, y8] (6 + 1)))]))
     refine own_st (fun t_ => XS.icmpNo (own_here Y1418) hx rfl (hb hby at_570) rfl (XT.ii_ne_f rfl)) ?_
     show own_Ends _ _ _ _ (T1417.setTop (mkF m 573 #[.val (.int x0), .val (.int x1), .val (.int x2), .val (.ref b593), .val (.ref b646), .val (.ref b685), .val (.ref b725), .val (.ref b771), .val (.ref b823), .val (.ref b881), .val (.ref b949), .val (.ref b1036), .val (.int (3 : Int32)), .val (.int (2 : Int32)), .val (.int (6 : Int32)), .val (.int (0 : Int32)), .val (.int (1 : Int32)), .val (.int (2 : Int32))] []))
     refine own_st (fun t_ => XS.aload (own_here Y1418) hx rfl (hb hby at_573) rfl rfl) ?_
     show own_Ends _ _ _ _ (T1417.setTop (mkF m 575 #[.val (.int x0), .val (.int x1), .val (.int x2), .val (.ref b593), .val (.ref b646), .val (.ref b685), .val (.ref b725), .val (.ref b771), .val (.ref b823), .val (.ref b881), .val (.ref b949), .val (.ref b1036), .val (.int (3 : Int32)), .val (.int (2 : Int32)), .val (.int (6 : Int32)), .val (.int (0 : Int32)), .val (.int (1 : Int32)), .val (.int (2 : Int32))] [(.ref b1036)]))
     refine own_st (fun t_ => XS.iload (own_here Y1418) hx rfl (hb hby at_575) rfl) ?_
     show own_Ends _ _ _ _ (T1417.setTop (mkF m 577 #[.val (.int x0), .val (.int x1), .val (.int x2), .val (.ref b593), .val (.ref b646), .val (.ref b685), .val (.ref b725), .val (.ref b771), .val (.ref b823), .val (.ref b881), .val (.ref b949), .val (.ref b1036), .val (.int (3 : Int32)), .val (.int (2 : Int32)), .val (.int (6 : Int32)), .val (.int (0 : Int32)), .val (.int (1 : Int32)), .val (.int (2 : Int32))] [(.int (3 : Int32)), (.ref b1036)]))
     refine own_st (fun t_ => XS.iconst (own_here Y1418) hx rfl (hb hby at_577) ) ?_
     show own_Ends _ _ _ _ (T1417.setTop (mkF m 578 #[.val (.int x0), .val (.int x1), .val (.int x2), .val (.ref b593), .val (.ref b646), .val (.ref b685), .val (.ref b725), .val (.ref b771), .val (.ref b823), .val (.ref b881), .val (.ref b949), .val (.ref b1036), .val (.int (3 : Int32)), .val (.int (2 : Int32)), .val (.int (6 : Int32)), .val (.int (0 : Int32)), .val (.int (1 : Int32)), .val (.int (2 : Int32))] [(.int (1 : Int32)), (.int (3 : Int32)), (.ref b1036)]))
     refine own_callV Y1418 hx hZ (y := (⟨"com/example/tierpath/tierpath/Bounds", "member", "(II)I"⟩ : MethodName)) (z := (⟨"com/example/tierpath/tierpath/Bounds", "member", "(II)I"⟩ : MethodName)) hown (hw _ (List.mem_of_getElem? (i := 42) rfl)) (hw _ (List.mem_of_getElem? (i := 43) rfl)) (notFace_of_selects (args := #[]) (mvT hZ (hw _ (List.mem_of_getElem? (i := 45) rfl)))) (hw _ (List.mem_of_getElem? (i := 45) rfl)) (hw _ (List.mem_of_getElem? (i := 44) rfl)) (hw _ (List.mem_of_getElem? (i := 7) rfl)) (hw _ (List.mem_of_getElem? (i := 46) rfl)) (by decide) (a := b1036) f1422 (argsL := [(.int (3 : Int32)), (.int (1 : Int32))]) (rest := []) (own_rm6_3 l Z a0 hw [] b1036 (1 : Int32) b593 b646 sl b949 b881 [y0, y1, y2, y3, y4, y5, y6, y7, y8] w4 (0 : Int32) z0 m2 m3 m4 ((k0 + k1 + k2) + 1) 2 h1166 n0  F1171 F1170 F1174 F1173 F1172 f1410 f1412 F1175 f1414 f1416 (own_add hm3k own_l1 (by omega)) (by rw [hwl4]; omega) ((congrArg Int32.toInt (hg.2 hz2).2).trans rfl) (by omega) rfl) (W := 0) (by decide) (by decide) (by decide) (by decide) rfl (by rw [hml]; rfl) (lenOf own_pd3 rfl) rfl (by show 2 * 0 + _ ≤ _; exact Nat.le_of_eq rfl) (hb hby at_578) (fun T1423 h1425 v1426 Y1424 q1427 => ?_)
     obtain ⟨rfl, rfl⟩ := q1427
     show own_Ends _ _ _ _ (T1423.setTop (mkF m 581 #[.val (.int x0), .val (.int x1), .val (.int x2), .val (.ref b593), .val (.ref b646), .val (.ref b685), .val (.ref b725), .val (.ref b771), .val (.ref b823), .val (.ref b881), .val (.ref b949), .val (.ref b1036), .val (.int (3 : Int32)), .val (.int (2 : Int32)), .val (.int (6 : Int32)), .val (.int (0 : Int32)), .val (.int (1 : Int32)), .val (.int (2 : Int32))] [(.int (own_g [y0, y1, y2, y3, y4, y5, y6, y7, y8] (6 + 2)))]))
     refine own_st (fun t_ => XS.aloadN (own_here Y1424) hx rfl (hb hby at_581) rfl rfl) ?_
     show own_Ends _ _ _ _ (T1423.setTop (mkF m 582 #[.val (.int x0), .val (.int x1), .val (.int x2), .val (.ref b593), .val (.ref b646), .val (.ref b685), .val (.ref b725), .val (.ref b771), .val (.ref b823), .val (.ref b881), .val (.ref b949), .val (.ref b1036), .val (.int (3 : Int32)), .val (.int (2 : Int32)), .val (.int (6 : Int32)), .val (.int (0 : Int32)), .val (.int (1 : Int32)), .val (.int (2 : Int32))] [(.ref b593), (.int (own_g [y0, y1, y2, y3, y4, y5, y6, y7, y8] (6 + 2)))]))
     refine own_st (fun t_ => XS.iload (own_here Y1424) hx rfl (hb hby at_582) rfl) ?_
     show own_Ends _ _ _ _ (T1423.setTop (mkF m 584 #[.val (.int x0), .val (.int x1), .val (.int x2), .val (.ref b593), .val (.ref b646), .val (.ref b685), .val (.ref b725), .val (.ref b771), .val (.ref b823), .val (.ref b881), .val (.ref b949), .val (.ref b1036), .val (.int (3 : Int32)), .val (.int (2 : Int32)), .val (.int (6 : Int32)), .val (.int (0 : Int32)), .val (.int (1 : Int32)), .val (.int (2 : Int32))] [(.int (6 : Int32)), (.ref b593), (.int (own_g [y0, y1, y2, y3, y4, y5, y6, y7, y8] (6 + 2)))]))
     refine own_st (fun t_ => XS.iload (own_here Y1424) hx rfl (hb hby at_584) rfl) ?_
     show own_Ends _ _ _ _ (T1423.setTop (mkF m 586 #[.val (.int x0), .val (.int x1), .val (.int x2), .val (.ref b593), .val (.ref b646), .val (.ref b685), .val (.ref b725), .val (.ref b771), .val (.ref b823), .val (.ref b881), .val (.ref b949), .val (.ref b1036), .val (.int (3 : Int32)), .val (.int (2 : Int32)), .val (.int (6 : Int32)), .val (.int (0 : Int32)), .val (.int (1 : Int32)), .val (.int (2 : Int32))] [(.int (2 : Int32)), (.int (6 : Int32)), (.ref b593), (.int (own_g [y0, y1, y2, y3, y4, y5, y6, y7, y8] (6 + 2)))]))
     refine own_st (fun t_ => XS.iadd (own_here Y1424) hx rfl (hb hby at_586) rfl) ?_
     show own_Ends _ _ _ _ (T1423.setTop (mkF m 587 #[.val (.int x0), .val (.int x1), .val (.int x2), .val (.ref b593), .val (.ref b646), .val (.ref b685), .val (.ref b725), .val (.ref b771), .val (.ref b823), .val (.ref b881), .val (.ref b949), .val (.ref b1036), .val (.int (3 : Int32)), .val (.int (2 : Int32)), .val (.int (6 : Int32)), .val (.int (0 : Int32)), .val (.int (1 : Int32)), .val (.int (2 : Int32))] [(.int (8 : Int32)), (.ref b593), (.int (own_g [y0, y1, y2, y3, y4, y5, y6, y7, y8] (6 + 2)))]))
     refine own_ldI Y1424 hx hZ f1410 (i := 8) (by decide) (by decide) (Nat.le_of_ble_eq_true rfl) (v := (.int y8)) rfl rfl rfl (hb hby at_587) ?_
     show own_Ends _ _ _ _ (T1423.setTop (mkF m 588 #[.val (.int x0), .val (.int x1), .val (.int x2), .val (.ref b593), .val (.ref b646), .val (.ref b685), .val (.ref b725), .val (.ref b771), .val (.ref b823), .val (.ref b881), .val (.ref b949), .val (.ref b1036), .val (.int (3 : Int32)), .val (.int (2 : Int32)), .val (.int (6 : Int32)), .val (.int (0 : Int32)), .val (.int (1 : Int32)), .val (.int (2 : Int32))] [(.int y8), (.int (own_g [y0, y1, y2, y3, y4, y5, y6, y7, y8] (6 + 2)))]))
     refine own_st (fun t_ => XS.icmpNo (own_here Y1424) hx rfl (hb hby at_588) rfl (XT.ii_ne_f rfl)) ?_
     show own_Ends _ _ _ _ (T1423.setTop (mkF m 591 #[.val (.int x0), .val (.int x1), .val (.int x2), .val (.ref b593), .val (.ref b646), .val (.ref b685), .val (.ref b725), .val (.ref b771), .val (.ref b823), .val (.ref b881), .val (.ref b949), .val (.ref b1036), .val (.int (3 : Int32)), .val (.int (2 : Int32)), .val (.int (6 : Int32)), .val (.int (0 : Int32)), .val (.int (1 : Int32)), .val (.int (2 : Int32))] []))
     refine own_st (fun t_ => XS.iconst (own_here Y1424) hx rfl (hb hby at_591) ) ?_
     show own_Ends _ _ _ _ (T1423.setTop (mkF m 592 #[.val (.int x0), .val (.int x1), .val (.int x2), .val (.ref b593), .val (.ref b646), .val (.ref b685), .val (.ref b725), .val (.ref b771), .val (.ref b823), .val (.ref b881), .val (.ref b949), .val (.ref b1036), .val (.int (3 : Int32)), .val (.int (2 : Int32)), .val (.int (6 : Int32)), .val (.int (0 : Int32)), .val (.int (1 : Int32)), .val (.int (2 : Int32))] [(.int (1 : Int32))]))
     refine own_st (fun t_ => XS.goto (own_here Y1424) hx rfl (pc0 := 592) (pc' := 596) rfl (hb hby at_592) (by decide) (by decide)) ?_
     show own_Ends _ _ _ _ (T1423.setTop (mkF m 596 #[.val (.int x0), .val (.int x1), .val (.int x2), .val (.ref b593), .val (.ref b646), .val (.ref b685), .val (.ref b725), .val (.ref b771), .val (.ref b823), .val (.ref b881), .val (.ref b949), .val (.ref b1036), .val (.int (3 : Int32)), .val (.int (2 : Int32)), .val (.int (6 : Int32)), .val (.int (0 : Int32)), .val (.int (1 : Int32)), .val (.int (2 : Int32))] [(.int (1 : Int32))]))
     refine own_retN Y1424 hx hlk (t := .boolean) hret (by simp) (hb hby at_596) (by decide) (by decide) ?_
     exact rfl
    ·
     rw [q] at hg ⊢
     show own_Ends _ _ _ _ (T1164.setTop (mkF m 529 #[.val (.int x0), .val (.int x1), .val (.int x2), .val (.ref b593), .val (.ref b646), .val (.ref b685), .val (.ref b725), .val (.ref b771), .val (.ref b823), .val (.ref b881), .val (.ref b949), .val (.ref b1036), .val (.int (3 : Int32)), .val (.int (2 : Int32)), .val (.int (6 : Int32)), .val (.int (1 : Int32)), .unset, .unset] []))
     refine own_st (fun t_ => XS.iconst (own_here Y1165) hx rfl (hb hby at_529) ) ?_
     show own_Ends _ _ _ _ (T1164.setTop (mkF m 530 #[.val (.int x0), .val (.int x1), .val (.int x2), .val (.ref b593), .val (.ref b646), .val (.ref b685), .val (.ref b725), .val (.ref b771), .val (.ref b823), .val (.ref b881), .val (.ref b949), .val (.ref b1036), .val (.int (3 : Int32)), .val (.int (2 : Int32)), .val (.int (6 : Int32)), .val (.int (1 : Int32)), .unset, .unset] [(.int (0 : Int32))]))
     refine own_st (fun t_ => XS.iload (own_here Y1165) hx rfl (hb hby at_530) rfl) ?_
     show own_Ends _ _ _ _ (T1164.setTop (mkF m 532 #[.val (.int x0), .val (.int x1), .val (.int x2), .val (.ref b593), .val (.ref b646), .val (.ref b685), .val (.ref b725), .val (.ref b771), .val (.ref b823), .val (.ref b881), .val (.ref b949), .val (.ref b1036), .val (.int (3 : Int32)), .val (.int (2 : Int32)), .val (.int (6 : Int32)), .val (.int (1 : Int32)), .unset, .unset] [(.int (1 : Int32)), (.int (0 : Int32))]))
     refine own_st (fun t_ => XS.icmpNo (own_here Y1165) hx rfl (hb hby at_532) rfl (XT.ii_ge_f (by decide))) ?_
     show own_Ends _ _ _ _ (T1164.setTop (mkF m 535 #[.val (.int x0), .val (.int x1), .val (.int x2), .val (.ref b593), .val (.ref b646), .val (.ref b685), .val (.ref b725), .val (.ref b771), .val (.ref b823), .val (.ref b881), .val (.ref b949), .val (.ref b1036), .val (.int (3 : Int32)), .val (.int (2 : Int32)), .val (.int (6 : Int32)), .val (.int (1 : Int32)), .unset, .unset] []))
     refine own_st (fun t_ => XS.iconst (own_here Y1165) hx rfl (hb hby at_535) ) ?_
     show own_Ends _ _ _ _ (T1164.setTop (mkF m 536 #[.val (.int x0), .val (.int x1), .val (.int x2), .val (.ref b593), .val (.ref b646), .val (.ref b685), .val (.ref b725), .val (.ref b771), .val (.ref b823), .val (.ref b881), .val (.ref b949), .val (.ref b1036), .val (.int (3 : Int32)), .val (.int (2 : Int32)), .val (.int (6 : Int32)), .val (.int (1 : Int32)), .unset, .unset] [(.int (0 : Int32))]))
     refine own_st (fun t_ => XS.goto (own_here Y1165) hx rfl (pc0 := 536) (pc' := 540) rfl (hb hby at_536) (by decide) (by decide)) ?_
     show own_Ends _ _ _ _ (T1164.setTop (mkF m 540 #[.val (.int x0), .val (.int x1), .val (.int x2), .val (.ref b593), .val (.ref b646), .val (.ref b685), .val (.ref b725), .val (.ref b771), .val (.ref b823), .val (.ref b881), .val (.ref b949), .val (.ref b1036), .val (.int (3 : Int32)), .val (.int (2 : Int32)), .val (.int (6 : Int32)), .val (.int (1 : Int32)), .unset, .unset] [(.int (0 : Int32))]))
     refine own_st (fun t_ => XS.istore (own_here Y1165) hx rfl (hb hby at_540) rfl (l' := #[.val (.int x0), .val (.int x1), .val (.int x2), .val (.ref b593), .val (.ref b646), .val (.ref b685), .val (.ref b725), .val (.ref b771), .val (.ref b823), .val (.ref b881), .val (.ref b949), .val (.ref b1036), .val (.int (3 : Int32)), .val (.int (2 : Int32)), .val (.int (6 : Int32)), .val (.int (1 : Int32)), .val (.int (0 : Int32)), .unset]) rfl) ?_
     show own_Ends _ _ _ _ (T1164.setTop (mkF m 542 #[.val (.int x0), .val (.int x1), .val (.int x2), .val (.ref b593), .val (.ref b646), .val (.ref b685), .val (.ref b725), .val (.ref b771), .val (.ref b823), .val (.ref b881), .val (.ref b949), .val (.ref b1036), .val (.int (3 : Int32)), .val (.int (2 : Int32)), .val (.int (6 : Int32)), .val (.int (1 : Int32)), .val (.int (0 : Int32)), .unset] []))
     refine own_st (fun t_ => XS.iconst (own_here Y1165) hx rfl (hb hby at_542) ) ?_
     show own_Ends _ _ _ _ (T1164.setTop (mkF m 543 #[.val (.int x0), .val (.int x1), .val (.int x2), .val (.ref b593), .val (.ref b646), .val (.ref b685), .val (.ref b725), .val (.ref b771), .val (.ref b823), .val (.ref b881), .val (.ref b949), .val (.ref b1036), .val (.int (3 : Int32)), .val (.int (2 : Int32)), .val (.int (6 : Int32)), .val (.int (1 : Int32)), .val (.int (0 : Int32)), .unset] [(.int (1 : Int32))]))
     refine own_st (fun t_ => XS.iload (own_here Y1165) hx rfl (hb hby at_543) rfl) ?_
     show own_Ends _ _ _ _ (T1164.setTop (mkF m 545 #[.val (.int x0), .val (.int x1), .val (.int x2), .val (.ref b593), .val (.ref b646), .val (.ref b685), .val (.ref b725), .val (.ref b771), .val (.ref b823), .val (.ref b881), .val (.ref b949), .val (.ref b1036), .val (.int (3 : Int32)), .val (.int (2 : Int32)), .val (.int (6 : Int32)), .val (.int (1 : Int32)), .val (.int (0 : Int32)), .unset] [(.int (1 : Int32)), (.int (1 : Int32))]))
     refine own_st (fun t_ => XS.icmpYes (own_here Y1165) hx rfl (pc0 := 545) (pc' := 552) rfl (hb hby at_545) rfl (XT.ii_ge_t (by decide)) (by decide) (by decide)) ?_
     show own_Ends _ _ _ _ (T1164.setTop (mkF m 552 #[.val (.int x0), .val (.int x1), .val (.int x2), .val (.ref b593), .val (.ref b646), .val (.ref b685), .val (.ref b725), .val (.ref b771), .val (.ref b823), .val (.ref b881), .val (.ref b949), .val (.ref b1036), .val (.int (3 : Int32)), .val (.int (2 : Int32)), .val (.int (6 : Int32)), .val (.int (1 : Int32)), .val (.int (0 : Int32)), .unset] []))
     refine own_st (fun t_ => XS.iconst (own_here Y1165) hx rfl (hb hby at_552) ) ?_
     show own_Ends _ _ _ _ (T1164.setTop (mkF m 553 #[.val (.int x0), .val (.int x1), .val (.int x2), .val (.ref b593), .val (.ref b646), .val (.ref b685), .val (.ref b725), .val (.ref b771), .val (.ref b823), .val (.ref b881), .val (.ref b949), .val (.ref b1036), .val (.int (3 : Int32)), .val (.int (2 : Int32)), .val (.int (6 : Int32)), .val (.int (1 : Int32)), .val (.int (0 : Int32)), .unset] [(.int (2 : Int32))]))
     refine own_st (fun t_ => XS.istore (own_here Y1165) hx rfl (hb hby at_553) rfl (l' := #[.val (.int x0), .val (.int x1), .val (.int x2), .val (.ref b593), .val (.ref b646), .val (.ref b685), .val (.ref b725), .val (.ref b771), .val (.ref b823), .val (.ref b881), .val (.ref b949), .val (.ref b1036), .val (.int (3 : Int32)), .val (.int (2 : Int32)), .val (.int (6 : Int32)), .val (.int (1 : Int32)), .val (.int (0 : Int32)), .val (.int (2 : Int32))]) rfl) ?_
     show own_Ends _ _ _ _ (T1164.setTop (mkF m 555 #[.val (.int x0), .val (.int x1), .val (.int x2), .val (.ref b593), .val (.ref b646), .val (.ref b685), .val (.ref b725), .val (.ref b771), .val (.ref b823), .val (.ref b881), .val (.ref b949), .val (.ref b1036), .val (.int (3 : Int32)), .val (.int (2 : Int32)), .val (.int (6 : Int32)), .val (.int (1 : Int32)), .val (.int (0 : Int32)), .val (.int (2 : Int32))] []))
     refine own_st (fun t_ => XS.aload (own_here Y1165) hx rfl (hb hby at_555) rfl rfl) ?_
     show own_Ends _ _ _ _ (T1164.setTop (mkF m 557 #[.val (.int x0), .val (.int x1), .val (.int x2), .val (.ref b593), .val (.ref b646), .val (.ref b685), .val (.ref b725), .val (.ref b771), .val (.ref b823), .val (.ref b881), .val (.ref b949), .val (.ref b1036), .val (.int (3 : Int32)), .val (.int (2 : Int32)), .val (.int (6 : Int32)), .val (.int (1 : Int32)), .val (.int (0 : Int32)), .val (.int (2 : Int32))] [(.ref b1036)]))
     refine own_st (fun t_ => XS.iload (own_here Y1165) hx rfl (hb hby at_557) rfl) ?_
     show own_Ends _ _ _ _ (T1164.setTop (mkF m 559 #[.val (.int x0), .val (.int x1), .val (.int x2), .val (.ref b593), .val (.ref b646), .val (.ref b685), .val (.ref b725), .val (.ref b771), .val (.ref b823), .val (.ref b881), .val (.ref b949), .val (.ref b1036), .val (.int (3 : Int32)), .val (.int (2 : Int32)), .val (.int (6 : Int32)), .val (.int (1 : Int32)), .val (.int (0 : Int32)), .val (.int (2 : Int32))] [(.int (3 : Int32)), (.ref b1036)]))
     refine own_st (fun t_ => XS.iconst (own_here Y1165) hx rfl (hb hby at_559) ) ?_
     show own_Ends _ _ _ _ (T1164.setTop (mkF m 560 #[.val (.int x0), .val (.int x1), .val (.int x2), .val (.ref b593), .val (.ref b646), .val (.ref b685), .val (.ref b725), .val (.ref b771), .val (.ref b823), .val (.ref b881), .val (.ref b949), .val (.ref b1036), .val (.int (3 : Int32)), .val (.int (2 : Int32)), .val (.int (6 : Int32)), .val (.int (1 : Int32)), .val (.int (0 : Int32)), .val (.int (2 : Int32))] [(.int (0 : Int32)), (.int (3 : Int32)), (.ref b1036)]))
     have f1428 : own_A Z h1166 b593 .int [(.int y0), (.int y1), (.int y2), (.int y3), (.int y4), (.int y5), (.int y6), (.int y7), (.int y8)] := f1160.keep K1169 (ninS ne1043 nin0)
     have f1429 : own_A Z h1113 b646 .int [(.int (0 : Int32)), (.int (3 : Int32)), (.int (6 : Int32)), (.int (9 : Int32))] := f1120.ext E1114
     have f1430 : own_A Z h1166 b646 .int [(.int (0 : Int32)), (.int (3 : Int32)), (.int (6 : Int32)), (.int (9 : Int32))] := f1429.keep K1169 (ninS ne1049 nin0)
     have f1431 : own_A Z h1113 b949 .int (w4.map Value.int) := f1132.ext E1114
     have f1432 : own_A Z h1166 b949 .int (w4.map Value.int) := f1431.keep K1169 (ninS ne1068 nin0)
     have f1433 : own_A Z h1113 b881 .int [(.int (0 : Int32)), (.int z0), (.int m2), (.int m3), (.int m4)] := f1130.ext E1114
     have f1434 : own_A Z h1166 b881 .int [(.int (0 : Int32)), (.int z0), (.int m2), (.int m3), (.int m4)] := f1433.keep K1169 (ninS ne1067 nin0)
     have f1440 : Exa Z h1166 b1036 "com/example/tierpath/tierpath/Bounds" := f1139.keep K1169
     refine own_callV Y1165 hx hZ (y := (⟨"com/example/tierpath/tierpath/Bounds", "member", "(II)I"⟩ : MethodName)) (z := (⟨"com/example/tierpath/tierpath/Bounds", "member", "(II)I"⟩ : MethodName)) hown (hw _ (List.mem_of_getElem? (i := 42) rfl)) (hw _ (List.mem_of_getElem? (i := 43) rfl)) (notFace_of_selects (args := #[]) (mvT hZ (hw _ (List.mem_of_getElem? (i := 45) rfl)))) (hw _ (List.mem_of_getElem? (i := 45) rfl)) (hw _ (List.mem_of_getElem? (i := 44) rfl)) (hw _ (List.mem_of_getElem? (i := 7) rfl)) (hw _ (List.mem_of_getElem? (i := 46) rfl)) (by decide) (a := b1036) f1440 (argsL := [(.int (3 : Int32)), (.int (0 : Int32))]) (rest := []) (own_rm6_3 l Z a0 hw [] b1036 (0 : Int32) b593 b646 sl b949 b881 [y0, y1, y2, y3, y4, y5, y6, y7, y8] w4 (0 : Int32) z0 m2 m3 m4 ((k0 + k1 + k2) + 0) 0 h1166 n0  F1171 F1170 F1174 F1173 F1172 f1428 f1430 F1175 f1432 f1434 (own_add hm3k own_l0 (by omega)) (by rw [hwl4]; omega) ((congrArg Int32.toInt (hg.2 hz2).1).trans rfl) (by omega) rfl) (W := 0) (by decide) (by decide) (by decide) (by decide) rfl (by rw [hml]; rfl) (lenOf own_pd3 rfl) rfl (by show 2 * 0 + _ ≤ _; exact Nat.le_of_eq rfl) (hb hby at_560) (fun T1435 h1437 v1438 Y1436 q1439 => ?_)
     obtain ⟨rfl, rfl⟩ := q1439
     show own_Ends _ _ _ _ (T1435.setTop (mkF m 563 #[.val (.int x0), .val (.int x1), .val (.int x2), .val (.ref b593), .val (.ref b646), .val (.ref b685), .val (.ref b725), .val (.ref b771), .val (.ref b823), .val (.ref b881), .val (.ref b949), .val (.ref b1036), .val (.int (3 : Int32)), .val (.int (2 : Int32)), .val (.int (6 : Int32)), .val (.int (1 : Int32)), .val (.int (0 : Int32)), .val (.int (2 : Int32))] [(.int (own_g [y0, y1, y2, y3, y4, y5, y6, y7, y8] (6 + 0)))]))
     refine own_st (fun t_ => XS.aloadN (own_here Y1436) hx rfl (hb hby at_563) rfl rfl) ?_
     show own_Ends _ _ _ _ (T1435.setTop (mkF m 564 #[.val (.int x0), .val (.int x1), .val (.int x2), .val (.ref b593), .val (.ref b646), .val (.ref b685), .val (.ref b725), .val (.ref b771), .val (.ref b823), .val (.ref b881), .val (.ref b949), .val (.ref b1036), .val (.int (3 : Int32)), .val (.int (2 : Int32)), .val (.int (6 : Int32)), .val (.int (1 : Int32)), .val (.int (0 : Int32)), .val (.int (2 : Int32))] [(.ref b593), (.int (own_g [y0, y1, y2, y3, y4, y5, y6, y7, y8] (6 + 0)))]))
     refine own_st (fun t_ => XS.iload (own_here Y1436) hx rfl (hb hby at_564) rfl) ?_
     show own_Ends _ _ _ _ (T1435.setTop (mkF m 566 #[.val (.int x0), .val (.int x1), .val (.int x2), .val (.ref b593), .val (.ref b646), .val (.ref b685), .val (.ref b725), .val (.ref b771), .val (.ref b823), .val (.ref b881), .val (.ref b949), .val (.ref b1036), .val (.int (3 : Int32)), .val (.int (2 : Int32)), .val (.int (6 : Int32)), .val (.int (1 : Int32)), .val (.int (0 : Int32)), .val (.int (2 : Int32))] [(.int (6 : Int32)), (.ref b593), (.int (own_g [y0, y1, y2, y3, y4, y5, y6, y7, y8] (6 + 0)))]))
     refine own_st (fun t_ => XS.iload (own_here Y1436) hx rfl (hb hby at_566) rfl) ?_
     show own_Ends _ _ _ _ (T1435.setTop (mkF m 568 #[.val (.int x0), .val (.int x1), .val (.int x2), .val (.ref b593), .val (.ref b646), .val (.ref b685), .val (.ref b725), .val (.ref b771), .val (.ref b823), .val (.ref b881), .val (.ref b949), .val (.ref b1036), .val (.int (3 : Int32)), .val (.int (2 : Int32)), .val (.int (6 : Int32)), .val (.int (1 : Int32)), .val (.int (0 : Int32)), .val (.int (2 : Int32))] [(.int (0 : Int32)), (.int (6 : Int32)), (.ref b593), (.int (own_g [y0, y1, y2, y3, y4, y5, y6, y7, y8] (6 + 0)))]))
     refine own_st (fun t_ => XS.iadd (own_here Y1436) hx rfl (hb hby at_568) rfl) ?_
     show own_Ends _ _ _ _ (T1435.setTop (mkF m 569 #[.val (.int x0), .val (.int x1), .val (.int x2), .val (.ref b593), .val (.ref b646), .val (.ref b685), .val (.ref b725), .val (.ref b771), .val (.ref b823), .val (.ref b881), .val (.ref b949), .val (.ref b1036), .val (.int (3 : Int32)), .val (.int (2 : Int32)), .val (.int (6 : Int32)), .val (.int (1 : Int32)), .val (.int (0 : Int32)), .val (.int (2 : Int32))] [(.int (6 : Int32)), (.ref b593), (.int (own_g [y0, y1, y2, y3, y4, y5, y6, y7, y8] (6 + 0)))]))
     refine own_ldI Y1436 hx hZ f1428 (i := 6) (by decide) (by decide) (Nat.le_of_ble_eq_true rfl) (v := (.int y6)) rfl rfl rfl (hb hby at_569) ?_
     show own_Ends _ _ _ _ (T1435.setTop (mkF m 570 #[.val (.int x0), .val (.int x1), .val (.int x2), .val (.ref b593), .val (.ref b646), .val (.ref b685), .val (.ref b725), .val (.ref b771), .val (.ref b823), .val (.ref b881), .val (.ref b949), .val (.ref b1036), .val (.int (3 : Int32)), .val (.int (2 : Int32)), .val (.int (6 : Int32)), .val (.int (1 : Int32)), .val (.int (0 : Int32)), .val (.int (2 : Int32))] [(.int y6), (.int (own_g [y0, y1, y2, y3, y4, y5, y6, y7, y8] (6 + 0)))]))
     refine own_st (fun t_ => XS.icmpNo (own_here Y1436) hx rfl (hb hby at_570) rfl (XT.ii_ne_f rfl)) ?_
     show own_Ends _ _ _ _ (T1435.setTop (mkF m 573 #[.val (.int x0), .val (.int x1), .val (.int x2), .val (.ref b593), .val (.ref b646), .val (.ref b685), .val (.ref b725), .val (.ref b771), .val (.ref b823), .val (.ref b881), .val (.ref b949), .val (.ref b1036), .val (.int (3 : Int32)), .val (.int (2 : Int32)), .val (.int (6 : Int32)), .val (.int (1 : Int32)), .val (.int (0 : Int32)), .val (.int (2 : Int32))] []))
     refine own_st (fun t_ => XS.aload (own_here Y1436) hx rfl (hb hby at_573) rfl rfl) ?_
     show own_Ends _ _ _ _ (T1435.setTop (mkF m 575 #[.val (.int x0), .val (.int x1), .val (.int x2), .val (.ref b593), .val (.ref b646), .val (.ref b685), .val (.ref b725), .val (.ref b771), .val (.ref b823), .val (.ref b881), .val (.ref b949), .val (.ref b1036), .val (.int (3 : Int32)), .val (.int (2 : Int32)), .val (.int (6 : Int32)), .val (.int (1 : Int32)), .val (.int (0 : Int32)), .val (.int (2 : Int32))] [(.ref b1036)]))
     refine own_st (fun t_ => XS.iload (own_here Y1436) hx rfl (hb hby at_575) rfl) ?_
     show own_Ends _ _ _ _ (T1435.setTop (mkF m 577 #[.val (.int x0), .val (.int x1), .val (.int x2), .val (.ref b593), .val (.ref b646), .val (.ref b685), .val (.ref b725), .val (.ref b771), .val (.ref b823), .val (.ref b881), .val (.ref b949), .val (.ref b1036), .val (.int (3 : Int32)), .val (.int (2 : Int32)), .val (.int (6 : Int32)), .val (.int (1 : Int32)), .val (.int (0 : Int32)), .val (.int (2 : Int32))] [(.int (3 : Int32)), (.ref b1036)]))
     refine own_st (fun t_ => XS.iconst (own_here Y1436) hx rfl (hb hby at_577) ) ?_
     show own_Ends _ _ _ _ (T1435.setTop (mkF m 578 #[.val (.int x0), .val (.int x1), .val (.int x2), .val (.ref b593), .val (.ref b646), .val (.ref b685), .val (.ref b725), .val (.ref b771), .val (.ref b823), .val (.ref b881), .val (.ref b949), .val (.ref b1036), .val (.int (3 : Int32)), .val (.int (2 : Int32)), .val (.int (6 : Int32)), .val (.int (1 : Int32)), .val (.int (0 : Int32)), .val (.int (2 : Int32))] [(.int (1 : Int32)), (.int (3 : Int32)), (.ref b1036)]))
     refine own_callV Y1436 hx hZ (y := (⟨"com/example/tierpath/tierpath/Bounds", "member", "(II)I"⟩ : MethodName)) (z := (⟨"com/example/tierpath/tierpath/Bounds", "member", "(II)I"⟩ : MethodName)) hown (hw _ (List.mem_of_getElem? (i := 42) rfl)) (hw _ (List.mem_of_getElem? (i := 43) rfl)) (notFace_of_selects (args := #[]) (mvT hZ (hw _ (List.mem_of_getElem? (i := 45) rfl)))) (hw _ (List.mem_of_getElem? (i := 45) rfl)) (hw _ (List.mem_of_getElem? (i := 44) rfl)) (hw _ (List.mem_of_getElem? (i := 7) rfl)) (hw _ (List.mem_of_getElem? (i := 46) rfl)) (by decide) (a := b1036) f1440 (argsL := [(.int (3 : Int32)), (.int (1 : Int32))]) (rest := []) (own_rm6_3 l Z a0 hw [] b1036 (1 : Int32) b593 b646 sl b949 b881 [y0, y1, y2, y3, y4, y5, y6, y7, y8] w4 (0 : Int32) z0 m2 m3 m4 ((k0 + k1 + k2) + 1) 2 h1166 n0  F1171 F1170 F1174 F1173 F1172 f1428 f1430 F1175 f1432 f1434 (own_add hm3k own_l1 (by omega)) (by rw [hwl4]; omega) ((congrArg Int32.toInt (hg.2 hz2).2).trans rfl) (by omega) rfl) (W := 0) (by decide) (by decide) (by decide) (by decide) rfl (by rw [hml]; rfl) (lenOf own_pd3 rfl) rfl (by show 2 * 0 + _ ≤ _; exact Nat.le_of_eq rfl) (hb hby at_578) (fun T1441 h1443 v1444 Y1442 q1445 => ?_)
     obtain ⟨rfl, rfl⟩ := q1445
     show own_Ends _ _ _ _ (T1441.setTop (mkF m 581 #[.val (.int x0), .val (.int x1), .val (.int x2), .val (.ref b593), .val (.ref b646), .val (.ref b685), .val (.ref b725), .val (.ref b771), .val (.ref b823), .val (.ref b881), .val (.ref b949), .val (.ref b1036), .val (.int (3 : Int32)), .val (.int (2 : Int32)), .val (.int (6 : Int32)), .val (.int (1 : Int32)), .val (.int (0 : Int32)), .val (.int (2 : Int32))] [(.int (own_g [y0, y1, y2, y3, y4, y5, y6, y7, y8] (6 + 2)))]))
     refine own_st (fun t_ => XS.aloadN (own_here Y1442) hx rfl (hb hby at_581) rfl rfl) ?_
     show own_Ends _ _ _ _ (T1441.setTop (mkF m 582 #[.val (.int x0), .val (.int x1), .val (.int x2), .val (.ref b593), .val (.ref b646), .val (.ref b685), .val (.ref b725), .val (.ref b771), .val (.ref b823), .val (.ref b881), .val (.ref b949), .val (.ref b1036), .val (.int (3 : Int32)), .val (.int (2 : Int32)), .val (.int (6 : Int32)), .val (.int (1 : Int32)), .val (.int (0 : Int32)), .val (.int (2 : Int32))] [(.ref b593), (.int (own_g [y0, y1, y2, y3, y4, y5, y6, y7, y8] (6 + 2)))]))
     refine own_st (fun t_ => XS.iload (own_here Y1442) hx rfl (hb hby at_582) rfl) ?_
     show own_Ends _ _ _ _ (T1441.setTop (mkF m 584 #[.val (.int x0), .val (.int x1), .val (.int x2), .val (.ref b593), .val (.ref b646), .val (.ref b685), .val (.ref b725), .val (.ref b771), .val (.ref b823), .val (.ref b881), .val (.ref b949), .val (.ref b1036), .val (.int (3 : Int32)), .val (.int (2 : Int32)), .val (.int (6 : Int32)), .val (.int (1 : Int32)), .val (.int (0 : Int32)), .val (.int (2 : Int32))] [(.int (6 : Int32)), (.ref b593), (.int (own_g [y0, y1, y2, y3, y4, y5, y6, y7, y8] (6 + 2)))]))
     refine own_st (fun t_ => XS.iload (own_here Y1442) hx rfl (hb hby at_584) rfl) ?_
     show own_Ends _ _ _ _ (T1441.setTop (mkF m 586 #[.val (.int x0), .val (.int x1), .val (.int x2), .val (.ref b593), .val (.ref b646), .val (.ref b685), .val (.ref b725), .val (.ref b771), .val (.ref b823), .val (.ref b881), .val (.ref b949), .val (.ref b1036), .val (.int (3 : Int32)), .val (.int (2 : Int32)), .val (.int (6 : Int32)), .val (.int (1 : Int32)), .val (.int (0 : Int32)), .val (.int (2 : Int32))] [(.int (2 : Int32)), (.int (6 : Int32)), (.ref b593), (.int (own_g [y0, y1, y2, y3, y4, y5, y6, y7, y8] (6 + 2)))]))
     refine own_st (fun t_ => XS.iadd (own_here Y1442) hx rfl (hb hby at_586) rfl) ?_
     show own_Ends _ _ _ _ (T1441.setTop (mkF m 587 #[.val (.int x0), .val (.int x1), .val (.int x2), .val (.ref b593), .val (.ref b646), .val (.ref b685), .val (.ref b725), .val (.ref b771), .val (.ref b823), .val (.ref b881), .val (.ref b949), .val (.ref b1036), .val (.int (3 : Int32)), .val (.int (2 : Int32)), .val (.int (6 : Int32)), .val (.int (1 : Int32)), .val (.int (0 : Int32)), .val (.int (2 : Int32))] [(.int (8 : Int32)), (.ref b593), (.int (own_g [y0, y1, y2, y3, y4, y5, y6, y7, y8] (6 + 2)))]))
     refine own_ldI Y1442 hx hZ f1428 (i := 8) (by decide) (by decide) (Nat.le_of_ble_eq_true rfl) (v := (.int y8)) rfl rfl rfl (hb hby at_587) ?_
     show own_Ends _ _ _ _ (T1441.setTop (mkF m 588 #[.val (.int x0), .val (.int x1), .val (.int x2), .val (.ref b593), .val (.ref b646), .val (.ref b685), .val (.ref b725), .val (.ref b771), .val (.ref b823), .val (.ref b881), .val (.ref b949), .val (.ref b1036), .val (.int (3 : Int32)), .val (.int (2 : Int32)), .val (.int (6 : Int32)), .val (.int (1 : Int32)), .val (.int (0 : Int32)), .val (.int (2 : Int32))] [(.int y8), (.int (own_g [y0, y1, y2, y3, y4, y5, y6, y7, y8] (6 + 2)))]))
     refine own_st (fun t_ => XS.icmpNo (own_here Y1442) hx rfl (hb hby at_588) rfl (XT.ii_ne_f rfl)) ?_
     show own_Ends _ _ _ _ (T1441.setTop (mkF m 591 #[.val (.int x0), .val (.int x1), .val (.int x2), .val (.ref b593), .val (.ref b646), .val (.ref b685), .val (.ref b725), .val (.ref b771), .val (.ref b823), .val (.ref b881), .val (.ref b949), .val (.ref b1036), .val (.int (3 : Int32)), .val (.int (2 : Int32)), .val (.int (6 : Int32)), .val (.int (1 : Int32)), .val (.int (0 : Int32)), .val (.int (2 : Int32))] []))
     refine own_st (fun t_ => XS.iconst (own_here Y1442) hx rfl (hb hby at_591) ) ?_
     show own_Ends _ _ _ _ (T1441.setTop (mkF m 592 #[.val (.int x0), .val (.int x1), .val (.int x2), .val (.ref b593), .val (.ref b646), .val (.ref b685), .val (.ref b725), .val (.ref b771), .val (.ref b823), .val (.ref b881), .val (.ref b949), .val (.ref b1036), .val (.int (3 : Int32)), .val (.int (2 : Int32)), .val (.int (6 : Int32)), .val (.int (1 : Int32)), .val (.int (0 : Int32)), .val (.int (2 : Int32))] [(.int (1 : Int32))]))
     refine own_st (fun t_ => XS.goto (own_here Y1442) hx rfl (pc0 := 592) (pc' := 596) rfl (hb hby at_592) (by decide) (by decide)) ?_
     show own_Ends _ _ _ _ (T1441.setTop (mkF m 596 #[.val (.int x0), .val (.int x1), .val (.int x2), .val (.ref b593), .val (.ref b646), .val (.ref b685), .val (.ref b725), .val (.ref b771), .val (.ref b823), .val (.ref b881), .val (.ref b949), .val (.ref b1036), .val (.int (3 : Int32)), .val (.int (2 : Int32)), .val (.int (6 : Int32)), .val (.int (1 : Int32)), .val (.int (0 : Int32)), .val (.int (2 : Int32))] [(.int (1 : Int32))]))
     refine own_retN Y1442 hx hlk (t := .boolean) hret (by simp) (hb hby at_596) (by decide) (by decide) ?_
     exact rfl
    ·
     rw [q] at hg ⊢
     show own_Ends _ _ _ _ (T1164.setTop (mkF m 529 #[.val (.int x0), .val (.int x1), .val (.int x2), .val (.ref b593), .val (.ref b646), .val (.ref b685), .val (.ref b725), .val (.ref b771), .val (.ref b823), .val (.ref b881), .val (.ref b949), .val (.ref b1036), .val (.int (3 : Int32)), .val (.int (2 : Int32)), .val (.int (6 : Int32)), .val (.int (2 : Int32)), .unset, .unset] []))
     refine own_st (fun t_ => XS.iconst (own_here Y1165) hx rfl (hb hby at_529) ) ?_
     show own_Ends _ _ _ _ (T1164.setTop (mkF m 530 #[.val (.int x0), .val (.int x1), .val (.int x2), .val (.ref b593), .val (.ref b646), .val (.ref b685), .val (.ref b725), .val (.ref b771), .val (.ref b823), .val (.ref b881), .val (.ref b949), .val (.ref b1036), .val (.int (3 : Int32)), .val (.int (2 : Int32)), .val (.int (6 : Int32)), .val (.int (2 : Int32)), .unset, .unset] [(.int (0 : Int32))]))
     refine own_st (fun t_ => XS.iload (own_here Y1165) hx rfl (hb hby at_530) rfl) ?_
     show own_Ends _ _ _ _ (T1164.setTop (mkF m 532 #[.val (.int x0), .val (.int x1), .val (.int x2), .val (.ref b593), .val (.ref b646), .val (.ref b685), .val (.ref b725), .val (.ref b771), .val (.ref b823), .val (.ref b881), .val (.ref b949), .val (.ref b1036), .val (.int (3 : Int32)), .val (.int (2 : Int32)), .val (.int (6 : Int32)), .val (.int (2 : Int32)), .unset, .unset] [(.int (2 : Int32)), (.int (0 : Int32))]))
     refine own_st (fun t_ => XS.icmpNo (own_here Y1165) hx rfl (hb hby at_532) rfl (XT.ii_ge_f (by decide))) ?_
     show own_Ends _ _ _ _ (T1164.setTop (mkF m 535 #[.val (.int x0), .val (.int x1), .val (.int x2), .val (.ref b593), .val (.ref b646), .val (.ref b685), .val (.ref b725), .val (.ref b771), .val (.ref b823), .val (.ref b881), .val (.ref b949), .val (.ref b1036), .val (.int (3 : Int32)), .val (.int (2 : Int32)), .val (.int (6 : Int32)), .val (.int (2 : Int32)), .unset, .unset] []))
     refine own_st (fun t_ => XS.iconst (own_here Y1165) hx rfl (hb hby at_535) ) ?_
     show own_Ends _ _ _ _ (T1164.setTop (mkF m 536 #[.val (.int x0), .val (.int x1), .val (.int x2), .val (.ref b593), .val (.ref b646), .val (.ref b685), .val (.ref b725), .val (.ref b771), .val (.ref b823), .val (.ref b881), .val (.ref b949), .val (.ref b1036), .val (.int (3 : Int32)), .val (.int (2 : Int32)), .val (.int (6 : Int32)), .val (.int (2 : Int32)), .unset, .unset] [(.int (0 : Int32))]))
     refine own_st (fun t_ => XS.goto (own_here Y1165) hx rfl (pc0 := 536) (pc' := 540) rfl (hb hby at_536) (by decide) (by decide)) ?_
     show own_Ends _ _ _ _ (T1164.setTop (mkF m 540 #[.val (.int x0), .val (.int x1), .val (.int x2), .val (.ref b593), .val (.ref b646), .val (.ref b685), .val (.ref b725), .val (.ref b771), .val (.ref b823), .val (.ref b881), .val (.ref b949), .val (.ref b1036), .val (.int (3 : Int32)), .val (.int (2 : Int32)), .val (.int (6 : Int32)), .val (.int (2 : Int32)), .unset, .unset] [(.int (0 : Int32))]))
     refine own_st (fun t_ => XS.istore (own_here Y1165) hx rfl (hb hby at_540) rfl (l' := #[.val (.int x0), .val (.int x1), .val (.int x2), .val (.ref b593), .val (.ref b646), .val (.ref b685), .val (.ref b725), .val (.ref b771), .val (.ref b823), .val (.ref b881), .val (.ref b949), .val (.ref b1036), .val (.int (3 : Int32)), .val (.int (2 : Int32)), .val (.int (6 : Int32)), .val (.int (2 : Int32)), .val (.int (0 : Int32)), .unset]) rfl) ?_
     show own_Ends _ _ _ _ (T1164.setTop (mkF m 542 #[.val (.int x0), .val (.int x1), .val (.int x2), .val (.ref b593), .val (.ref b646), .val (.ref b685), .val (.ref b725), .val (.ref b771), .val (.ref b823), .val (.ref b881), .val (.ref b949), .val (.ref b1036), .val (.int (3 : Int32)), .val (.int (2 : Int32)), .val (.int (6 : Int32)), .val (.int (2 : Int32)), .val (.int (0 : Int32)), .unset] []))
     refine own_st (fun t_ => XS.iconst (own_here Y1165) hx rfl (hb hby at_542) ) ?_
     show own_Ends _ _ _ _ (T1164.setTop (mkF m 543 #[.val (.int x0), .val (.int x1), .val (.int x2), .val (.ref b593), .val (.ref b646), .val (.ref b685), .val (.ref b725), .val (.ref b771), .val (.ref b823), .val (.ref b881), .val (.ref b949), .val (.ref b1036), .val (.int (3 : Int32)), .val (.int (2 : Int32)), .val (.int (6 : Int32)), .val (.int (2 : Int32)), .val (.int (0 : Int32)), .unset] [(.int (1 : Int32))]))
     refine own_st (fun t_ => XS.iload (own_here Y1165) hx rfl (hb hby at_543) rfl) ?_
     show own_Ends _ _ _ _ (T1164.setTop (mkF m 545 #[.val (.int x0), .val (.int x1), .val (.int x2), .val (.ref b593), .val (.ref b646), .val (.ref b685), .val (.ref b725), .val (.ref b771), .val (.ref b823), .val (.ref b881), .val (.ref b949), .val (.ref b1036), .val (.int (3 : Int32)), .val (.int (2 : Int32)), .val (.int (6 : Int32)), .val (.int (2 : Int32)), .val (.int (0 : Int32)), .unset] [(.int (2 : Int32)), (.int (1 : Int32))]))
     refine own_st (fun t_ => XS.icmpNo (own_here Y1165) hx rfl (hb hby at_545) rfl (XT.ii_ge_f (by decide))) ?_
     show own_Ends _ _ _ _ (T1164.setTop (mkF m 548 #[.val (.int x0), .val (.int x1), .val (.int x2), .val (.ref b593), .val (.ref b646), .val (.ref b685), .val (.ref b725), .val (.ref b771), .val (.ref b823), .val (.ref b881), .val (.ref b949), .val (.ref b1036), .val (.int (3 : Int32)), .val (.int (2 : Int32)), .val (.int (6 : Int32)), .val (.int (2 : Int32)), .val (.int (0 : Int32)), .unset] []))
     refine own_st (fun t_ => XS.iconst (own_here Y1165) hx rfl (hb hby at_548) ) ?_
     show own_Ends _ _ _ _ (T1164.setTop (mkF m 549 #[.val (.int x0), .val (.int x1), .val (.int x2), .val (.ref b593), .val (.ref b646), .val (.ref b685), .val (.ref b725), .val (.ref b771), .val (.ref b823), .val (.ref b881), .val (.ref b949), .val (.ref b1036), .val (.int (3 : Int32)), .val (.int (2 : Int32)), .val (.int (6 : Int32)), .val (.int (2 : Int32)), .val (.int (0 : Int32)), .unset] [(.int (1 : Int32))]))
     refine own_st (fun t_ => XS.goto (own_here Y1165) hx rfl (pc0 := 549) (pc' := 553) rfl (hb hby at_549) (by decide) (by decide)) ?_
     show own_Ends _ _ _ _ (T1164.setTop (mkF m 553 #[.val (.int x0), .val (.int x1), .val (.int x2), .val (.ref b593), .val (.ref b646), .val (.ref b685), .val (.ref b725), .val (.ref b771), .val (.ref b823), .val (.ref b881), .val (.ref b949), .val (.ref b1036), .val (.int (3 : Int32)), .val (.int (2 : Int32)), .val (.int (6 : Int32)), .val (.int (2 : Int32)), .val (.int (0 : Int32)), .unset] [(.int (1 : Int32))]))
     refine own_st (fun t_ => XS.istore (own_here Y1165) hx rfl (hb hby at_553) rfl (l' := #[.val (.int x0), .val (.int x1), .val (.int x2), .val (.ref b593), .val (.ref b646), .val (.ref b685), .val (.ref b725), .val (.ref b771), .val (.ref b823), .val (.ref b881), .val (.ref b949), .val (.ref b1036), .val (.int (3 : Int32)), .val (.int (2 : Int32)), .val (.int (6 : Int32)), .val (.int (2 : Int32)), .val (.int (0 : Int32)), .val (.int (1 : Int32))]) rfl) ?_
     show own_Ends _ _ _ _ (T1164.setTop (mkF m 555 #[.val (.int x0), .val (.int x1), .val (.int x2), .val (.ref b593), .val (.ref b646), .val (.ref b685), .val (.ref b725), .val (.ref b771), .val (.ref b823), .val (.ref b881), .val (.ref b949), .val (.ref b1036), .val (.int (3 : Int32)), .val (.int (2 : Int32)), .val (.int (6 : Int32)), .val (.int (2 : Int32)), .val (.int (0 : Int32)), .val (.int (1 : Int32))] []))
     refine own_st (fun t_ => XS.aload (own_here Y1165) hx rfl (hb hby at_555) rfl rfl) ?_
     show own_Ends _ _ _ _ (T1164.setTop (mkF m 557 #[.val (.int x0), .val (.int x1), .val (.int x2), .val (.ref b593), .val (.ref b646), .val (.ref b685), .val (.ref b725), .val (.ref b771), .val (.ref b823), .val (.ref b881), .val (.ref b949), .val (.ref b1036), .val (.int (3 : Int32)), .val (.int (2 : Int32)), .val (.int (6 : Int32)), .val (.int (2 : Int32)), .val (.int (0 : Int32)), .val (.int (1 : Int32))] [(.ref b1036)]))
     refine own_st (fun t_ => XS.iload (own_here Y1165) hx rfl (hb hby at_557) rfl) ?_
     show own_Ends _ _ _ _ (T1164.setTop (mkF m 559 #[.val (.int x0), .val (.int x1), .val (.int x2), .val (.ref b593), .val (.ref b646), .val (.ref b685), .val (.ref b725), .val (.ref b771), .val (.ref b823), .val (.ref b881), .val (.ref b949), .val (.ref b1036), .val (.int (3 : Int32)), .val (.int (2 : Int32)), .val (.int (6 : Int32)), .val (.int (2 : Int32)), .val (.int (0 : Int32)), .val (.int (1 : Int32))] [(.int (3 : Int32)), (.ref b1036)]))
     refine own_st (fun t_ => XS.iconst (own_here Y1165) hx rfl (hb hby at_559) ) ?_
     show own_Ends _ _ _ _ (T1164.setTop (mkF m 560 #[.val (.int x0), .val (.int x1), .val (.int x2), .val (.ref b593), .val (.ref b646), .val (.ref b685), .val (.ref b725), .val (.ref b771), .val (.ref b823), .val (.ref b881), .val (.ref b949), .val (.ref b1036), .val (.int (3 : Int32)), .val (.int (2 : Int32)), .val (.int (6 : Int32)), .val (.int (2 : Int32)), .val (.int (0 : Int32)), .val (.int (1 : Int32))] [(.int (0 : Int32)), (.int (3 : Int32)), (.ref b1036)]))
     have f1446 : own_A Z h1166 b593 .int [(.int y0), (.int y1), (.int y2), (.int y3), (.int y4), (.int y5), (.int y6), (.int y7), (.int y8)] := f1160.keep K1169 (ninS ne1043 nin0)
     have f1447 : own_A Z h1113 b646 .int [(.int (0 : Int32)), (.int (3 : Int32)), (.int (6 : Int32)), (.int (9 : Int32))] := f1120.ext E1114
     have f1448 : own_A Z h1166 b646 .int [(.int (0 : Int32)), (.int (3 : Int32)), (.int (6 : Int32)), (.int (9 : Int32))] := f1447.keep K1169 (ninS ne1049 nin0)
     have f1449 : own_A Z h1113 b949 .int (w4.map Value.int) := f1132.ext E1114
     have f1450 : own_A Z h1166 b949 .int (w4.map Value.int) := f1449.keep K1169 (ninS ne1068 nin0)
     have f1451 : own_A Z h1113 b881 .int [(.int (0 : Int32)), (.int z0), (.int m2), (.int m3), (.int m4)] := f1130.ext E1114
     have f1452 : own_A Z h1166 b881 .int [(.int (0 : Int32)), (.int z0), (.int m2), (.int m3), (.int m4)] := f1451.keep K1169 (ninS ne1067 nin0)
     have f1458 : Exa Z h1166 b1036 "com/example/tierpath/tierpath/Bounds" := f1139.keep K1169
     refine own_callV Y1165 hx hZ (y := (⟨"com/example/tierpath/tierpath/Bounds", "member", "(II)I"⟩ : MethodName)) (z := (⟨"com/example/tierpath/tierpath/Bounds", "member", "(II)I"⟩ : MethodName)) hown (hw _ (List.mem_of_getElem? (i := 42) rfl)) (hw _ (List.mem_of_getElem? (i := 43) rfl)) (notFace_of_selects (args := #[]) (mvT hZ (hw _ (List.mem_of_getElem? (i := 45) rfl)))) (hw _ (List.mem_of_getElem? (i := 45) rfl)) (hw _ (List.mem_of_getElem? (i := 44) rfl)) (hw _ (List.mem_of_getElem? (i := 7) rfl)) (hw _ (List.mem_of_getElem? (i := 46) rfl)) (by decide) (a := b1036) f1458 (argsL := [(.int (3 : Int32)), (.int (0 : Int32))]) (rest := []) (own_rm6_3 l Z a0 hw [] b1036 (0 : Int32) b593 b646 sl b949 b881 [y0, y1, y2, y3, y4, y5, y6, y7, y8] w4 (0 : Int32) z0 m2 m3 m4 ((k0 + k1 + k2) + 0) 0 h1166 n0  F1171 F1170 F1174 F1173 F1172 f1446 f1448 F1175 f1450 f1452 (own_add hm3k own_l0 (by omega)) (by rw [hwl4]; omega) ((congrArg Int32.toInt (hg.2 hz2).1).trans rfl) (by omega) rfl) (W := 0) (by decide) (by decide) (by decide) (by decide) rfl (by rw [hml]; rfl) (lenOf own_pd3 rfl) rfl (by show 2 * 0 + _ ≤ _; exact Nat.le_of_eq rfl) (hb hby at_560) (fun T1453 h1455 v1456 Y1454 q1457 => ?_)
     obtain ⟨rfl, rfl⟩ := q1457
     show own_Ends _ _ _ _ (T1453.setTop (mkF m 563 #[.val (.int x0), .val (.int x1), .val (.int x2), .val (.ref b593), .val (.ref b646), .val (.ref b685), .val (.ref b725), .val (.ref b771), .val (.ref b823), .val (.ref b881), .val (.ref b949), .val (.ref b1036), .val (.int (3 : Int32)), .val (.int (2 : Int32)), .val (.int (6 : Int32)), .val (.int (2 : Int32)), .val (.int (0 : Int32)), .val (.int (1 : Int32))] [(.int (own_g [y0, y1, y2, y3, y4, y5, y6, y7, y8] (6 + 0)))]))
     refine own_st (fun t_ => XS.aloadN (own_here Y1454) hx rfl (hb hby at_563) rfl rfl) ?_
     show own_Ends _ _ _ _ (T1453.setTop (mkF m 564 #[.val (.int x0), .val (.int x1), .val (.int x2), .val (.ref b593), .val (.ref b646), .val (.ref b685), .val (.ref b725), .val (.ref b771), .val (.ref b823), .val (.ref b881), .val (.ref b949), .val (.ref b1036), .val (.int (3 : Int32)), .val (.int (2 : Int32)), .val (.int (6 : Int32)), .val (.int (2 : Int32)), .val (.int (0 : Int32)), .val (.int (1 : Int32))] [(.ref b593), (.int (own_g [y0, y1, y2, y3, y4, y5, y6, y7, y8] (6 + 0)))]))
     refine own_st (fun t_ => XS.iload (own_here Y1454) hx rfl (hb hby at_564) rfl) ?_
     show own_Ends _ _ _ _ (T1453.setTop (mkF m 566 #[.val (.int x0), .val (.int x1), .val (.int x2), .val (.ref b593), .val (.ref b646), .val (.ref b685), .val (.ref b725), .val (.ref b771), .val (.ref b823), .val (.ref b881), .val (.ref b949), .val (.ref b1036), .val (.int (3 : Int32)), .val (.int (2 : Int32)), .val (.int (6 : Int32)), .val (.int (2 : Int32)), .val (.int (0 : Int32)), .val (.int (1 : Int32))] [(.int (6 : Int32)), (.ref b593), (.int (own_g [y0, y1, y2, y3, y4, y5, y6, y7, y8] (6 + 0)))]))
     refine own_st (fun t_ => XS.iload (own_here Y1454) hx rfl (hb hby at_566) rfl) ?_
     show own_Ends _ _ _ _ (T1453.setTop (mkF m 568 #[.val (.int x0), .val (.int x1), .val (.int x2), .val (.ref b593), .val (.ref b646), .val (.ref b685), .val (.ref b725), .val (.ref b771), .val (.ref b823), .val (.ref b881), .val (.ref b949), .val (.ref b1036), .val (.int (3 : Int32)), .val (.int (2 : Int32)), .val (.int (6 : Int32)), .val (.int (2 : Int32)), .val (.int (0 : Int32)), .val (.int (1 : Int32))] [(.int (0 : Int32)), (.int (6 : Int32)), (.ref b593), (.int (own_g [y0, y1, y2, y3, y4, y5, y6, y7, y8] (6 + 0)))]))
     refine own_st (fun t_ => XS.iadd (own_here Y1454) hx rfl (hb hby at_568) rfl) ?_
     show own_Ends _ _ _ _ (T1453.setTop (mkF m 569 #[.val (.int x0), .val (.int x1), .val (.int x2), .val (.ref b593), .val (.ref b646), .val (.ref b685), .val (.ref b725), .val (.ref b771), .val (.ref b823), .val (.ref b881), .val (.ref b949), .val (.ref b1036), .val (.int (3 : Int32)), .val (.int (2 : Int32)), .val (.int (6 : Int32)), .val (.int (2 : Int32)), .val (.int (0 : Int32)), .val (.int (1 : Int32))] [(.int (6 : Int32)), (.ref b593), (.int (own_g [y0, y1, y2, y3, y4, y5, y6, y7, y8] (6 + 0)))]))
     refine own_ldI Y1454 hx hZ f1446 (i := 6) (by decide) (by decide) (Nat.le_of_ble_eq_true rfl) (v := (.int y6)) rfl rfl rfl (hb hby at_569) ?_
     show own_Ends _ _ _ _ (T1453.setTop (mkF m 570 #[.val (.int x0), .val (.int x1), .val (.int x2), .val (.ref b593), .val (.ref b646), .val (.ref b685), .val (.ref b725), .val (.ref b771), .val (.ref b823), .val (.ref b881), .val (.ref b949), .val (.ref b1036), .val (.int (3 : Int32)), .val (.int (2 : Int32)), .val (.int (6 : Int32)), .val (.int (2 : Int32)), .val (.int (0 : Int32)), .val (.int (1 : Int32))] [(.int y6), (.int (own_g [y0, y1, y2, y3, y4, y5, y6, y7, y8] (6 + 0)))]))
     refine own_st (fun t_ => XS.icmpNo (own_here Y1454) hx rfl (hb hby at_570) rfl (XT.ii_ne_f rfl)) ?_
     show own_Ends _ _ _ _ (T1453.setTop (mkF m 573 #[.val (.int x0), .val (.int x1), .val (.int x2), .val (.ref b593), .val (.ref b646), .val (.ref b685), .val (.ref b725), .val (.ref b771), .val (.ref b823), .val (.ref b881), .val (.ref b949), .val (.ref b1036), .val (.int (3 : Int32)), .val (.int (2 : Int32)), .val (.int (6 : Int32)), .val (.int (2 : Int32)), .val (.int (0 : Int32)), .val (.int (1 : Int32))] []))
     refine own_st (fun t_ => XS.aload (own_here Y1454) hx rfl (hb hby at_573) rfl rfl) ?_
     show own_Ends _ _ _ _ (T1453.setTop (mkF m 575 #[.val (.int x0), .val (.int x1), .val (.int x2), .val (.ref b593), .val (.ref b646), .val (.ref b685), .val (.ref b725), .val (.ref b771), .val (.ref b823), .val (.ref b881), .val (.ref b949), .val (.ref b1036), .val (.int (3 : Int32)), .val (.int (2 : Int32)), .val (.int (6 : Int32)), .val (.int (2 : Int32)), .val (.int (0 : Int32)), .val (.int (1 : Int32))] [(.ref b1036)]))
     refine own_st (fun t_ => XS.iload (own_here Y1454) hx rfl (hb hby at_575) rfl) ?_
     show own_Ends _ _ _ _ (T1453.setTop (mkF m 577 #[.val (.int x0), .val (.int x1), .val (.int x2), .val (.ref b593), .val (.ref b646), .val (.ref b685), .val (.ref b725), .val (.ref b771), .val (.ref b823), .val (.ref b881), .val (.ref b949), .val (.ref b1036), .val (.int (3 : Int32)), .val (.int (2 : Int32)), .val (.int (6 : Int32)), .val (.int (2 : Int32)), .val (.int (0 : Int32)), .val (.int (1 : Int32))] [(.int (3 : Int32)), (.ref b1036)]))
     refine own_st (fun t_ => XS.iconst (own_here Y1454) hx rfl (hb hby at_577) ) ?_
     show own_Ends _ _ _ _ (T1453.setTop (mkF m 578 #[.val (.int x0), .val (.int x1), .val (.int x2), .val (.ref b593), .val (.ref b646), .val (.ref b685), .val (.ref b725), .val (.ref b771), .val (.ref b823), .val (.ref b881), .val (.ref b949), .val (.ref b1036), .val (.int (3 : Int32)), .val (.int (2 : Int32)), .val (.int (6 : Int32)), .val (.int (2 : Int32)), .val (.int (0 : Int32)), .val (.int (1 : Int32))] [(.int (1 : Int32)), (.int (3 : Int32)), (.ref b1036)]))
     refine own_callV Y1454 hx hZ (y := (⟨"com/example/tierpath/tierpath/Bounds", "member", "(II)I"⟩ : MethodName)) (z := (⟨"com/example/tierpath/tierpath/Bounds", "member", "(II)I"⟩ : MethodName)) hown (hw _ (List.mem_of_getElem? (i := 42) rfl)) (hw _ (List.mem_of_getElem? (i := 43) rfl)) (notFace_of_selects (args := #[]) (mvT hZ (hw _ (List.mem_of_getElem? (i := 45) rfl)))) (hw _ (List.mem_of_getElem? (i := 45) rfl)) (hw _ (List.mem_of_getElem? (i := 44) rfl)) (hw _ (List.mem_of_getElem? (i := 7) rfl)) (hw _ (List.mem_of_getElem? (i := 46) rfl)) (by decide) (a := b1036) f1458 (argsL := [(.int (3 : Int32)), (.int (1 : Int32))]) (rest := []) (own_rm6_3 l Z a0 hw [] b1036 (1 : Int32) b593 b646 sl b949 b881 [y0, y1, y2, y3, y4, y5, y6, y7, y8] w4 (0 : Int32) z0 m2 m3 m4 ((k0 + k1 + k2) + 1) 1 h1166 n0  F1171 F1170 F1174 F1173 F1172 f1446 f1448 F1175 f1450 f1452 (own_add hm3k own_l1 (by omega)) (by rw [hwl4]; omega) ((congrArg Int32.toInt (hg.2 hz2).2).trans rfl) (by omega) rfl) (W := 0) (by decide) (by decide) (by decide) (by decide) rfl (by rw [hml]; rfl) (lenOf own_pd3 rfl) rfl (by show 2 * 0 + _ ≤ _; exact Nat.le_of_eq rfl) (hb hby at_578) (fun T1459 h1461 v1462 Y1460 q1463 => ?_)
     obtain ⟨rfl, rfl⟩ := q1463
     show own_Ends _ _ _ _ (T1459.setTop (mkF m 581 #[.val (.int x0), .val (.int x1), .val (.int x2), .val (.ref b593), .val (.ref b646), .val (.ref b685), .val (.ref b725), .val (.ref b771), .val (.ref b823), .val (.ref b881), .val (.ref b949), .val (.ref b1036), .val (.int (3 : Int32)), .val (.int (2 : Int32)), .val (.int (6 : Int32)), .val (.int (2 : Int32)), .val (.int (0 : Int32)), .val (.int (1 : Int32))] [(.int (own_g [y0, y1, y2, y3, y4, y5, y6, y7, y8] (6 + 1)))]))
     refine own_st (fun t_ => XS.aloadN (own_here Y1460) hx rfl (hb hby at_581) rfl rfl) ?_
     show own_Ends _ _ _ _ (T1459.setTop (mkF m 582 #[.val (.int x0), .val (.int x1), .val (.int x2), .val (.ref b593), .val (.ref b646), .val (.ref b685), .val (.ref b725), .val (.ref b771), .val (.ref b823), .val (.ref b881), .val (.ref b949), .val (.ref b1036), .val (.int (3 : Int32)), .val (.int (2 : Int32)), .val (.int (6 : Int32)), .val (.int (2 : Int32)), .val (.int (0 : Int32)), .val (.int (1 : Int32))] [(.ref b593), (.int (own_g [y0, y1, y2, y3, y4, y5, y6, y7, y8] (6 + 1)))]))
     refine own_st (fun t_ => XS.iload (own_here Y1460) hx rfl (hb hby at_582) rfl) ?_
     show own_Ends _ _ _ _ (T1459.setTop (mkF m 584 #[.val (.int x0), .val (.int x1), .val (.int x2), .val (.ref b593), .val (.ref b646), .val (.ref b685), .val (.ref b725), .val (.ref b771), .val (.ref b823), .val (.ref b881), .val (.ref b949), .val (.ref b1036), .val (.int (3 : Int32)), .val (.int (2 : Int32)), .val (.int (6 : Int32)), .val (.int (2 : Int32)), .val (.int (0 : Int32)), .val (.int (1 : Int32))] [(.int (6 : Int32)), (.ref b593), (.int (own_g [y0, y1, y2, y3, y4, y5, y6, y7, y8] (6 + 1)))]))
     refine own_st (fun t_ => XS.iload (own_here Y1460) hx rfl (hb hby at_584) rfl) ?_
     show own_Ends _ _ _ _ (T1459.setTop (mkF m 586 #[.val (.int x0), .val (.int x1), .val (.int x2), .val (.ref b593), .val (.ref b646), .val (.ref b685), .val (.ref b725), .val (.ref b771), .val (.ref b823), .val (.ref b881), .val (.ref b949), .val (.ref b1036), .val (.int (3 : Int32)), .val (.int (2 : Int32)), .val (.int (6 : Int32)), .val (.int (2 : Int32)), .val (.int (0 : Int32)), .val (.int (1 : Int32))] [(.int (1 : Int32)), (.int (6 : Int32)), (.ref b593), (.int (own_g [y0, y1, y2, y3, y4, y5, y6, y7, y8] (6 + 1)))]))
     refine own_st (fun t_ => XS.iadd (own_here Y1460) hx rfl (hb hby at_586) rfl) ?_
     show own_Ends _ _ _ _ (T1459.setTop (mkF m 587 #[.val (.int x0), .val (.int x1), .val (.int x2), .val (.ref b593), .val (.ref b646), .val (.ref b685), .val (.ref b725), .val (.ref b771), .val (.ref b823), .val (.ref b881), .val (.ref b949), .val (.ref b1036), .val (.int (3 : Int32)), .val (.int (2 : Int32)), .val (.int (6 : Int32)), .val (.int (2 : Int32)), .val (.int (0 : Int32)), .val (.int (1 : Int32))] [(.int (7 : Int32)), (.ref b593), (.int (own_g [y0, y1, y2, y3, y4, y5, y6, y7, y8] (6 + 1)))]))
     refine own_ldI Y1460 hx hZ f1446 (i := 7) (by decide) (by decide) (Nat.le_of_ble_eq_true rfl) (v := (.int y7)) rfl rfl rfl (hb hby at_587) ?_
     show own_Ends _ _ _ _ (T1459.setTop (mkF m 588 #[.val (.int x0), .val (.int x1), .val (.int x2), .val (.ref b593), .val (.ref b646), .val (.ref b685), .val (.ref b725), .val (.ref b771), .val (.ref b823), .val (.ref b881), .val (.ref b949), .val (.ref b1036), .val (.int (3 : Int32)), .val (.int (2 : Int32)), .val (.int (6 : Int32)), .val (.int (2 : Int32)), .val (.int (0 : Int32)), .val (.int (1 : Int32))] [(.int y7), (.int (own_g [y0, y1, y2, y3, y4, y5, y6, y7, y8] (6 + 1)))]))
     refine own_st (fun t_ => XS.icmpNo (own_here Y1460) hx rfl (hb hby at_588) rfl (XT.ii_ne_f rfl)) ?_
     show own_Ends _ _ _ _ (T1459.setTop (mkF m 591 #[.val (.int x0), .val (.int x1), .val (.int x2), .val (.ref b593), .val (.ref b646), .val (.ref b685), .val (.ref b725), .val (.ref b771), .val (.ref b823), .val (.ref b881), .val (.ref b949), .val (.ref b1036), .val (.int (3 : Int32)), .val (.int (2 : Int32)), .val (.int (6 : Int32)), .val (.int (2 : Int32)), .val (.int (0 : Int32)), .val (.int (1 : Int32))] []))
     refine own_st (fun t_ => XS.iconst (own_here Y1460) hx rfl (hb hby at_591) ) ?_
     show own_Ends _ _ _ _ (T1459.setTop (mkF m 592 #[.val (.int x0), .val (.int x1), .val (.int x2), .val (.ref b593), .val (.ref b646), .val (.ref b685), .val (.ref b725), .val (.ref b771), .val (.ref b823), .val (.ref b881), .val (.ref b949), .val (.ref b1036), .val (.int (3 : Int32)), .val (.int (2 : Int32)), .val (.int (6 : Int32)), .val (.int (2 : Int32)), .val (.int (0 : Int32)), .val (.int (1 : Int32))] [(.int (1 : Int32))]))
     refine own_st (fun t_ => XS.goto (own_here Y1460) hx rfl (pc0 := 592) (pc' := 596) rfl (hb hby at_592) (by decide) (by decide)) ?_
     show own_Ends _ _ _ _ (T1459.setTop (mkF m 596 #[.val (.int x0), .val (.int x1), .val (.int x2), .val (.ref b593), .val (.ref b646), .val (.ref b685), .val (.ref b725), .val (.ref b771), .val (.ref b823), .val (.ref b881), .val (.ref b949), .val (.ref b1036), .val (.int (3 : Int32)), .val (.int (2 : Int32)), .val (.int (6 : Int32)), .val (.int (2 : Int32)), .val (.int (0 : Int32)), .val (.int (1 : Int32))] [(.int (1 : Int32))]))
     refine own_retN Y1460 hx hlk (t := .boolean) hret (by simp) (hb hby at_596) (by decide) (by decide) ?_
     exact rfl
set_option maxRecDepth 65536 in
set_option maxHeartbeats 40000000 in
theorem own_comes_1 {Post : Tables → Env → Array Value → State → Outcome → State → Prop} (hpost : ∀ tb e args s v u, (limb_1_1.after args s (.returned v) u = true ∧ limb_1_2.after args s (.returned v) u = true ∧ True) → FrameEnd s (.returned v) u (Jvm.fieldLocs frame_1_writes args s ++ Jvm.arrayLocs frame_1_arrays args s ++ Jvm.staticLocs frame_1_statics s) 40 384 → Post tb e args s (.returned v) u) :
    ArmFor flags0 classFile x code maxLocals ret World_1 tables_1 room_1 Calls_1 rest_1 Pre_1 Post := by
  intro l hfl _ _ p e ha hc hk s m args below hf hA hF happ hP
  obtain ⟨hcalls, hrest, hpre⟩ := hP
  obtain ⟨-, -, -, hnamed, -, -, -, hat⟩ := (Spec.applies_iff hf).mp happ
  obtain ⟨hg, hn⟩ := and_e (Cond.before_iff.mp (show (Jvm.Cond.and given_1 narrow_1).before args s = true from hpre))
  obtain ⟨g1, g2⟩ := and_e hg
  obtain ⟨g3, g4⟩ := and_e g2
  obtain ⟨g5, g6⟩ := and_e g4
  obtain ⟨w0, w1, w2, rfl⟩ : ∃ w0 w1 w2 : Value, args = #[w0, w1, w2] := by
    have hs : args.size = 3 := by simpa [Cond.value, given_1] using g1
    obtain ⟨L⟩ := args
    match L, hs with
    | [w0, w1, w2], _ => exact ⟨w0, w1, w2, rfl⟩
  have hw := fun d (hd : d ∈ tables_1) => atoms_spec (ws := Jvm.Cond.code x code maxLocals ret :: tables_1) hat d (List.mem_cons_of_mem _ hd)
  have hfit : Fit s := fun {y c} hc i hi => by
    obtain ⟨ha, rfl⟩ := Array.getElem?_eq_some_iff.mp hc
    have q := List.all_eq_true.mp ((Array.all_eq_true_iff_forall_mem.mp hF) _ (Array.getElem_mem ha)) i (List.mem_range.mpr hi)
    simpa [Array.getElem?_eq_getElem hi] using q
  obtain ⟨i0, ei0⟩ := is_v g3
  obtain rfl : w0 = (.int i0) := Option.some.inj ei0
  obtain ⟨i1, ei1⟩ := is_v g5
  obtain rfl : w1 = (.int i1) := Option.some.inj ei1
  obtain ⟨i2, ei2⟩ := is_v g6
  obtain rfl : w2 = (.int i2) := Option.some.inj ei2
  obtain ⟨n, o, h1, h2, h3, _, L, rfl, ⟨N, rfl⟩, hq⟩ := own_rm0 l s _ hw tables_1 i0 i1 i2  s.heap s.heap.size (Nat.le_refl _)  p e ha hc hk s m _ below hf ((Spec.applies_iff_loose hf).mp happ).1 ⟨rfl, State.Warmed39.refl s, rfl⟩ trivial
  refine ⟨n, _, h1, h2, h3, hpost _ _ _ _ _ _ ⟨Cond.after_iff.mpr rfl, Cond.after_iff.mpr (eq_i res_at (Term.int_eval (1)) rfl), trivial⟩ ⟨hq.1, hq.2.1, (hq.2.2.sift fun y hy => Or.inr (N y hy)).mono (by decide) (by decide)⟩⟩
theorem main_1_1 : Claimed_1_1 := own_comes_1 fun _ _ _ _ _ _ h hF => ⟨h.1, hF⟩
theorem main_1_2 : Claimed_1_2 := own_comes_1 fun _ _ _ _ _ _ h hF => ⟨h.2.1, hF⟩
end Jvm.Pilot.@@N@@
namespace Jvm.Pilot.@@N@@
open Jvm Jvm.ClassFile Sem Op Lib Jvm.Free Jvm.Stand Jvm.Pilot.@@N@@.Jvm.D
/-! MADE BY PROGRAM (witnessworld.py) out of the Statement's table words and the real class files: 12 classes; the members and pool entries that the words name. The judged class is class 1, her method 1. -/
namespace start1
open Jvm.ClassFile
def u (s : String) : CpInfo := .utf8 (stringToUtf16 s)
/-- a pool by its gaps: so many unusable entries, then the entry; so many at the end -/
def gap : Nat → List CpInfo → List CpInfo
  | 0, r => r
  | n + 1, r => .unusable :: gap n r
def poolList (es : List (Nat × CpInfo)) (last : Nat) : List CpInfo := es.foldr (fun e r => gap e.1 (e.2 :: r)) (gap last [])
def pool (es : List (Nat × CpInfo)) (last : Nat) : Array CpInfo := ⟨poolList es last⟩
def fileOf (pool : Array CpInfo) (this : Nat) (attrs : Array Attribute := #[]) (ms : Array MethodInfo := #[]) (fl : Nat := 33) (sup : Nat := 0) (ifs : Array Nat := #[]) (fds : Array FieldInfo := #[]) : ClassFile where
  minorVersion := 0
  majorVersion := 65
  constantPool := pool
  accessFlags := fl
  thisClass := this
  superClass := sup
  interfaces := ifs
  fields := fds
  methods := ms
  attributes := attrs
def plain (name : String) (sup : Option ClassId) : Class where
  name := name
  kind := .ordinary
  loader := none
  accessFlags := 33
  super := sup
  interfaces := #[]
  cf := none
  fields := #[]
  methods := #[]
  instanceTypes := #[]
  staticTypes := #[]
  resolved := #[]
  callSites := []
  init := .initialized
  statics := none
  mirror := none

def pool0 : Array CpInfo := pool [(5, u "<init>"), (0, u "()V"), (1, .class_ 10), (1, u "java/lang/Object")] 113

def k0c0 : Code := { maxStack := 0, maxLocals := 1, code := object_method_1_code, exceptionTable := #[], attributes := #[] }
def k0m0 : Method := { name := "<init>", desc := "()V", sig := { parameters := [], returnType := none }, accessFlags := 1, code := some k0c0 }
/-- java/lang/Object -/
def k0 : Class := { plain "java/lang/Object" none with
  accessFlags := 33
  interfaces := #[]
  cf := some (fileOf pool0 8 #[] #[{ accessFlags := 1, nameIndex := 5, descriptorIndex := 6, attributes := #[] }] 33 0 #[] #[])
  fields := #[]
  methods := #[k0m0]
  instanceTypes := #[]
  staticTypes := #[]
  resolved := Array.replicate 124 none
  statics := none }

def pool1 : Array CpInfo := pool [(2, .class_ 4), (1, u "java/lang/Object"), (0, u "<init>"), (0, u "()V"), (0, .methodref 8 9), (0, .class_ 10), (0, .nameAndType 11 12), (0, u "com/example/tierpath/tierpath/BoundsMemberPinLaw"), (0, u "fill"), (0, u "([IIII)V"), (0, .class_ 14), (0, u "com/example/tierpath/tierpath/Bounds"), (0, .methodref 13 16), (0, .nameAndType 5 17), (0, u "(I[I[I[I[I[I[I[J[J)V"), (0, .methodref 13 19), (0, .nameAndType 20 21), (0, u "member"), (0, u "(II)I"), (2, u "law"), (0, u "(III)Z")] 5

def k1m0 : Method := { name := "<init>", desc := "()V", sig := { parameters := [], returnType := none }, accessFlags := 1, code := none }
def k1c1 : Code := { maxStack := 11, maxLocals := 18, code := code, exceptionTable := #[], attributes := #[] }
def k1m1 : Method := { name := "law", desc := "(III)Z", sig := { parameters := [.int, .int, .int], returnType := some .boolean }, accessFlags := 9, code := some k1c1 }
def k1c2 : Code := { maxStack := 4, maxLocals := 4, code := method_3_code, exceptionTable := #[], attributes := #[] }
def k1m2 : Method := { name := "fill", desc := "([IIII)V", sig := { parameters := [(.array .int), .int, .int, .int], returnType := none }, accessFlags := 10, code := some k1c2 }
/-- com/example/tierpath/tierpath/BoundsMemberPinLaw -/
def k1 : Class := { plain "com/example/tierpath/tierpath/BoundsMemberPinLaw" (some 0) with
  accessFlags := 49
  interfaces := #[]
  cf := some (fileOf pool1 8 #[] #[{ accessFlags := 1, nameIndex := 5, descriptorIndex := 6, attributes := #[] }, { accessFlags := 9, nameIndex := 24, descriptorIndex := 25, attributes := #[] }, { accessFlags := 10, nameIndex := 11, descriptorIndex := 12, attributes := #[] }] 49 2 #[] #[])
  fields := #[]
  methods := #[k1m0, k1m1, k1m2]
  instanceTypes := #[]
  staticTypes := #[]
  resolved := Array.replicate 31 none
  statics := none }

def pool2 : Array CpInfo := pool [(3, .methodref 4 5), (0, .class_ 6), (0, .nameAndType 7 8), (0, u "java/lang/Object"), (0, u "<init>"), (0, u "()V"), (0, .fieldref 10 11), (0, .class_ 12), (0, .nameAndType 13 14), (0, u "com/example/tierpath/tierpath/Bounds"), (0, u "boundaryStart"), (0, u "[I"), (0, .fieldref 10 16), (0, .nameAndType 17 14), (0, u "boundary"), (0, .fieldref 10 19), (0, .nameAndType 20 14), (0, u "setStart"), (0, .fieldref 10 22), (0, .nameAndType 23 14), (0, u "neighbour"), (0, .fieldref 10 25), (0, .nameAndType 26 14), (0, u "memberStart"), (0, .fieldref 10 28), (0, .nameAndType 29 14), (0, u "members"), (0, .fieldref 10 31), (0, .nameAndType 32 33), (0, u "alpha"), (0, u "[J"), (0, .fieldref 10 35), (0, .nameAndType 36 33), (0, u "beta"), (0, .fieldref 10 38), (0, .nameAndType 39 14), (0, u "number"), (0, .fieldref 10 41), (0, .nameAndType 42 14), (0, u "setLeaf"), (0, .methodref 44 45), (0, .class_ 46), (0, .nameAndType 47 48), (0, u "java/util/Arrays"), (0, u "fill"), (0, u "([IIII)V"), (34, u "(II)I"), (51, u "(I[I[I[I[I[I[I[J[J)V"), (79, u "BYTES_PER_NODE"), (0, u "I"), (2, u "MAX_ARRAY"), (0, u "J"), (13, u "member")] 44

def k2c0 : Code := { maxStack := 5, maxLocals := 11, code := prog_19_method_1_code, exceptionTable := #[], attributes := #[] }
def k2m0 : Method := { name := "<init>", desc := "(I[I[I[I[I[I[I[J[J)V", sig := { parameters := [.int, (.array .int), (.array .int), (.array .int), (.array .int), (.array .int), (.array .int), (.array .long), (.array .long)], returnType := none }, accessFlags := 0, code := some k2c0 }
def k2c1 : Code := { maxStack := 5, maxLocals := 3, code := prog_19_method_14_code, exceptionTable := #[], attributes := #[] }
def k2m1 : Method := { name := "member", desc := "(II)I", sig := { parameters := [.int, .int], returnType := some .int }, accessFlags := 1, code := some k2c1 }
/-- com/example/tierpath/tierpath/Bounds -/
def k2 : Class := { plain "com/example/tierpath/tierpath/Bounds" (some 0) with
  accessFlags := 49
  interfaces := #[]
  cf := some (fileOf pool2 10 #[] #[{ accessFlags := 0, nameIndex := 7, descriptorIndex := 135, attributes := #[] }, { accessFlags := 1, nameIndex := 234, descriptorIndex := 83, attributes := #[] }] 49 4 #[] #[{ accessFlags := 25, nameIndex := 215, descriptorIndex := 216, attributes := #[] }, { accessFlags := 26, nameIndex := 219, descriptorIndex := 220, attributes := #[] }, { accessFlags := 18, nameIndex := 13, descriptorIndex := 14, attributes := #[] }, { accessFlags := 18, nameIndex := 17, descriptorIndex := 14, attributes := #[] }, { accessFlags := 18, nameIndex := 39, descriptorIndex := 14, attributes := #[] }, { accessFlags := 18, nameIndex := 20, descriptorIndex := 14, attributes := #[] }, { accessFlags := 18, nameIndex := 42, descriptorIndex := 14, attributes := #[] }, { accessFlags := 18, nameIndex := 23, descriptorIndex := 14, attributes := #[] }, { accessFlags := 18, nameIndex := 26, descriptorIndex := 14, attributes := #[] }, { accessFlags := 18, nameIndex := 29, descriptorIndex := 14, attributes := #[] }, { accessFlags := 18, nameIndex := 32, descriptorIndex := 33, attributes := #[] }, { accessFlags := 18, nameIndex := 36, descriptorIndex := 33, attributes := #[] }])
  fields := #[{ name := "BYTES_PER_NODE", type := .int, accessFlags := 25, slot := 0, constantValue := 0 }, { name := "MAX_ARRAY", type := .long, accessFlags := 26, slot := 1, constantValue := 0 }, { name := "boundaryStart", type := (.array .int), accessFlags := 18, slot := 0, constantValue := 0 }, { name := "boundary", type := (.array .int), accessFlags := 18, slot := 1, constantValue := 0 }, { name := "number", type := (.array .int), accessFlags := 18, slot := 2, constantValue := 0 }, { name := "setStart", type := (.array .int), accessFlags := 18, slot := 3, constantValue := 0 }, { name := "setLeaf", type := (.array .int), accessFlags := 18, slot := 4, constantValue := 0 }, { name := "neighbour", type := (.array .int), accessFlags := 18, slot := 5, constantValue := 0 }, { name := "memberStart", type := (.array .int), accessFlags := 18, slot := 6, constantValue := 0 }, { name := "members", type := (.array .int), accessFlags := 18, slot := 7, constantValue := 0 }, { name := "alpha", type := (.array .long), accessFlags := 18, slot := 8, constantValue := 0 }, { name := "beta", type := (.array .long), accessFlags := 18, slot := 9, constantValue := 0 }]
  methods := #[k2m0, k2m1]
  instanceTypes := #[(.array .int), (.array .int), (.array .int), (.array .int), (.array .int), (.array .int), (.array .int), (.array .int), (.array .long), (.array .long)]
  staticTypes := #[.int, .long]
  resolved := Array.replicate 279 none
  statics := none }

def pool3 : Array CpInfo := pool [(2, .class_ 4), (1, u "java/lang/Object"), (0, u "<init>"), (0, u "()V"), (5, u "([IIII)V"), (0, .methodref 14 15), (0, .class_ 16), (0, .nameAndType 17 18), (0, u "java/util/Arrays"), (0, u "rangeCheck"), (0, u "(III)V"), (55, .class_ 76), (1, u "java/util/Arrays$NaturalOrder"), (36, .class_ 115), (1, u "java/util/Arrays$LegacyMergeSort"), (1, u "Z"), (257, .class_ 376), (0, u "java/util/Arrays$ArrayList"), (68, u "$assertionsDisabled"), (269, u "MIN_ARRAY_SORT_GRAN"), (0, u "I"), (2, u "INSERTIONSORT_THRESHOLD"), (120, u "fill"), (134, .class_ 976), (0, u "java/util/Arrays$ArrayItr")] 52

def k3m0 : Method := { name := "<init>", desc := "()V", sig := { parameters := [], returnType := none }, accessFlags := 2, code := none }
def k3c1 : Code := { maxStack := 4, maxLocals := 3, code := jdk_65_method_30_code, exceptionTable := #[], attributes := #[] }
def k3m1 : Method := { name := "rangeCheck", desc := "(III)V", sig := { parameters := [.int, .int, .int], returnType := none }, accessFlags := 8, code := some k3c1 }
def k3c2 : Code := { maxStack := 3, maxLocals := 5, code := jdk_65_method_104_code, exceptionTable := #[], attributes := #[] }
def k3m2 : Method := { name := "fill", desc := "([IIII)V", sig := { parameters := [(.array .int), .int, .int, .int], returnType := none }, accessFlags := 9, code := some k3c2 }
/-- java/util/Arrays -/
def k3 : Class := { plain "java/util/Arrays" (some 0) with
  accessFlags := 49
  interfaces := #[]
  cf := some (fileOf pool3 14 #[.nestMembers #[975, 375, 113, 74]] #[{ accessFlags := 2, nameIndex := 5, descriptorIndex := 6, attributes := #[] }, { accessFlags := 8, nameIndex := 17, descriptorIndex := 18, attributes := #[] }, { accessFlags := 9, nameIndex := 840, descriptorIndex := 12, attributes := #[] }] 49 2 #[] #[{ accessFlags := 26, nameIndex := 715, descriptorIndex := 716, attributes := #[] }, { accessFlags := 26, nameIndex := 719, descriptorIndex := 716, attributes := #[] }, { accessFlags := 4120, nameIndex := 445, descriptorIndex := 117, attributes := #[] }])
  fields := #[{ name := "MIN_ARRAY_SORT_GRAN", type := .int, accessFlags := 26, slot := 0, constantValue := 0 }, { name := "INSERTIONSORT_THRESHOLD", type := .int, accessFlags := 26, slot := 1, constantValue := 0 }, { name := "$assertionsDisabled", type := .boolean, accessFlags := 4120, slot := 2, constantValue := 0 }]
  methods := #[k3m0, k3m1, k3m2]
  instanceTypes := #[]
  staticTypes := #[.int, .int, .boolean]
  resolved := Array.replicate 1029 none
  statics := none }

def pool4 : Array CpInfo := pool [(1, u "java/lang/Cloneable"), (0, .class_ 1), (0, u "java/lang/Object"), (0, .class_ 3)] 3

/-- java/lang/Cloneable -/
def k4 : Class := { plain "java/lang/Cloneable" (some 0) with
  accessFlags := 1537
  interfaces := #[]
  cf := some (fileOf pool4 2 #[] #[] 1537 4 #[] #[])
  fields := #[]
  methods := #[]
  instanceTypes := #[]
  staticTypes := #[]
  resolved := Array.replicate 8 none
  statics := none }

def pool5 : Array CpInfo := pool [(1, u "java/io/Serializable"), (0, .class_ 1), (0, u "java/lang/Object"), (0, .class_ 3)] 3

/-- java/io/Serializable -/
def k5 : Class := { plain "java/io/Serializable" (some 0) with
  accessFlags := 1537
  interfaces := #[]
  cf := some (fileOf pool5 2 #[] #[] 1537 4 #[] #[])
  fields := #[]
  methods := #[]
  instanceTypes := #[]
  staticTypes := #[]
  resolved := Array.replicate 8 none
  statics := none }

/-- the primitive byte -/
def k6 : Class := { plain "byte" none with kind := .primitive 'B', accessFlags := 0x411 }
/-- [B -/
def k7 : Class := { plain "[B" (some 0) with kind := .array 6 .byte, interfaces := #[4, 5], accessFlags := 1041 }

/-- the primitive int -/
def k8 : Class := { plain "int" none with kind := .primitive 'I', accessFlags := 0x411 }
/-- [I -/
def k9 : Class := { plain "[I" (some 0) with kind := .array 8 .int, interfaces := #[4, 5], accessFlags := 1041 }

/-- the primitive long -/
def k10 : Class := { plain "long" none with kind := .primitive 'J', accessFlags := 0x411 }
/-- [J -/
def k11 : Class := { plain "[J" (some 0) with kind := .array 10 .long, interfaces := #[4, 5], accessFlags := 1041 }

def heap : Heap := #[]
def classes : Array Class := #[k0, k1, k2, k3, k4, k5, k6, k7, k8, k9, k10, k11]
def interned : List (Array UInt16 × Addr) := []
def slotsUsed : Nat := 0
def theMethod : MethodId := ⟨1, 1⟩
def args0 : Array Value := #[.int 10, .int 17, .int 24]
def aboutOver (below : List Frame) : State where
  vm := { classes := classes, interned := interned.toArray }
  heap := heap
  slotsUsed := slotsUsed
  threads := #[{ frames := .invoking theMethod args0 :: below }]
def below0 : List Frame := [.native { method := ⟨0, 0⟩, args := #[] }]
def about1 : State := aboutOver below0
def p0 : Program := .bare "" "" ""
def e0 : Env := launch0.env 0 0 0
theorem w_frames : about1.frames = Frame.invoking theMethod args0 :: below0 := rfl
set_option maxRecDepth 65536 in
theorem w_args : argsFit about1.vm theMethod args0 = true := by decide +kernel
set_option maxRecDepth 65536 in
theorem w_heap : heapFits about1 = true := by decide +kernel
set_option maxRecDepth 65536 in
theorem w_runnable : about1.curStatus? = some .runnable := by decide +kernel
set_option maxRecDepth 65536 in
theorem w_alone : about1.alone = true := by decide +kernel
set_option maxRecDepth 65536 in
theorem w_named : about1.methodNamed? x = some theMethod := by decide +kernel
set_option maxRecDepth 65536 in
theorem w_hears : about1.hears theMethod below0 = true := by decide +kernel
set_option maxRecDepth 65536 in
theorem w_ripe : about1.ripe theMethod args0 below0 = true := by decide +kernel
theorem w_running : about1.status = .running := rfl
set_option maxRecDepth 65536 in
theorem w_room : about1.hasRoom e0.platform room_1 = true :=
  launch0.hasRoom_least _ room_1 (by decide +kernel) (by decide +kernel) (by decide +kernel) (by decide +kernel) (by decide +kernel) (by decide +kernel)
theorem allAtoms_all (ts : List Jvm.Cond) (a : Array Jvm.Value) (st : Jvm.State) : (allAtoms ts).before a st = ts.all (fun c => c.before a st) := by
  induction ts with
  | nil => rfl
  | cons c t ih =>
    show (Jvm.Cond.and c (allAtoms t)).before a st = _
    rw [Jvm.Cond.before_and, ih, List.all_cons]
def words1 : List Jvm.Cond := Jvm.Cond.code x code maxLocals ret :: tables_1
/-- a 'code' word, met by the world's own term for the bytes: nothing is compared byte by byte -/
theorem code_word {y : MethodName} {bytes : ByteArray} {mx : Nat} {rt : Option FieldType} {a : Array Value} {s : State} {m : MethodId} {meth : Method} {c : Code} (h1 : s.methodNamed? y = some m) (h2 : s.vm.method? m = some meth) (h3 : meth.code = some c) (h4 : c.code = bytes)
    (h5 : (c.maxLocals == mx && c.exceptionTable.isEmpty && decide (c.maxStack ≤ mostOperands) && decide (meth.sig.returnType = rt) && !meth.locks && decide (parseMethodDescriptor y.desc = some meth.sig)) = true) : (Jvm.Cond.code y bytes mx rt).before a s = true := by
  simp only [Bool.and_eq_true, beq_iff_eq, Bool.not_eq_true', decide_eq_true_eq] at h5
  obtain ⟨⟨⟨⟨⟨g1, g2⟩, g3⟩, g4⟩, g5⟩, g6⟩ := h5
  simp [Cond.before, Cond.holds, Cond.value, h1, h2, h3, h4, g1, g2, g3, g4, g5, g6]
def isCode : Jvm.Cond → Bool
  | .code _ _ _ _ => true
  | _ => false
theorem all_split {L : List Jvm.Cond} {P : Jvm.Cond → Bool} (h1 : L.all (fun c => isCode c || P c) = true) (h2 : ∀ c ∈ L.filter isCode, P c = true) : L.all P = true := by
  refine List.all_eq_true.mpr fun c hc => ?_
  have h := List.all_eq_true.mp h1 c hc
  rcases Bool.eq_false_or_eq_true (isCode c) with hi | hi
  · exact h2 c (List.mem_filter.mpr ⟨hc, hi⟩)
  · simpa [hi] using h
set_option maxRecDepth 65536 in
theorem w_c0 : (Jvm.Cond.code x code maxLocals ret).before args0 about1 = true := code_word (m := ⟨1, 1⟩) (meth := k1m1) (c := k1c1) (by decide +kernel) rfl rfl rfl (by decide +kernel)
set_option maxRecDepth 65536 in
theorem w_c1 : (Jvm.Cond.code ({ cls := "com/example/tierpath/tierpath/BoundsMemberPinLaw", name := "fill", desc := "([IIII)V" } : Jvm.MethodName) method_3_code (4 : Nat) (Option.none : Option Jvm.ClassFile.FieldType)).before args0 about1 = true := code_word (m := ⟨1, 2⟩) (meth := k1m2) (c := k1c2) (by decide +kernel) rfl rfl rfl (by decide +kernel)
set_option maxRecDepth 65536 in
theorem w_c2 : (Jvm.Cond.code ({ cls := "com/example/tierpath/tierpath/Bounds", name := "<init>", desc := "(I[I[I[I[I[I[I[J[J)V" } : Jvm.MethodName) prog_19_method_1_code (11 : Nat) (Option.none : Option Jvm.ClassFile.FieldType)).before args0 about1 = true := code_word (m := ⟨2, 0⟩) (meth := k2m0) (c := k2c0) (by decide +kernel) rfl rfl rfl (by decide +kernel)
set_option maxRecDepth 65536 in
theorem w_c3 : (Jvm.Cond.code ({ cls := "java/lang/Object", name := "<init>", desc := "()V" } : Jvm.MethodName) object_method_1_code (1 : Nat) (Option.none : Option Jvm.ClassFile.FieldType)).before args0 about1 = true := code_word (m := ⟨0, 0⟩) (meth := k0m0) (c := k0c0) (by decide +kernel) rfl rfl rfl (by decide +kernel)
set_option maxRecDepth 65536 in
theorem w_c4 : (Jvm.Cond.code ({ cls := "java/util/Arrays", name := "fill", desc := "([IIII)V" } : Jvm.MethodName) jdk_65_method_104_code (5 : Nat) (Option.none : Option Jvm.ClassFile.FieldType)).before args0 about1 = true := code_word (m := ⟨3, 2⟩) (meth := k3m2) (c := k3c2) (by decide +kernel) rfl rfl rfl (by decide +kernel)
set_option maxRecDepth 65536 in
theorem w_c5 : (Jvm.Cond.code ({ cls := "java/util/Arrays", name := "rangeCheck", desc := "(III)V" } : Jvm.MethodName) jdk_65_method_30_code (3 : Nat) (Option.none : Option Jvm.ClassFile.FieldType)).before args0 about1 = true := code_word (m := ⟨3, 1⟩) (meth := k3m1) (c := k3c1) (by decide +kernel) rfl rfl rfl (by decide +kernel)
set_option maxRecDepth 65536 in
theorem w_c6 : (Jvm.Cond.code ({ cls := "com/example/tierpath/tierpath/Bounds", name := "member", desc := "(II)I" } : Jvm.MethodName) prog_19_method_14_code (3 : Nat) (Option.some Jvm.ClassFile.FieldType.int)).before args0 about1 = true := code_word (m := ⟨2, 1⟩) (meth := k2m1) (c := k2c1) (by decide +kernel) rfl rfl rfl (by decide +kernel)
def codes1 : List Jvm.Cond := [Jvm.Cond.code x code maxLocals ret, Jvm.Cond.code ({ cls := "com/example/tierpath/tierpath/BoundsMemberPinLaw", name := "fill", desc := "([IIII)V" } : Jvm.MethodName) method_3_code (4 : Nat) (Option.none : Option Jvm.ClassFile.FieldType), Jvm.Cond.code ({ cls := "com/example/tierpath/tierpath/Bounds", name := "<init>", desc := "(I[I[I[I[I[I[I[J[J)V" } : Jvm.MethodName) prog_19_method_1_code (11 : Nat) (Option.none : Option Jvm.ClassFile.FieldType), Jvm.Cond.code ({ cls := "java/lang/Object", name := "<init>", desc := "()V" } : Jvm.MethodName) object_method_1_code (1 : Nat) (Option.none : Option Jvm.ClassFile.FieldType), Jvm.Cond.code ({ cls := "java/util/Arrays", name := "fill", desc := "([IIII)V" } : Jvm.MethodName) jdk_65_method_104_code (5 : Nat) (Option.none : Option Jvm.ClassFile.FieldType), Jvm.Cond.code ({ cls := "java/util/Arrays", name := "rangeCheck", desc := "(III)V" } : Jvm.MethodName) jdk_65_method_30_code (3 : Nat) (Option.none : Option Jvm.ClassFile.FieldType), Jvm.Cond.code ({ cls := "com/example/tierpath/tierpath/Bounds", name := "member", desc := "(II)I" } : Jvm.MethodName) prog_19_method_14_code (3 : Nat) (Option.some Jvm.ClassFile.FieldType.int)]
set_option maxRecDepth 65536 in
theorem codes_eq : words1.filter isCode = codes1 := rfl
theorem w_codes : ∀ c ∈ words1.filter isCode, c.before args0 about1 = true := by
  rw [codes_eq]
  intro c hc
  simp only [codes1, List.mem_cons, List.not_mem_nil, or_false] at hc
  rcases hc with rfl | rfl | rfl | rfl | rfl | rfl | rfl
  · exact w_c0
  · exact w_c1
  · exact w_c2
  · exact w_c3
  · exact w_c4
  · exact w_c5
  · exact w_c6
set_option maxRecDepth 65536 in
theorem w_t1 : (words1.take 24).all (fun c => isCode c || c.before args0 about1) = true := by decide +kernel
set_option maxRecDepth 65536 in
theorem w_t2 : (words1.drop 24).all (fun c => isCode c || c.before args0 about1) = true := by decide +kernel
theorem w_tables : (allAtoms (Jvm.Cond.code x code maxLocals ret :: tables_1)).before args0 about1 = true := by
  rw [allAtoms_all]
  show words1.all (fun c => c.before args0 about1) = true
  refine all_split ?_ w_codes
  rw [← List.take_append_drop 24 words1, List.all_append, w_t1, w_t2]
  rfl
set_option maxRecDepth 65536 in
theorem w_case : (Jvm.Cond.and given_1 narrow_1).before args0 about1 = true := by decide +kernel
theorem w_applies : (headSpec (Jvm.Cond.code x code maxLocals ret :: tables_1) room_1).applies x e0.platform about1 = true :=
  (Spec.applies_iff w_frames).mpr ⟨w_running, w_runnable, w_alone, w_named, w_hears, w_ripe, w_room, w_tables⟩
theorem atStart : AtStart classFile x code maxLocals ret World_1 tables_1 room_1 Calls_1 rest_1 Pre_1 launch0 p0 e0 about1 theMethod args0 below0 :=
  ⟨lists_1, trivial, launch0.admits_env _ _ _, launch0.least_env, fairChoices_fair.cas, fairChoices_fair.clock, w_frames, w_args, w_heap, w_applies, trivial, trivial, w_case⟩
end start1
theorem witness_1 : WitnessClaimed_1 := ⟨start1.p0, start1.e0, start1.about1, start1.theMethod, start1.args0, start1.below0, start1.atStart⟩
end Jvm.Pilot.@@N@@
