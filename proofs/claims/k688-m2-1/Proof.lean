import JvmDerived
import JvmDerived.Pilot.@@N@@Statement
import JvmDerived.Pilot.@@N@@Code
set_option linter.unusedVariables false
set_option linter.unusedSimpArgs false
namespace Jvm.Pilot.@@N@@
open Jvm Jvm.ClassFile Sem Op Lib Jvm.Free Jvm.Stand Jvm.LawKit Jvm.RoadKit Bundle Jvm.Pilot.@@N@@.Jvm.D
section OwnLayer
/-- the run from A ends, and P holds of how it ends -/
def own_Ends (tb : Tables) (e : Env) (below : List Frame) (P : Outcome → State → Prop) (A : State) : Prop :=
  ∃ s₂ o, Steps tb e below A s₂ ∧ s₂.status = .running ∧ Ended s₂ below o ∧ P o s₂
theorem own_st {tb : Tables} {e : Env} {below : List Frame} {P : Outcome → State → Prop} {A B : State} (h : ∀ t, Steps tb e below B t → Steps tb e below A t) (k : own_Ends tb e below P B) : own_Ends tb e below P A := by
  obtain ⟨s2, o, h1, h2⟩ := k
  exact ⟨s2, o, h _ h1, h2⟩
/-- where the walk stands: the state T, its heap h, k cells and n slots made, nothing below n0 written -/
def own_S (p : Program) (l : Launch) (e : Env) (R : Room) (s : State) (m : MethodId) (args : Array Value) (below : List Frame) (meth : Method) (c : Code) (n0 : Nat) (T : State) (h : Heap) (k n : Nat) : Prop :=
  ∃ locs, Stand p l e R s m args below meth c T locs k n ∧ T.heap = h ∧ Fr n0 locs
def own_P (s : State) (n0 : Nat) (Qf : Option Value → Heap → Prop) (C S : Nat) (o : Outcome) (U' : State) : Prop := ∃ v L, o = .returned v ∧ (Fr n0 L ∧ Qf v U'.heap) ∧ FrameEnd s o U' L C S
/-- a body's contract: called with 'as' at the heap h0 it returns, and Qf holds of what it returns and of the heap -/
def own_Con (l : Launch) (Z : State) (y : MethodName) (bytes : ByteArray) (maxL : Nat) (ret : Option FieldType) (ws : List Jvm.Cond) (rm : Room) (as' : Array Value) (h0 : Heap) (n0 : Nat) (Qf : Option Value → Heap → Prop) : Prop :=
  MetFree l y (head1 (Jvm.Cond.code y bytes maxL ret :: ws) rm) (fun a U => a = as' ∧ Z.Warmed39 U.vm ∧ U.heap = h0) (fun _ _ _ _ _ => True) (fun _ U o U' => ∃ v L, o = .returned v ∧ (Fr n0 L ∧ Qf v U'.heap) ∧ FrameEnd U o U' L rm.cells rm.slots)
variable {p : Program} {l : Launch} {e : Env} {R : Room} {s : State} {m : MethodId} {args : Array Value} {below : List Frame} {meth : Method} {c : Code} {n0 : Nat} {T : State} {h : Heap} {k n : Nat} {Z : State} {a0 : Array Value} {P : Outcome → State → Prop}
theorem own_here (Y : own_S p l e R s m args below meth c n0 T h k n) : At T m c below := by
  obtain ⟨_, X, -⟩ := Y
  exact X.here
theorem own_body {y : MethodName} {bytes : ByteArray} {maxL : Nat} {ret : Option FieldType} {ws : List Jvm.Cond} {rm : Room} {as' : Array Value} {h0 : Heap} {Qf : Option Value → Heap → Prop} (hpn : plainFor y = true)
    (hbody : ∀ (p : Program) (e : Env) (s : State) (m : MethodId) (below : List Frame) (meth : Method) (c : Code) (T : State), p.tables.exec = Jvm.exec → Z.Warmed39 s.vm → c.code = bytes → c.maxLocals = maxL → s.vm.findClass y.cls = some m.cls → meth.name = y.name → meth.sig.returnType = ret → meth.locks = false →
      own_S p l e rm s m as' below meth c n0 T h0 0 0 → own_Ends p.tables e below (own_P s n0 Qf rm.cells rm.slots) (T.setTop (entryFrame m as' maxL))) : own_Con l Z y bytes maxL ret ws rm as' h0 n0 Qf := by
  refine MetFree.of_bodySF hpn hisR ?_
  intro p e s m args below meth c s₁ Bd hml0 hP hK
  obtain ⟨rfl, hZ, hh⟩ := hP
  have hown : s.vm.findClass y.cls = some m.cls := findClass_of_methodNamed Bd.named
  have hnm := (name_of_methodNamed Bd.named Bd.method).1
  exact hbody p e s m below meth c s₁ Bd.exec hZ Bd.bytes hml0 hown hnm Bd.returns Bd.notSynchronized ⟨[], Stand.of_body Bd, by rw [← hh, Bd.state]; rfl, Fr.nil n0⟩
theorem own_leave (Y : own_S p l e R s m args below meth c n0 T h k n) (hlk : meth.locks = false) {v : Option Value} (hv : meth.sig.returnType = none → v = none) {Qf : Option Value → Heap → Prop} {C S : Nat} (hk : k ≤ C) (hn : n ≤ S) (hQ : Qf v h) {A : State}
    (st : ∀ (locs : List Loc) (fs : List Frame), Stand p l e R s m args below meth c T locs k n → (∀ (f : JFrame) (acts : List Action), f.method = m → f.locked = none → f.entered = [] → (doReturn e (T.setTop f) acts v).1 = T.setFrames fs) → Steps p.tables e below A (T.setFrames fs)) : own_Ends p.tables e below (own_P s n0 Qf C S) A := by
  obtain ⟨locs, X, e1, N⟩ := Y
  obtain ⟨fs, hr, hrun, hended, hW, hsame⟩ := X.leave hv hlk
  refine ⟨_, _, st locs fs X hr, hrun, hended, v, locs, rfl, ⟨N, ?_⟩, ⟨_, rfl⟩, hW, hsame.mono hk hn⟩
  show Qf v T.heap
  rw [e1]; exact hQ
theorem own_ret (Y : own_S p l e R s m args below meth c n0 T h k n) (hx : p.tables.exec = Jvm.exec) (hlk : meth.locks = false) {pc : Nat} {Ls : Array Slot} {w : Value} {t : FieldType} {i : Instr} {rest : List Value} (hret : meth.sig.returnType = some t) (hd : decode c.code pc = .ok (i, 1)) (hn : narrow t w = w)
    (hi : (i = .ireturn ∧ (t = .int ∨ t = .boolean ∨ t = .byte ∨ t = .char ∨ t = .short) ∧ ∃ z, w = .int z) ∨ (i = .lreturn ∧ t = .long ∧ ∃ z, w = .long z) ∨ (i = .dreturn ∧ t = .double ∧ ∃ z, w = .double z) ∨ (i = .freturn ∧ t = .float ∧ ∃ z, w = .float z) ∨ (i = .areturn ∧ t.isReference = true ∧ w.isRef = true))
    {Qf : Option Value → Heap → Prop} {C S : Nat} (hk : k ≤ C) (hs : n ≤ S) (hQ : Qf (some w) h) : own_Ends p.tables e below (own_P s n0 Qf C S) (T.setTop (mkF m pc Ls (w :: rest))) :=
  own_leave Y hlk (fun q => by rw [hret] at q; cases q) hk hs hQ fun _ _ X hr => retOut X hx hret hn hi hd hr
theorem own_retI (Y : own_S p l e R s m args below meth c n0 T h k n) (hx : p.tables.exec = Jvm.exec) (hlk : meth.locks = false) {pc : Nat} {Ls : Array Slot} {z : Int32} {rest : List Value} (hret : meth.sig.returnType = some .int) (hd : decode c.code pc = .ok (.ireturn, 1))
    {Qf : Option Value → Heap → Prop} {C S : Nat} (hk : k ≤ C) (hs : n ≤ S) (hQ : Qf (some (.int z)) h) : own_Ends p.tables e below (own_P s n0 Qf C S) (T.setTop (mkF m pc Ls (.int z :: rest))) :=
  own_ret Y hx hlk hret hd rfl (Or.inl ⟨rfl, Or.inl rfl, _, rfl⟩) hk hs hQ
theorem own_retN (Y : own_S p l e R s m args below meth c n0 T h k n) (hx : p.tables.exec = Jvm.exec) (hlk : meth.locks = false) {pc : Nat} {Ls : Array Slot} {z : Int32} {t : FieldType} {rest : List Value} (hret : meth.sig.returnType = some t) (ht : t = .boolean ∨ t = .byte ∨ t = .char ∨ t = .short) (hd : decode c.code pc = .ok (.ireturn, 1))
    {Qf : Option Value → Heap → Prop} {C S : Nat} (hk : k ≤ C) (hs : n ≤ S) (hQ : Qf (some (.int (nar t z))) h) : own_Ends p.tables e below (own_P s n0 Qf C S) (T.setTop (mkF m pc Ls (.int z :: rest))) :=
  own_leave Y hlk (fun q => by rw [hret] at q; cases q) hk hs hQ fun _ _ X hr => retN X hx hret ht hd hr
theorem own_retJ (Y : own_S p l e R s m args below meth c n0 T h k n) (hx : p.tables.exec = Jvm.exec) (hlk : meth.locks = false) {pc : Nat} {Ls : Array Slot} {z : Int64} {rest : List Value} (hret : meth.sig.returnType = some .long) (hd : decode c.code pc = .ok (.lreturn, 1))
    {Qf : Option Value → Heap → Prop} {C S : Nat} (hk : k ≤ C) (hs : n ≤ S) (hQ : Qf (some (.long z)) h) : own_Ends p.tables e below (own_P s n0 Qf C S) (T.setTop (mkF m pc Ls (.long z :: rest))) :=
  own_ret Y hx hlk hret hd rfl (Or.inr (Or.inl ⟨rfl, rfl, _, rfl⟩)) hk hs hQ
theorem own_retA (Y : own_S p l e R s m args below meth c n0 T h k n) (hx : p.tables.exec = Jvm.exec) (hlk : meth.locks = false) {pc : Nat} {Ls : Array Slot} {w : Value} {t : FieldType} {rest : List Value} (hret : meth.sig.returnType = some t) (ht : t.isReference = true) (hw : w.isRef = true) (hn : narrow t w = w) (hd : decode c.code pc = .ok (.areturn, 1))
    {Qf : Option Value → Heap → Prop} {C S : Nat} (hk : k ≤ C) (hs : n ≤ S) (hQ : Qf (some w) h) : own_Ends p.tables e below (own_P s n0 Qf C S) (T.setTop (mkF m pc Ls (w :: rest))) :=
  own_ret Y hx hlk hret hd hn (Or.inr (Or.inr (Or.inr (Or.inr ⟨rfl, ht, hw⟩)))) hk hs hQ
theorem own_retV (Y : own_S p l e R s m args below meth c n0 T h k n) (hx : p.tables.exec = Jvm.exec) (hlk : meth.locks = false) {pc : Nat} {Ls : Array Slot} (hret : meth.sig.returnType = none) (hd : decode c.code pc = .ok (.return_, 1))
    {Qf : Option Value → Heap → Prop} {C S : Nat} (hk : k ≤ C) (hs : n ≤ S) (hQ : Qf none h) : own_Ends p.tables e below (own_P s n0 Qf C S) (T.setTop (mkF m pc Ls [])) :=
  own_leave Y hlk (fun _ => rfl) hk hs hQ fun _ _ X hr => X.returnOut hx hret hd hr
/-! fields -/
theorem own_getF (Y : own_S p l e R s m args below meth c n0 T h k n) (hx : p.tables.exec = Jvm.exec) (hZ : Z.Warmed39 s.vm) {own R0 O f d host : String} {index : Nat} (hown : s.vm.findClass own = some m.cls) (w : (Jvm.Cond.fieldLink own index R0 f d).before a0 Z = true ∨ (Jvm.Cond.fieldLinkNest own index R0 f d host).before a0 Z = true) (via : Via Z R0 O f d) {a : Addr} {v : Value} (F : Fld Z h a O f d v)
    {g : JFrame} (hg : g.method = m) {rest : List Value} (hs : g.stack = .ref a :: rest) (hd : decode c.code g.pc = .ok (.getfield index, 3)) (K : ∀ T', own_S p l e R s m args below meth c n0 T' h k n → own_Ends p.tables e below P (T'.setTop { g with pc := g.pc + 3, stack := v :: rest })) : own_Ends p.tables e below P (T.setTop g) := by
  obtain ⟨locs, X, e1, N⟩ := Y
  obtain ⟨T', X', e', st⟩ := getF X hx hZ hown w via e1 F hg hs hd
  exact own_st st (K T' ⟨locs, X', e', N⟩)
theorem own_putF (Y : own_S p l e R s m args below meth c n0 T h k n) (hx : p.tables.exec = Jvm.exec) (hZ : Z.Warmed39 s.vm) {own R0 O f d host C : String} {index kk : Nat} {ty : FieldType} (hown : s.vm.findClass own = some m.cls) (w : (Jvm.Cond.fieldLink own index R0 f d).before a0 Z = true ∨ (Jvm.Cond.fieldLinkNest own index R0 f d host).before a0 Z = true) (via : Via Z R0 O f d) {a : Addr} {v old : Value} (F : Fld Z h a O f d old) (E : Exa Z h a C)
    (L : (Jvm.Cond.lays C O f d).before a0 Z = true ∨ ((Jvm.Cond.laysFinal C O f d).before a0 Z = true ∧ own = O ∧ meth.name = "<init>")) (wi : (Jvm.Cond.instantiable C kk).before a0 Z = true) (ha : n0 ≤ a) (hty : parseFieldDescriptor d = some ty) (hn : narrow ty v = v) (hf : fits ty v = true) {g : JFrame} (hg : g.method = m) {rest : List Value} (hs : g.stack = v :: .ref a :: rest) (hd : decode c.code g.pc = .ok (.putfield index, 3))
    (K : ∀ T' h', own_S p l e R s m args below meth c n0 T' h' k n → Wr h h' a (Jvm.RoadKit.slotOf Z O f d) v → Fld Z h' a O f d v → own_Ends p.tables e below P (T'.setTop { g with pc := g.pc + 3, stack := rest })) : own_Ends p.tables e below P (T.setTop g) := by
  obtain ⟨locs, X, e1, N⟩ := Y
  obtain ⟨T', h', X', e', W, st⟩ := putF X hx hZ hown w via e1 F E L wi hty hn hf hg hs hd
  exact own_st st (K T' h' ⟨_, X', e', Fr.snoc X' N ha⟩ W (F.same W))
theorem own_putFN (Y : own_S p l e R s m args below meth c n0 T h k n) (hx : p.tables.exec = Jvm.exec) (hZ : Z.Warmed39 s.vm) {own R0 O f d C : String} {index kk : Nat} {ty : FieldType} (hown : s.vm.findClass own = some m.cls) (w : (Jvm.Cond.fieldLink own index R0 f d).before a0 Z = true) (via : Via Z R0 O f d) {a : Addr} {v v' old : Value} (F : Fld Z h a O f d old) (E : Exa Z h a C)
    (L : (Jvm.Cond.lays C O f d).before a0 Z = true ∨ ((Jvm.Cond.laysFinal C O f d).before a0 Z = true ∧ own = O ∧ meth.name = "<init>")) (wi : (Jvm.Cond.instantiable C kk).before a0 Z = true) (ha : n0 ≤ a) (hty : parseFieldDescriptor d = some ty) (hn : narrow ty v = v') (hf : fits ty v' = true) {g : JFrame} (hg : g.method = m) {rest : List Value} (hs : g.stack = v :: .ref a :: rest) (hd : decode c.code g.pc = .ok (.putfield index, 3))
    (K : ∀ T' h', own_S p l e R s m args below meth c n0 T' h' k n → Wr h h' a (Jvm.RoadKit.slotOf Z O f d) v' → Fld Z h' a O f d v' → own_Ends p.tables e below P (T'.setTop { g with pc := g.pc + 3, stack := rest })) : own_Ends p.tables e below P (T.setTop g) := by
  obtain ⟨locs, X, e1, N⟩ := Y
  obtain ⟨T', h', X', e', W, st⟩ := putFN X hx hZ hown w via e1 F E L wi hty hn hf hg hs hd
  exact own_st st (K T' h' ⟨_, X', e', Fr.snoc X' N ha⟩ W (F.same W))
theorem own_getS (Y : own_S p l e R s m args below meth c n0 T h k n) (hx : p.tables.exec = Jvm.exec) (hZ : Z.Warmed39 s.vm) {own R0 O f d host : String} {index : Nat} (hown : s.vm.findClass own = some m.cls) (w : (Jvm.Cond.fieldLink own index R0 f d).before a0 Z = true ∨ (Jvm.Cond.fieldLinkNest own index R0 f d host).before a0 Z = true) (via : Via Z R0 O f d) {v : Value} (F : Sta Z h O f d v)
    {g : JFrame} (hg : g.method = m) (hd : decode c.code g.pc = .ok (.getstatic index, 3)) (K : ∀ T', own_S p l e R s m args below meth c n0 T' h k n → own_Ends p.tables e below P (T'.setTop { g with pc := g.pc + 3, stack := v :: g.stack })) : own_Ends p.tables e below P (T.setTop g) := by
  obtain ⟨locs, X, e1, N⟩ := Y
  obtain ⟨T', X', e', st⟩ := getS2 X hx hZ hown w via e1 F hg hd
  exact own_st st (K T' ⟨locs, X', e', N⟩)
/-! new objects -/
theorem own_new (Y : own_S p l e R s m args below meth c n0 T h k n) (hx : p.tables.exec = Jvm.exec) (hZ : Z.Warmed39 s.vm) {own C : String} {index nn : Nat} (hown : s.vm.findClass own = some m.cls) (w : (Jvm.Cond.classLink own index C).before a0 Z = true) (wi : (Jvm.Cond.instantiable C nn).before a0 Z = true) (wz : (Jvm.Cond.initialized C).before a0 Z = true)
    {g : JFrame} (hg : g.method = m) (hd : decode c.code g.pc = .ok (.new index, 3)) (hc : k + 1 ≤ R.cells) (hl : n + nn ≤ R.slots)
    (K : ∀ T' h' b, b = h.size → own_S p l e R s m args below meth c n0 T' h' (k + 1) (n + nn) → Ext h h' → Exa Z h' b C → (∀ (O nm d : String) (ty : FieldType), Laid Z a0 C O nm d → parseFieldDescriptor d = some ty → Fld Z h' b O nm d (defaultValue ty)) →
      own_Ends p.tables e below P (T'.setTop { g with pc := g.pc + 3, stack := .ref b :: g.stack })) : own_Ends p.tables e below P (T.setTop g) := by
  obtain ⟨locs, X, e1, N⟩ := Y
  obtain ⟨T', h', X', e', E, A, D, -, st⟩ := newO X hx hZ hown w wi wz e1 hg hd hc hl
  exact own_st st (K T' h' _ rfl ⟨locs, X', e', N⟩ E A (fun _ _ _ _ q r => D q r))
theorem own_initO (Y : own_S p l e R s m args below meth c n0 T h k n) (hx : p.tables.exec = Jvm.exec) (hZ : Z.Warmed39 s.vm) {own : String} {idx : Nat} (hown : s.vm.findClass own = some m.cls) (w1 : (Jvm.Cond.methodLink own idx Lib.objectInit).before a0 Z = true) (w2 : (Jvm.Cond.instanceMethod Lib.objectInit).before a0 Z = true) (w3 : (Jvm.Cond.code Lib.objectInit ⟨#[0xb1]⟩ 1 none).before a0 Z = true)
    {g : JFrame} (hg : g.method = m) (hsize : g.locals.size = c.maxLocals) {a : Addr} {rest : List Value} (hs : g.stack = .ref a :: rest) (hd : decode c.code g.pc = .ok (.invokespecial idx, 3)) (hf : 1 ≤ R.frames) {W : Nat} (hW : 2 * g.monitorRoom + (rest.map fun v => v.category).sum ≤ W) (hl : W + 12 ≤ R.locals)
    (K : ∀ T', own_S p l e R s m args below meth c n0 T' h k n → own_Ends p.tables e below P (T'.setTop { g with pc := g.pc + 3, stack := rest })) : own_Ends p.tables e below P (T.setTop g) := by
  obtain ⟨locs, X, e1, N⟩ := Y
  obtain ⟨T', X', e', st⟩ := initO X hx hZ hown w1 w2 w3 e1 hg hsize hs hd hf hW hl
  exact own_st st (K T' ⟨locs, X', e', N⟩)
/-! arrays: the cell's slots are the list vs -/
def own_A (Z : State) (h : Heap) (a : Addr) (ty : FieldType) (vs : List Value) : Prop := ∃ c : Cell, Arr Z h a c ty ∧ c.slots.toList = vs ∧ vs.length < 2 ^ 31
theorem own_A.lt {a : Addr} {ty : FieldType} {vs : List Value} (A : own_A Z h a ty vs) : a < h.size := by obtain ⟨c, A, -⟩ := A; exact A.lt
theorem own_A.ext {h' : Heap} {a : Addr} {ty : FieldType} {vs : List Value} (A : own_A Z h a ty vs) (E : Ext h h') : own_A Z h' a ty vs := by obtain ⟨c, A, r⟩ := A; exact ⟨c, A.ext E, r⟩
theorem own_A.other {h' : Heap} {a b : Addr} {sl : Nat} {v : Value} {ty : FieldType} {vs : List Value} (A : own_A Z h a ty vs) (W : Wr h h' b sl v) (q : a ≠ b) : own_A Z h' a ty vs := by obtain ⟨c, A, r⟩ := A; exact ⟨c, A.other W q, r⟩
theorem own_A.keep {h' : Heap} {a : Addr} {ws : List Addr} {ty : FieldType} {vs : List Value} (A : own_A Z h a ty vs) (K : Keep h h' ws) (q : a ∉ ws) : own_A Z h' a ty vs := by obtain ⟨c, A, r⟩ := A; exact ⟨c, ⟨K.2.1 a c A.1 q, A.2⟩, r⟩
theorem own_sz {c : Cell} {vs : List Value} (q : c.slots.toList = vs) : c.slots.size = vs.length := by rw [← q]; simp
theorem own_in {c : Cell} {vs : List Value} {j : Int32} {i : Nat} (q : c.slots.toList = vs) (hj : ¬ j < 0) (hi : j.toNatClampNeg = i) (hl : i < vs.length) : ¬ (j < 0 ∨ c.slots.size ≤ j.toNatClampNeg) := by
  rw [own_sz q, hi]; intro z; rcases z with z | z
  · exact hj z
  · omega
theorem own_get {c : Cell} {vs : List Value} {j : Int32} {i : Nat} {v : Value} (q : c.slots.toList = vs) (hi : j.toNatClampNeg = i) (hv : vs[i]? = some v) : c.slots[j.toNatClampNeg]? = some v := by
  rw [hi, ← Array.getElem?_toList, q, hv]
theorem own_A.set {h' : Heap} {a : Addr} {ty : FieldType} {vs : List Value} {cl : Cell} {i : Nat} {v : Value} (A : Arr Z h a cl ty) (q : cl.slots.toList = vs) (hl : vs.length < 2 ^ 31) (W : Wr h h' a i v) : own_A Z h' a ty (vs.set i v) :=
  ⟨_, A.same W, by simp [Cell.setSlot, q], by simpa using hl⟩
theorem own_newP (Y : own_S p l e R s m args below meth c n0 T h k n) (hx : p.tables.exec = Jvm.exec) (hZ : Z.Warmed39 s.vm) {aty : ArrayType} (w : (Jvm.Cond.arrayClass (newarray.typeOf aty)).before a0 Z = true) {g : JFrame} (hg : g.method = m) (hd : decode c.code g.pc = .ok (.newarray aty, 2)) {z : Int32} {rest : List Value} (hs : g.stack = .int z :: rest)
    (hz : ¬ z < 0) {nz cap : Nat} (hn : z.toNatClampNeg = nz) (hcap : nz ≤ cap) (hb : cap * 8 ≤ 536870912) (hc : k + 1 ≤ R.cells) (hl : n + cap ≤ R.slots) {ty : FieldType} (hty : newarray.typeOf aty = ty)
    (K : ∀ T' h' b, b = h.size → own_S p l e R s m args below meth c n0 T' h' (k + 1) (n + cap) → Ext h h' → own_A Z h' b ty (List.replicate nz (defaultValue ty)) → own_Ends p.tables e below P (T'.setTop { g with pc := g.pc + 2, stack := .ref b :: rest })) : own_Ends p.tables e below P (T.setTop g) := by
  obtain ⟨locs, X, e1, N⟩ := Y
  subst hty
  obtain ⟨T', h', cA, X', e', E, A, st⟩ := newP X hx hZ w e1 hg hd hs hz (cap := cap) (by rw [hn]; exact hcap) hb hc hl
  refine own_st st (K T' h' _ rfl ⟨locs, X', e', N⟩ E ⟨_, A, ?_, ?_⟩)
  · simp [newA, hn]
  · simp; omega
theorem own_newR (Y : own_S p l e R s m args below meth c n0 T h k n) (hx : p.tables.exec = Jvm.exec) (hZ : Z.Warmed39 s.vm) {own C : String} {index : Nat} (hown : s.vm.findClass own = some m.cls) (w1 : (Jvm.Cond.classLink own index C).before a0 Z = true) (w2 : (Jvm.Cond.arrayOver (.object C)).before a0 Z = true) {g : JFrame} (hg : g.method = m) (hd : decode c.code g.pc = .ok (.anewarray index, 3)) {z : Int32} {rest : List Value} (hs : g.stack = .int z :: rest)
    (hz : ¬ z < 0) {nz cap : Nat} (hn : z.toNatClampNeg = nz) (hcap : nz ≤ cap) (hb : cap * 8 ≤ 536870912) (hc : k + 1 ≤ R.cells) (hl : n + cap ≤ R.slots)
    (K : ∀ T' h' b, b = h.size → own_S p l e R s m args below meth c n0 T' h' (k + 1) (n + cap) → Ext h h' → own_A Z h' b (.object C) (List.replicate nz .null) → own_Ends p.tables e below P (T'.setTop { g with pc := g.pc + 3, stack := .ref b :: rest })) : own_Ends p.tables e below P (T.setTop g) := by
  obtain ⟨locs, X, e1, N⟩ := Y
  obtain ⟨T', h', cA, X', e', E, A, O, st⟩ := newR X hx hZ hown w1 w2 e1 hg hd hs hz (cap := cap) (by rw [hn]; exact hcap) hb hc hl
  refine own_st st (K T' h' _ rfl ⟨locs, X', e', N⟩ E ⟨_, A, ?_, ?_⟩)
  · simp [newA, hn, defaultValue]
  · simp; omega
theorem own_mono (Y : own_S p l e R s m args below meth c n0 T h k n) {k' n' : Nat} (hk : k ≤ k') (hn : n ≤ n') : own_S p l e R s m args below meth c n0 T h k' n' := by
  obtain ⟨locs, X, r⟩ := Y
  exact ⟨locs, { X with same := X.same.mono hk hn }, r⟩
theorem own_stI (Y : own_S p l e R s m args below meth c n0 T h k n) (hx : p.tables.exec = Jvm.exec) (hZ : Z.Warmed39 s.vm) {a : Addr} {vs : List Value} (A : own_A Z h a .int vs) (ha : n0 ≤ a) {j x : Int32} {i : Nat} (hj : ¬ j < 0) (hi : j.toNatClampNeg = i) (hl : i < vs.length) {g : JFrame} (hg : g.method = m) {rest : List Value} (hs : g.stack = .int x :: .int j :: .ref a :: rest) (hd : decode c.code g.pc = .ok (.iastore, 1))
    (K : ∀ T' h', own_S p l e R s m args below meth c n0 T' h' k n → Wr h h' a i (.int x) → own_A Z h' a .int (vs.set i (.int x)) → own_Ends p.tables e below P (T'.setTop { g with pc := g.pc + 1, stack := rest })) : own_Ends p.tables e below P (T.setTop g) := by
  obtain ⟨locs, X, e1, N⟩ := Y
  obtain ⟨cl, A, q, r⟩ := A
  obtain ⟨T', h', X', e', W, st⟩ := stI X hx hZ e1 A (own_in q hj hi hl) hg hs hd
  have W' := W; rw [hi] at W'
  exact own_st st (K T' h' ⟨_, X', e', Fr.snoc X' N ha⟩ W' (own_A.set A q r W'))
theorem own_stJ (Y : own_S p l e R s m args below meth c n0 T h k n) (hx : p.tables.exec = Jvm.exec) (hZ : Z.Warmed39 s.vm) {a : Addr} {vs : List Value} (A : own_A Z h a .long vs) (ha : n0 ≤ a) {j : Int32} {x : Int64} {i : Nat} (hj : ¬ j < 0) (hi : j.toNatClampNeg = i) (hl : i < vs.length) {g : JFrame} (hg : g.method = m) {rest : List Value} (hs : g.stack = .long x :: .int j :: .ref a :: rest) (hd : decode c.code g.pc = .ok (.lastore, 1))
    (K : ∀ T' h', own_S p l e R s m args below meth c n0 T' h' k n → Wr h h' a i (.long x) → own_A Z h' a .long (vs.set i (.long x)) → own_Ends p.tables e below P (T'.setTop { g with pc := g.pc + 1, stack := rest })) : own_Ends p.tables e below P (T.setTop g) := by
  obtain ⟨locs, X, e1, N⟩ := Y
  obtain ⟨cl, A, q, r⟩ := A
  obtain ⟨T', h', X', e', W, st⟩ := stJ X hx hZ e1 A (own_in q hj hi hl) hg hs hd
  have W' := W; rw [hi] at W'
  exact own_st st (K T' h' ⟨_, X', e', Fr.snoc X' N ha⟩ W' (own_A.set A q r W'))
theorem own_stB (Y : own_S p l e R s m args below meth c n0 T h k n) (hx : p.tables.exec = Jvm.exec) (hZ : Z.Warmed39 s.vm) {a : Addr} {vs : List Value} (A : own_A Z h a .byte vs) (ha : n0 ≤ a) {j x : Int32} {i : Nat} (hj : ¬ j < 0) (hi : j.toNatClampNeg = i) (hl : i < vs.length) {g : JFrame} (hg : g.method = m) {rest : List Value} (hs : g.stack = .int x :: .int j :: .ref a :: rest) (hd : decode c.code g.pc = .ok (.bastore, 1))
    (K : ∀ T' h', own_S p l e R s m args below meth c n0 T' h' k n → Wr h h' a i (.int x.toInt8.toInt32) → own_A Z h' a .byte (vs.set i (.int x.toInt8.toInt32)) → own_Ends p.tables e below P (T'.setTop { g with pc := g.pc + 1, stack := rest })) : own_Ends p.tables e below P (T.setTop g) := by
  obtain ⟨locs, X, e1, N⟩ := Y
  obtain ⟨cl, A, q, r⟩ := A
  obtain ⟨T', h', X', e', W, st⟩ := stB X hx hZ e1 A (own_in q hj hi hl) hg hs hd
  have W' := W; rw [hi] at W'
  exact own_st st (K T' h' ⟨_, X', e', Fr.snoc X' N ha⟩ W' (own_A.set A q r W'))
theorem own_stC (Y : own_S p l e R s m args below meth c n0 T h k n) (hx : p.tables.exec = Jvm.exec) (hZ : Z.Warmed39 s.vm) {a : Addr} {vs : List Value} (A : own_A Z h a .char vs) (ha : n0 ≤ a) {j x : Int32} {i : Nat} (hj : ¬ j < 0) (hi : j.toNatClampNeg = i) (hl : i < vs.length) {g : JFrame} (hg : g.method = m) {rest : List Value} (hs : g.stack = .int x :: .int j :: .ref a :: rest) (hd : decode c.code g.pc = .ok (.castore, 1))
    (K : ∀ T' h', own_S p l e R s m args below meth c n0 T' h' k n → Wr h h' a i (.int x.toUInt32.toUInt16.toUInt32.toInt32) → own_A Z h' a .char (vs.set i (.int x.toUInt32.toUInt16.toUInt32.toInt32)) → own_Ends p.tables e below P (T'.setTop { g with pc := g.pc + 1, stack := rest })) : own_Ends p.tables e below P (T.setTop g) := by
  obtain ⟨locs, X, e1, N⟩ := Y
  obtain ⟨cl, A, q, r⟩ := A
  obtain ⟨T', h', X', e', W, st⟩ := stC X hx hZ e1 A (own_in q hj hi hl) hg hs hd
  have W' := W; rw [hi] at W'
  exact own_st st (K T' h' ⟨_, X', e', Fr.snoc X' N ha⟩ W' (own_A.set A q r W'))
theorem own_len (Y : own_S p l e R s m args below meth c n0 T h k n) (hx : p.tables.exec = Jvm.exec) (hZ : Z.Warmed39 s.vm) {a : Addr} {ty : FieldType} {vs : List Value} (A : own_A Z h a ty vs) {z : Int32} (hz : vs.length.toInt32 = z) {g : JFrame} (hg : g.method = m) {rest : List Value} (hs : g.stack = .ref a :: rest) (hd : decode c.code g.pc = .ok (.arraylength, 1))
    (K : own_Ends p.tables e below P (T.setTop { g with pc := g.pc + 1, stack := .int z :: rest })) : own_Ends p.tables e below P (T.setTop g) := by
  obtain ⟨locs, X, e1, N⟩ := Y
  obtain ⟨cl, A, q, r⟩ := A
  refine own_st (fun t => X.arraylength hx (by rw [e1]; exact A.1) (State.isArrayOf_alike hZ.alike A.2.1) hg hs hd t) ?_
  rw [own_sz q, hz]; exact K
theorem own_ldI (Y : own_S p l e R s m args below meth c n0 T h k n) (hx : p.tables.exec = Jvm.exec) (hZ : Z.Warmed39 s.vm) {a : Addr} {vs : List Value} (A : own_A Z h a .int vs) {j : Int32} {i : Nat} (hj : ¬ j < 0) (hi : j.toNatClampNeg = i) (hl : i < vs.length) {v : Value} (hv : vs[i]? = some v) {g : JFrame} (hg : g.method = m) {rest : List Value} (hs : g.stack = .int j :: .ref a :: rest) (hd : decode c.code g.pc = .ok (.iaload, 1))
    (K : own_Ends p.tables e below P (T.setTop { g with pc := g.pc + 1, stack := v :: rest })) : own_Ends p.tables e below P (T.setTop g) := by
  obtain ⟨locs, X, e1, N⟩ := Y
  obtain ⟨cl, A, q, r⟩ := A
  exact own_st (fun t => X.iaload hx (by rw [e1]; exact A.1) (State.isArrayOf_alike hZ.alike A.2.1) A.2.2 (own_in q hj hi hl) (own_get q hi hv) hg hs hd t) K
theorem own_ldB (Y : own_S p l e R s m args below meth c n0 T h k n) (hx : p.tables.exec = Jvm.exec) (hZ : Z.Warmed39 s.vm) {a : Addr} {vs : List Value} (A : own_A Z h a .byte vs) {j : Int32} {i : Nat} (hj : ¬ j < 0) (hi : j.toNatClampNeg = i) (hl : i < vs.length) {v : Value} (hv : vs[i]? = some v) {g : JFrame} (hg : g.method = m) {rest : List Value} (hs : g.stack = .int j :: .ref a :: rest) (hd : decode c.code g.pc = .ok (.baload, 1))
    (K : own_Ends p.tables e below P (T.setTop { g with pc := g.pc + 1, stack := v :: rest })) : own_Ends p.tables e below P (T.setTop g) := by
  obtain ⟨locs, X, e1, N⟩ := Y
  obtain ⟨cl, A, q, r⟩ := A
  exact own_st (fun t => X.baloadBytes hx (by rw [e1]; exact A.1) (State.isArrayOf_alike hZ.alike A.2.1) A.2.2 (own_in q hj hi hl) (own_get q hi hv) hg hs hd t) K
theorem own_ldC (Y : own_S p l e R s m args below meth c n0 T h k n) (hx : p.tables.exec = Jvm.exec) (hZ : Z.Warmed39 s.vm) {a : Addr} {vs : List Value} (A : own_A Z h a .char vs) {j : Int32} {i : Nat} (hj : ¬ j < 0) (hi : j.toNatClampNeg = i) (hl : i < vs.length) {v : Value} (hv : vs[i]? = some v) {g : JFrame} (hg : g.method = m) {rest : List Value} (hs : g.stack = .int j :: .ref a :: rest) (hd : decode c.code g.pc = .ok (.caload, 1))
    (K : own_Ends p.tables e below P (T.setTop { g with pc := g.pc + 1, stack := v :: rest })) : own_Ends p.tables e below P (T.setTop g) := by
  obtain ⟨locs, X, e1, N⟩ := Y
  obtain ⟨cl, A, q, r⟩ := A
  exact own_st (fun t => X.caload hx (by rw [e1]; exact A.1) (State.isArrayOf_alike hZ.alike A.2.1) A.2.2 (own_in q hj hi hl) (own_get q hi hv) hg hs hd t) K
theorem own_ldJ (Y : own_S p l e R s m args below meth c n0 T h k n) (hx : p.tables.exec = Jvm.exec) (hZ : Z.Warmed39 s.vm) {a : Addr} {vs : List Value} (A : own_A Z h a .long vs) {j : Int32} {i : Nat} (hj : ¬ j < 0) (hi : j.toNatClampNeg = i) (hl : i < vs.length) {v : Value} (hv : vs[i]? = some v) {g : JFrame} (hg : g.method = m) {rest : List Value} (hs : g.stack = .int j :: .ref a :: rest) (hd : decode c.code g.pc = .ok (.laload, 1))
    (K : own_Ends p.tables e below P (T.setTop { g with pc := g.pc + 1, stack := v :: rest })) : own_Ends p.tables e below P (T.setTop g) := by
  obtain ⟨locs, X, e1, N⟩ := Y
  obtain ⟨cl, A, q, r⟩ := A
  exact own_st (fun t => X.laload hx (by rw [e1]; exact A.1) (State.isArrayOf_alike hZ.alike A.2.1) A.2.2 (own_in q hj hi hl) (own_get q hi hv) hg hs hd t) K
/-! constants -/
theorem own_ldcI (Y : own_S p l e R s m args below meth c n0 T h k n) (hx : p.tables.exec = Jvm.exec) (hZ : Z.Warmed39 s.vm) {own : String} {index : Nat} {v : Int32} (hown : s.vm.findClass own = some m.cls) (w : (Jvm.Cond.constant own index v).before a0 Z = true) {g : JFrame} (hg : g.method = m) (hd : decode c.code g.pc = .ok (.ldc index, 2))
    (K : own_Ends p.tables e below P (T.setTop { g with pc := g.pc + 2, stack := .int v :: g.stack })) : own_Ends p.tables e below P (T.setTop g) := by
  obtain ⟨locs, X, e1, N⟩ := Y
  exact own_st (X.ldcInt hx hown (mvT hZ w) hg hd) K
theorem own_ldcJ (Y : own_S p l e R s m args below meth c n0 T h k n) (hx : p.tables.exec = Jvm.exec) (hZ : Z.Warmed39 s.vm) {own : String} {index : Nat} {v : Int64} (hown : s.vm.findClass own = some m.cls) (w : (Jvm.Cond.constantLong own index v).before a0 Z = true) {g : JFrame} (hg : g.method = m) (hd : decode c.code g.pc = .ok (.ldc2_w index, 3))
    (K : own_Ends p.tables e below P (T.setTop { g with pc := g.pc + 3, stack := .long v :: g.stack })) : own_Ends p.tables e below P (T.setTop g) := by
  obtain ⟨locs, X, e1, N⟩ := Y
  exact own_st (X.ldc2Long hx hown (mvT hZ w) hg hd) K
theorem own_irem (Y : own_S p l e R s m args below meth c n0 T h k n) (hx : p.tables.exec = Jvm.exec) {g : JFrame} (hg : g.method = m) {x y : Int32} {rest : List Value} (hd : decode c.code g.pc = .ok (.irem, 1)) (hs : g.stack = .int y :: .int x :: rest) (hy : y ≠ 0)
    (K : own_Ends p.tables e below P (T.setTop { g with pc := g.pc + 1, stack := .int (x % y) :: rest })) : own_Ends p.tables e below P (T.setTop g) := by
  obtain ⟨locs, X, e1, N⟩ := Y
  exact own_st (fun t => iremM X hx hg hd hs hy) K
/-! calls by contract -/
theorem own_callS (Y : own_S p l e R s m args below meth c n0 T h k n) (hx : p.tables.exec = Jvm.exec) (hZ : Z.Warmed39 s.vm) {own : String} {index : Nat} {y : MethodName} {bytes : ByteArray} {maxL : Nat} {ret : Option FieldType} (hown : s.vm.findClass own = some m.cls) (wl : (Jvm.Cond.methodLink own index y).before a0 Z = true) (wst : (Jvm.Cond.static y).before a0 Z = true) (wi : (Jvm.Cond.initialized y.cls).before a0 Z = true) (wc : (Jvm.Cond.code y bytes maxL ret).before a0 Z = true)
    (hy : y.cls ≠ "java/lang/invoke/MethodHandle" ∧ y.cls ≠ "java/lang/invoke/VarHandle") {rm : Room} {argsL rest : List Value} {Qf : Option Value → Heap → Prop} (hM : own_Con l Z y bytes maxL ret [] rm argsL.toArray h n0 Qf) {W : Nat} (hfr : rm.frames + 1 ≤ R.frames) (hlo : W + (maxL + 11) + rm.locals ≤ R.locals) (hc : k + rm.cells ≤ R.cells) (hsl : n + rm.slots ≤ R.slots)
    {g : JFrame} (hg : g.method = m) (hsize : g.locals.size = c.maxLocals) (hlen : ∀ sig, parseMethodDescriptor y.desc = some sig → argsL.length = sig.parameters.length) (hs : g.stack = argsL.reverse ++ rest) (hW : 2 * g.monitorRoom + (rest.map fun v => v.category).sum ≤ W) (hd : decode c.code g.pc = .ok (.invokestatic index, 3))
    (K : ∀ T' h' v, own_S p l e R s m args below meth c n0 T' h' (k + rm.cells) (n + rm.slots) → Qf v h' → own_Ends p.tables e below P (T'.setTop { g with pc := g.pc + 3, stack := v.toList ++ rest })) : own_Ends p.tables e below P (T.setTop g) := by
  obtain ⟨locs, X, e1, N⟩ := Y
  obtain ⟨v, vm1, ⟨T', L', k', n'⟩, -, X', ⟨L, hQ, l1, y1, z1⟩, st⟩ := Jvm.LawKit.callS X hx hown (mvT hZ wl) (mvT hZ wst) (mvT hZ wi) (mvT hZ wc) hy (backOf (W := W) (Q := fun v h L => Fr n0 L ∧ Qf v h) hM hZ wc wi hfr hlo) hg hsize hlen hs hW hd (fun _ _ => ⟨rfl, e1, hc, hsl⟩)
  dsimp only [Pt.U, Pt.locs, Pt.cells, Pt.slots] at X' l1 y1 z1 st hQ
  subst l1 y1 z1
  exact own_st st (K T' _ v ⟨_, X', rfl, Fr.app N hQ.1⟩ hQ.2)
theorem own_callN (Y : own_S p l e R s m args below meth c n0 T h k n) (hx : p.tables.exec = Jvm.exec) (hZ : Z.Warmed39 s.vm) {own : String} {index : Nat} {y : MethodName} {bytes : ByteArray} {maxL : Nat} (hy1 : y.name = "<init>") (hown : s.vm.findClass own = some m.cls) (wl : (Jvm.Cond.methodLink own index y).before a0 Z = true) (win : (Jvm.Cond.instanceMethod y).before a0 Z = true) (wi : (Jvm.Cond.initialized y.cls).before a0 Z = true) (wc : (Jvm.Cond.code y bytes maxL none).before a0 Z = true)
    (hy : y.cls ≠ "java/lang/invoke/MethodHandle" ∧ y.cls ≠ "java/lang/invoke/VarHandle") {rm : Room} {a : Addr} {argsL rest : List Value} {Qf : Option Value → Heap → Prop} (hM : own_Con l Z y bytes maxL none [] rm (.ref a :: argsL).toArray h n0 Qf) {W : Nat} (hfr : rm.frames + 1 ≤ R.frames) (hlo : W + (maxL + 11) + rm.locals ≤ R.locals) (hc : k + rm.cells ≤ R.cells) (hsl : n + rm.slots ≤ R.slots)
    {g : JFrame} (hg : g.method = m) (hsize : g.locals.size = c.maxLocals) (hlen : ∀ sig, parseMethodDescriptor y.desc = some sig → argsL.length = sig.parameters.length) (hs : g.stack = argsL.reverse ++ .ref a :: rest) (hW : 2 * g.monitorRoom + (rest.map fun v => v.category).sum ≤ W) (hd : decode c.code g.pc = .ok (.invokespecial index, 3))
    (K : ∀ T' h' v, own_S p l e R s m args below meth c n0 T' h' (k + rm.cells) (n + rm.slots) → Qf v h' → own_Ends p.tables e below P (T'.setTop { g with pc := g.pc + 3, stack := v.toList ++ rest })) : own_Ends p.tables e below P (T.setTop g) := by
  obtain ⟨locs, X, e1, N⟩ := Y
  obtain ⟨v, vm1, ⟨T', L', k', n'⟩, -, X', ⟨L, hQ, l1, y1, z1⟩, st⟩ := X.specialBack hx hy1 hown (mvT hZ wl) (mvT hZ win) (mvT hZ wc) hy (backOf (W := W) (Q := fun v h L => Fr n0 L ∧ Qf v h) hM hZ wc wi hfr hlo) hg hsize (Steps.refl _) hlen hs hW hd (fun _ _ => ⟨rfl, e1, hc, hsl⟩)
  dsimp only [Pt.U, Pt.locs, Pt.cells, Pt.slots] at X' l1 y1 z1 st hQ
  subst l1 y1 z1
  exact own_st (fun t q => st.trans q) (K T' _ v ⟨_, X', rfl, Fr.app N hQ.1⟩ hQ.2)
theorem own_callV (Y : own_S p l e R s m args below meth c n0 T h k n) (hx : p.tables.exec = Jvm.exec) (hZ : Z.Warmed39 s.vm) {own C : String} {index : Nat} {y z : MethodName} {bytes : ByteArray} {maxL : Nat} {ret : Option FieldType} (hown : s.vm.findClass own = some m.cls) (wl : (Jvm.Cond.methodLink own index y).before a0 Z = true) (wd : (Jvm.Cond.declares y).before a0 Z = true) (hnf : NotFace s y) (wse : (Jvm.Cond.selects C y z).before a0 Z = true) (win : (Jvm.Cond.instanceMethod z).before a0 Z = true) (wi : (Jvm.Cond.initialized z.cls).before a0 Z = true) (wc : (Jvm.Cond.code z bytes maxL ret).before a0 Z = true)
    (hy : y.cls ≠ "java/lang/invoke/MethodHandle" ∧ y.cls ≠ "java/lang/invoke/VarHandle") {rm : Room} {a : Addr} (E : Exa Z h a C) {argsL rest : List Value} {Qf : Option Value → Heap → Prop} (hM : own_Con l Z z bytes maxL ret [] rm (.ref a :: argsL).toArray h n0 Qf) {W : Nat} (hfr : rm.frames + 1 ≤ R.frames) (hlo : W + (maxL + 11) + rm.locals ≤ R.locals) (hc : k + rm.cells ≤ R.cells) (hsl : n + rm.slots ≤ R.slots)
    {g : JFrame} (hg : g.method = m) (hsize : g.locals.size = c.maxLocals) (hlen : ∀ sig, parseMethodDescriptor y.desc = some sig → argsL.length = sig.parameters.length) (hs : g.stack = argsL.reverse ++ .ref a :: rest) (hW : 2 * g.monitorRoom + (rest.map fun v => v.category).sum ≤ W) (hd : decode c.code g.pc = .ok (.invokevirtual index, 3))
    (K : ∀ T' h' v, own_S p l e R s m args below meth c n0 T' h' (k + rm.cells) (n + rm.slots) → Qf v h' → own_Ends p.tables e below P (T'.setTop { g with pc := g.pc + 3, stack := v.toList ++ rest })) : own_Ends p.tables e below P (T.setTop g) := by
  obtain ⟨locs, X, e1, N⟩ := Y
  obtain ⟨cq, kq, qa, qb, qc⟩ := isOf hZ e1 E
  obtain ⟨v, vm1, ⟨T', L', k', n'⟩, -, X', ⟨L, hQ, l1, y1, z1⟩, st⟩ := X.virtualBack hx hown (mvT hZ wl) (mvT hZ wd) hnf (mvT hZ wse) (mvT hZ win) hy (backOf (W := W) (Q := fun v h L => Fr n0 L ∧ Qf v h) hM hZ wc wi hfr hlo) qa qc hg hsize (Steps.refl _) hlen hs hW hd (fun _ _ => ⟨rfl, e1, hc, hsl⟩)
  dsimp only [Pt.U, Pt.locs, Pt.cells, Pt.slots] at X' l1 y1 z1 st hQ
  subst l1 y1 z1
  exact own_st (fun t q => st.trans q) (K T' _ v ⟨_, X', rfl, Fr.app N hQ.1⟩ hQ.2)
theorem own_callU (Y : own_S p l e R s m args below meth c n0 T h k n) (hx : p.tables.exec = Jvm.exec) (hZ : Z.Warmed39 s.vm) {own C owner : String} {index : Nat} {y z : MethodName} {bytes : ByteArray} {maxL : Nat} {ret : Option FieldType} (hown : s.vm.findClass own = some m.cls) (wl : (Jvm.Cond.methodLink own index y).before a0 Z = true) (wsm : (Jvm.Cond.sameMethod y.cls owner y.name y.desc).before a0 Z = true) (wd : (Jvm.Cond.declares ⟨owner, y.name, y.desc⟩).before a0 Z = true) (wse : (Jvm.Cond.selects C y z).before a0 Z = true) (win : (Jvm.Cond.instanceMethod z).before a0 Z = true) (wi : (Jvm.Cond.initialized z.cls).before a0 Z = true) (wc : (Jvm.Cond.code z bytes maxL ret).before a0 Z = true)
    (hy : owner ≠ "java/lang/invoke/MethodHandle" ∧ owner ≠ "java/lang/invoke/VarHandle") {rm : Room} {a : Addr} (E : Exa Z h a C) {argsL rest : List Value} {Qf : Option Value → Heap → Prop} (hM : own_Con l Z z bytes maxL ret [] rm (.ref a :: argsL).toArray h n0 Qf) {W : Nat} (hfr : rm.frames + 1 ≤ R.frames) (hlo : W + (maxL + 11) + rm.locals ≤ R.locals) (hc : k + rm.cells ≤ R.cells) (hsl : n + rm.slots ≤ R.slots)
    {g : JFrame} (hg : g.method = m) (hsize : g.locals.size = c.maxLocals) (hlen : ∀ sig, parseMethodDescriptor y.desc = some sig → argsL.length = sig.parameters.length) (hs : g.stack = argsL.reverse ++ .ref a :: rest) (hW : 2 * g.monitorRoom + (rest.map fun v => v.category).sum ≤ W) (hd : decode c.code g.pc = .ok (.invokevirtual index, 3))
    (K : ∀ T' h' v, own_S p l e R s m args below meth c n0 T' h' (k + rm.cells) (n + rm.slots) → Qf v h' → own_Ends p.tables e below P (T'.setTop { g with pc := g.pc + 3, stack := v.toList ++ rest })) : own_Ends p.tables e below P (T.setTop g) := by
  obtain ⟨locs, X, e1, N⟩ := Y
  obtain ⟨cq, kq, qa, qb, qc⟩ := isOf hZ e1 E
  obtain ⟨v, vm1, ⟨T', L', k', n'⟩, -, X', ⟨L, hQ, l1, y1, z1⟩, st⟩ := X.virtualBackUp hx hown (mvT hZ wl) (mvT hZ wsm) (mvT hZ wd) hy (mvT hZ wse) (mvT hZ win) (backOf (W := W) (Q := fun v h L => Fr n0 L ∧ Qf v h) hM hZ wc wi hfr hlo) qa qc hg hsize (Steps.refl _) hlen hs hW hd (fun _ _ => ⟨rfl, e1, hc, hsl⟩)
  dsimp only [Pt.U, Pt.locs, Pt.cells, Pt.slots] at X' l1 y1 z1 st hQ
  subst l1 y1 z1
  exact own_st (fun t q => st.trans q) (K T' _ v ⟨_, X', rfl, Fr.app N hQ.1⟩ hQ.2)
theorem own_callP (Y : own_S p l e R s m args below meth c n0 T h k n) (hx : p.tables.exec = Jvm.exec) (hZ : Z.Warmed39 s.vm) {own C : String} {index : Nat} {y : MethodName} {bytes : ByteArray} {maxL : Nat} {ret : Option FieldType} (hown : s.vm.findClass own = some m.cls) (wl : (Jvm.Cond.methodLink own index y).before a0 Z = true) {nn : Nat} (win : (Jvm.Cond.instanceMethod y).before a0 Z = true) (wn : (Jvm.Cond.instantiable y.cls nn).before a0 Z = true) (wp : (Jvm.Cond.privateMethod y).before a0 Z = true) (wi : (Jvm.Cond.initialized y.cls).before a0 Z = true) (wc : (Jvm.Cond.code y bytes maxL ret).before a0 Z = true)
    (hy : y.cls ≠ "java/lang/invoke/MethodHandle" ∧ y.cls ≠ "java/lang/invoke/VarHandle") {rm : Room} {a : Addr} (E : Exa Z h a C) {argsL rest : List Value} {Qf : Option Value → Heap → Prop} (hM : own_Con l Z y bytes maxL ret [] rm (.ref a :: argsL).toArray h n0 Qf) {W : Nat} (hfr : rm.frames + 1 ≤ R.frames) (hlo : W + (maxL + 11) + rm.locals ≤ R.locals) (hc : k + rm.cells ≤ R.cells) (hsl : n + rm.slots ≤ R.slots)
    {g : JFrame} (hg : g.method = m) (hsize : g.locals.size = c.maxLocals) (hlen : ∀ sig, parseMethodDescriptor y.desc = some sig → argsL.length = sig.parameters.length) (hs : g.stack = argsL.reverse ++ .ref a :: rest) (hW : 2 * g.monitorRoom + (rest.map fun v => v.category).sum ≤ W) (hd : decode c.code g.pc = .ok (.invokevirtual index, 3))
    (K : ∀ T' h' v, own_S p l e R s m args below meth c n0 T' h' (k + rm.cells) (n + rm.slots) → Qf v h' → own_Ends p.tables e below P (T'.setTop { g with pc := g.pc + 3, stack := v.toList ++ rest })) : own_Ends p.tables e below P (T.setTop g) := by
  obtain ⟨locs, X, e1, N⟩ := Y
  obtain ⟨cell, q, q'⟩ := E.cell
  have wn' : (Jvm.Cond.instantiable y.cls nn).before #[] s = true := mvT hZ wn
  obtain ⟨ci, ki, hi1, hi2, -, hi4, -⟩ := Cond.instantiable_spec wn'
  have wse : (Jvm.Cond.selects y.cls y y).before args s = true := selects_self_of_private hi1 hi2 (by simpa using (Bool.or_eq_false_iff.mp hi4).1) (Cond.privateMethod_at (mvP hZ wp (args := #[]))) (mvT hZ win) hy
  obtain ⟨v, vm1, ⟨T', L', k', n'⟩, -, X', ⟨L, hQ, l1, y1, z1⟩, st⟩ := X.privateBack hx hown (mvT hZ wl) (mvT hZ win) wse (Cond.privateMethod_at (mvP hZ wp (args := #[]))) (mvT hZ wc) hy (backOf (W := W) (Q := fun v h L => Fr n0 L ∧ Qf v h) hM hZ wc wi hfr hlo) hg hsize (Steps.refl _) (by rw [e1]; exact q) q' hlen hs hW hd (fun _ _ => ⟨rfl, e1, hc, hsl⟩)
  dsimp only [Pt.U, Pt.locs, Pt.cells, Pt.slots] at X' l1 y1 z1 st hQ
  subst l1 y1 z1
  exact own_st (fun t q => st.trans q) (K T' _ v ⟨_, X', rfl, Fr.app N hQ.1⟩ hQ.2)
end OwnLayer
section OwnNums
def own_b (b : Bool) : Int32 := if b then 1 else 0
theorem own_b_t {b : Bool} (h : b = true) : own_b b = 1 := by subst h; rfl
theorem own_b_f {b : Bool} (h : b = false) : own_b b = 0 := by subst h; rfl
theorem own_b_0 (b : Bool) : own_b b = 0 ↔ b = false := by cases b <;> simp [own_b]
theorem own_b_n (b : Bool) : nar .boolean (own_b b) = own_b b := by cases b <;> rfl
theorem own_b_inj {a b : Bool} : own_b a = own_b b ↔ a = b := by cases a <;> cases b <;> simp [own_b]
theorem own_idx {j : Int32} {n : Nat} (h0 : 0 ≤ j.toInt) (h1 : j.toInt < (n : Int)) : ¬ j < 0 ∧ j.toNatClampNeg < n := by
  refine ⟨?_, ?_⟩
  · rw [Int32.lt_iff_toInt_lt]; show ¬ j.toInt < 0; omega
  · show j.toInt.toNat < n; omega
theorem own_ints {xs : List Int32} {i : Nat} (h : i < xs.length) : ∃ d, (xs.map Value.int)[i]? = some (.int d) ∧ d = xs[i] := ⟨xs[i], by simp [h], rfl⟩
theorem own_longs {xs : List Int64} {i : Nat} (h : i < xs.length) : ∃ d, (xs.map Value.long)[i]? = some (.long d) ∧ d = xs[i] := ⟨xs[i], by simp [h], rfl⟩
/-- p i, p (i + 1), .., k of them, all hold -/
def own_all (p : Nat → Bool) : Nat → Nat → Bool
  | _, 0 => true
  | i, k + 1 => p i && own_all p (i + 1) k
def own_g (xs : List Int32) (i : Nat) : Int32 := xs.getD i 0
theorem own_mget {xs : List Int32} {i : Nat} (h : i < (xs.map Value.int).length) : (xs.map Value.int)[i]? = some (.int (own_g xs i)) := by
  have h' : i < xs.length := by simpa using h
  simp [h', own_g]
theorem own_mlen {xs : List Int32} {i : Nat} (h : i < xs.length) : i < (xs.map Value.int).length := by simpa using h
theorem own_nat {j : Int32} {i : Nat} (h : j.toInt = (i : Int)) : ¬ j < 0 ∧ j.toNatClampNeg = i := by
  refine ⟨?_, ?_⟩
  · rw [Int32.lt_iff_toInt_lt]; show ¬ j.toInt < 0; omega
  · show j.toInt.toNat = i; omega
theorem own_inc {j : Int32} {i : Nat} (h : j.toInt = (i : Int)) (hi : i + 1 < 2147483648) : (j + 1).toInt = ((i + 1 : Nat) : Int) := by
  have := c_iadd j 1
  have h1 : (1 : Int32).toInt = 1 := rfl
  have := rng32 (j + 1)
  omega
theorem own_lt {x y : Int32} : x < y ↔ x.toInt < y.toInt := Int32.lt_iff_toInt_lt
theorem own_eq {x y : Int32} : x = y ↔ x.toInt = y.toInt := Int32.toInt_inj.symm
theorem own_tolen {ys : List Int32} {z : Int32} (h : z.toInt = (ys.length : Int)) : (ys.map Value.int).length.toInt32 = z := by
  have q := rng32 z
  have e : (ys.map Value.int).length = ys.length := by simp
  rw [own_eq, len_toInt (by rw [e]; omega), e, h]
theorem own_add {x y : Int32} {a b : Nat} (h1 : x.toInt = (a : Int)) (h2 : y.toInt = (b : Int)) (hi : a + b < 2147483648) : (x + y).toInt = ((a + b : Nat) : Int) := by
  have := c_iadd x y
  have := rng32 (x + y)
  omega
theorem own_sub {x y : Int32} {a b : Nat} (h1 : x.toInt = (a : Int)) (h2 : y.toInt = (b : Int)) : (x - y).toInt = (a : Int) - (b : Int) := by
  have := c_isub x y
  have := rng32 (x - y)
  have := rng32 x
  have := rng32 y
  omega
end OwnNums
def own_pick (p : Int32) : Int32 := if p &&& 3 = 0 then 10 else if p &&& 3 = 1 then 13 else (p >>> ((2 : Int32) &&& 31)).toInt8.toInt32
theorem own_bb (y : Int32) : y.toInt8.toInt32.toInt8.toInt32 = y.toInt8.toInt32 := by simp
theorem own_pick_b (p : Int32) : (own_pick p).toInt8.toInt32 = own_pick p := by
  unfold own_pick; split
  · decide
  · split
    · decide
    · exact own_bb _
def own_lf (b i a : Int32) : Bool := decide (i < a) && decide (b = 10)
def own_cr (b i a : Int32) : Bool := decide (i < a) && decide (b = 13)
def own_pr (b d i a : Int32) : Bool := decide (i + 1 < a) && decide (b = 13) && decide (d = 10)
def own_step (xs : List Int32) (t i : Nat) : Bool := decide (own_g xs i = 10) || (decide (own_g xs i = 13) && (decide (i + 1 = t) || !decide (own_g xs (i + 1) = 10)))
def own_acc (xs : List Int32) (t : Nat) : Nat → Nat → Int32 → Int32
  | _, 0, a => a
  | i, k + 1, a => own_acc xs t (i + 1) k (a + own_b (own_step xs t i))
theorem own_bools : ∀ l0 c0 l1 c1 l2 c2 l3 c3 l4 c4 : Bool, (l0 && c0) = false → (l1 && c1) = false → (l2 && c2) = false → (l3 && c3) = false → (l4 && c4) = false →
    (1 + own_b (l0 || (c0 && !l1)) + own_b (l1 || (c1 && !l2)) + own_b (l2 || (c2 && !l3)) + own_b (l3 || (c3 && !l4)) + own_b (l4 || c4) : Int32) = 1 + (own_b l0 + own_b l1 + own_b l2 + own_b l3 + own_b l4) + (own_b c0 + own_b c1 + own_b c2 + own_b c3 + own_b c4) - (own_b (c0 && l1) + own_b (c1 && l2) + own_b (c2 && l3) + own_b (c3 && l4)) := by decide +kernel
theorem own_ex (b : Int32) : (decide (b = 10) && decide (b = 13)) = false := by
  by_cases h : b = 10
  · subst h; decide
  · simp [h]
def own_want (b0 b1 b2 b3 b4 a : Int32) : Int32 := 1 + (own_b (own_lf b0 0 a) + own_b (own_lf b1 1 a) + own_b (own_lf b2 2 a) + own_b (own_lf b3 3 a) + own_b (own_lf b4 4 a)) + (own_b (own_cr b0 0 a) + own_b (own_cr b1 1 a) + own_b (own_cr b2 2 a) + own_b (own_cr b3 3 a) + own_b (own_cr b4 4 a)) - (own_b (own_pr b0 b1 0 a) + own_b (own_pr b1 b2 1 a) + own_b (own_pr b2 b3 2 a) + own_b (own_pr b3 b4 3 a))
theorem own_law (b0 b1 b2 b3 b4 : Int32) (a : Int32) (t : Nat) (ha : a.toInt = (t : Int)) (ht : t ≤ 5) : own_acc [b0, b1, b2, b3, b4] t 0 t 1 = own_want b0 b1 b2 b3 b4 a := by
  have i0 : ∀ z : Int32, (z < a) = (z.toInt < (t : Int)) := fun z => by rw [own_lt, ha]
  have e0 : (0 : Int32).toInt = 0 := rfl
  have e1 : (1 : Int32).toInt = 1 := rfl
  have e2 : (2 : Int32).toInt = 2 := rfl
  have e3 : (3 : Int32).toInt = 3 := rfl
  have e4 : (4 : Int32).toInt = 4 := rfl
  have s1 : (0 + 1 : Int32) = 1 := rfl
  have s2 : (1 + 1 : Int32) = 2 := rfl
  have s3 : (2 + 1 : Int32) = 3 := rfl
  have s4 : (3 + 1 : Int32) = 4 := rfl
  have x0 := own_ex b0
  have x1 := own_ex b1
  have x2 := own_ex b2
  have x3 := own_ex b3
  have x4 := own_ex b4
  have q : t = 0 ∨ t = 1 ∨ t = 2 ∨ t = 3 ∨ t = 4 ∨ t = 5 := by omega
  simp only [own_want, own_lf, own_cr, own_pr, s1, s2, s3, s4, i0, e0, e1, e2, e3, e4]
  generalize hl0 : decide (b0 = 10) = l0 at *
  generalize hc0 : decide (b0 = 13) = c0 at *
  generalize hl1 : decide (b1 = 10) = l1 at *
  generalize hc1 : decide (b1 = 13) = c1 at *
  generalize hl2 : decide (b2 = 10) = l2 at *
  generalize hc2 : decide (b2 = 13) = c2 at *
  generalize hl3 : decide (b3 = 10) = l3 at *
  generalize hc3 : decide (b3 = 13) = c3 at *
  generalize hl4 : decide (b4 = 10) = l4 at *
  generalize hc4 : decide (b4 = 13) = c4 at *
  have B := own_bools
  rcases q with rfl | rfl | rfl | rfl | rfl | rfl
  · simp [own_acc, own_b]
  · have := B l0 c0 false false false false false false false false x0 rfl rfl rfl rfl
    simpa [own_acc, own_step, own_g, own_b, hl0, hc0] using this
  · have := B l0 c0 l1 c1 false false false false false false x0 x1 rfl rfl rfl
    simpa [own_acc, own_step, own_g, own_b, hl0, hc0, hl1, hc1] using this
  · have := B l0 c0 l1 c1 l2 c2 false false false false x0 x1 x2 rfl rfl
    simpa [own_acc, own_step, own_g, own_b, hl0, hc0, hl1, hc1, hl2, hc2] using this
  · have := B l0 c0 l1 c1 l2 c2 l3 c3 false false x0 x1 x2 x3 rfl
    simpa [own_acc, own_step, own_g, own_b, hl0, hc0, hl1, hc1, hl2, hc2, hl3, hc3] using this
  · have := B l0 c0 l1 c1 l2 c2 l3 c3 l4 c4 x0 x1 x2 x3 x4
    simpa [own_acc, own_step, own_g, own_b, hl0, hc0, hl1, hc1, hl2, hc2, hl3, hc3, hl4, hc4] using this
theorem own_pn0 : plainName "com/example/deft_wiring/deftwiring/context/XmlScannerLineAtPinLaw" = true := by first | (simp [plainName, overriddenIn]; done) | decide +kernel
theorem own_d1_0 : decode method_2_code 0 = .ok (.iload_n 0, 1) := by decide +kernel
theorem own_d1_1 : decode method_2_code 1 = .ok (.iconst 3, 1) := by decide +kernel
theorem own_d1_2 : decode method_2_code 2 = .ok (.iand, 1) := by decide +kernel
theorem own_d1_3 : decode method_2_code 3 = .ok (.istore_n 1, 1) := by decide +kernel
theorem own_d1_4 : decode method_2_code 4 = .ok (.iload_n 1, 1) := by decide +kernel
theorem own_d1_5 : decode method_2_code 5 = .ok (.ifCond .ne 6, 3) := by decide +kernel
theorem own_d1_8 : decode method_2_code 8 = .ok (.bipush 10, 2) := by decide +kernel
theorem own_d1_10 : decode method_2_code 10 = .ok (.ireturn, 1) := by decide +kernel
theorem own_d1_11 : decode method_2_code 11 = .ok (.iload_n 1, 1) := by decide +kernel
theorem own_d1_12 : decode method_2_code 12 = .ok (.iconst 1, 1) := by decide +kernel
theorem own_d1_13 : decode method_2_code 13 = .ok (.if_icmp .ne 6, 3) := by decide +kernel
theorem own_d1_16 : decode method_2_code 16 = .ok (.bipush 13, 2) := by decide +kernel
theorem own_d1_18 : decode method_2_code 18 = .ok (.ireturn, 1) := by decide +kernel
theorem own_d1_19 : decode method_2_code 19 = .ok (.iload_n 0, 1) := by decide +kernel
theorem own_d1_20 : decode method_2_code 20 = .ok (.iconst 2, 1) := by decide +kernel
theorem own_d1_21 : decode method_2_code 21 = .ok (.ishr, 1) := by decide +kernel
theorem own_d1_22 : decode method_2_code 22 = .ok (.i2b, 1) := by decide +kernel
theorem own_d1_23 : decode method_2_code 23 = .ok (.ireturn, 1) := by decide +kernel
theorem own_ef_own_rm1 (m : MethodId) (x0 : Int32) : entryFrame m #[(.int x0)] 2 = mkF m 0 #[.val (.int x0), .unset] [] := by first | (simp [entryFrame, mkF, argsToLocals, Value.category]; done) | rfl
def own_Q_own_rm1 (Z : State) (x0 : Int32) (h0 : Heap) (n0 : Nat) (v : Option Value) (h : Heap) : Prop := v = some (.int (own_pick x0)) ∧ h0 = h
set_option maxRecDepth 65536 in
set_option maxHeartbeats 40000000 in
theorem own_rm1 (l : Launch) (Z : State) (a0 : Array Value) (hw : ∀ d ∈ tables_1, d.before a0 Z = true) (ws : List Jvm.Cond) (x0 : Int32)  (h0 : Heap) (n0 : Nat)   :
    own_Con l Z (⟨"com/example/deft_wiring/deftwiring/context/XmlScannerLineAtPinLaw", "pick", "(I)B"⟩ : MethodName) method_2_code 2 (some .byte) ws ({ frames := 0, cells := 0, slots := 0, locals := 0 } : Room) #[(.int x0)] h0 n0 (own_Q_own_rm1 Z x0 h0 n0) := by
  refine own_body (plainFor_of_name own_pn0) ?_
  intro p e s m below meth c T0 hx hZ hby hml hown hnm hret hlk Y0
  replace hown : s.vm.findClass "com/example/deft_wiring/deftwiring/context/XmlScannerLineAtPinLaw" = some m.cls := hown
  replace hnm : meth.name = "pick" := hnm
  rw [own_ef_own_rm1 m x0]
  show own_Ends _ _ _ _ (T0.setTop (mkF m 0 #[.val (.int x0), .unset] []))
  refine own_st (fun t_ => XS.iloadN (own_here Y0) hx rfl (hb hby own_d1_0) rfl) ?_
  show own_Ends _ _ _ _ (T0.setTop (mkF m 1 #[.val (.int x0), .unset] [(.int x0)]))
  refine own_st (fun t_ => XS.iconst (own_here Y0) hx rfl (hb hby own_d1_1) ) ?_
  show own_Ends _ _ _ _ (T0.setTop (mkF m 2 #[.val (.int x0), .unset] [(.int (3 : Int32)), (.int x0)]))
  refine own_st (fun t_ => XS.iand (own_here Y0) hx rfl (hb hby own_d1_2) rfl) ?_
  show own_Ends _ _ _ _ (T0.setTop (mkF m 3 #[.val (.int x0), .unset] [(.int (x0 &&& (3 : Int32)))]))
  refine own_st (fun t_ => XS.istoreN (own_here Y0) hx rfl (hb hby own_d1_3) rfl (l' := #[.val (.int x0), .val (.int (x0 &&& (3 : Int32)))]) rfl) ?_
  show own_Ends _ _ _ _ (T0.setTop (mkF m 4 #[.val (.int x0), .val (.int (x0 &&& (3 : Int32)))] []))
  refine own_st (fun t_ => XS.iloadN (own_here Y0) hx rfl (hb hby own_d1_4) rfl) ?_
  show own_Ends _ _ _ _ (T0.setTop (mkF m 5 #[.val (.int x0), .val (.int (x0 &&& (3 : Int32)))] [(.int (x0 &&& (3 : Int32)))]))
  by_cases c5_1 : (x0 &&& (3 : Int32)) = (0 : Int32)
  ·
   refine own_st (fun t_ => XS.ifNo (own_here Y0) hx rfl (hb hby own_d1_5) rfl (XT.i0_ne_f c5_1)) ?_
   show own_Ends _ _ _ _ (T0.setTop (mkF m 8 #[.val (.int x0), .val (.int (x0 &&& (3 : Int32)))] []))
   refine own_st (fun t_ => XS.bipush (own_here Y0) hx rfl (hb hby own_d1_8) ) ?_
   show own_Ends _ _ _ _ (T0.setTop (mkF m 10 #[.val (.int x0), .val (.int (x0 &&& (3 : Int32)))] [(.int (10 : Int32))]))
   refine own_retN Y0 hx hlk (t := .byte) hret (by simp) (hb hby own_d1_10) (by decide) (by decide) ?_
   exact ⟨by simp [own_pick, nar, c5_1], rfl⟩
  ·
   refine own_st (fun t_ => XS.ifYes (own_here Y0) hx rfl (pc0 := 5) (pc' := 11) rfl (hb hby own_d1_5) rfl (XT.i0_ne_t c5_1) (by decide) (by decide)) ?_
   show own_Ends _ _ _ _ (T0.setTop (mkF m 11 #[.val (.int x0), .val (.int (x0 &&& (3 : Int32)))] []))
   refine own_st (fun t_ => XS.iloadN (own_here Y0) hx rfl (hb hby own_d1_11) rfl) ?_
   show own_Ends _ _ _ _ (T0.setTop (mkF m 12 #[.val (.int x0), .val (.int (x0 &&& (3 : Int32)))] [(.int (x0 &&& (3 : Int32)))]))
   refine own_st (fun t_ => XS.iconst (own_here Y0) hx rfl (hb hby own_d1_12) ) ?_
   show own_Ends _ _ _ _ (T0.setTop (mkF m 13 #[.val (.int x0), .val (.int (x0 &&& (3 : Int32)))] [(.int (1 : Int32)), (.int (x0 &&& (3 : Int32)))]))
   by_cases c13_2 : (x0 &&& (3 : Int32)) = (1 : Int32)
   ·
    refine own_st (fun t_ => XS.icmpNo (own_here Y0) hx rfl (hb hby own_d1_13) rfl (XT.ii_ne_f c13_2)) ?_
    show own_Ends _ _ _ _ (T0.setTop (mkF m 16 #[.val (.int x0), .val (.int (x0 &&& (3 : Int32)))] []))
    refine own_st (fun t_ => XS.bipush (own_here Y0) hx rfl (hb hby own_d1_16) ) ?_
    show own_Ends _ _ _ _ (T0.setTop (mkF m 18 #[.val (.int x0), .val (.int (x0 &&& (3 : Int32)))] [(.int (13 : Int32))]))
    refine own_retN Y0 hx hlk (t := .byte) hret (by simp) (hb hby own_d1_18) (by decide) (by decide) ?_
    exact ⟨by simp [own_pick, nar, c5_1, c13_2], rfl⟩
   ·
    refine own_st (fun t_ => XS.icmpYes (own_here Y0) hx rfl (pc0 := 13) (pc' := 19) rfl (hb hby own_d1_13) rfl (XT.ii_ne_t c13_2) (by decide) (by decide)) ?_
    show own_Ends _ _ _ _ (T0.setTop (mkF m 19 #[.val (.int x0), .val (.int (x0 &&& (3 : Int32)))] []))
    refine own_st (fun t_ => XS.iloadN (own_here Y0) hx rfl (hb hby own_d1_19) rfl) ?_
    show own_Ends _ _ _ _ (T0.setTop (mkF m 20 #[.val (.int x0), .val (.int (x0 &&& (3 : Int32)))] [(.int x0)]))
    refine own_st (fun t_ => XS.iconst (own_here Y0) hx rfl (hb hby own_d1_20) ) ?_
    show own_Ends _ _ _ _ (T0.setTop (mkF m 21 #[.val (.int x0), .val (.int (x0 &&& (3 : Int32)))] [(.int (2 : Int32)), (.int x0)]))
    refine own_st (fun t_ => XS.ishr (own_here Y0) hx rfl (hb hby own_d1_21) rfl) ?_
    show own_Ends _ _ _ _ (T0.setTop (mkF m 22 #[.val (.int x0), .val (.int (x0 &&& (3 : Int32)))] [(.int (x0 >>> ((2 : Int32) &&& 31)))]))
    refine own_st (fun t_ => XS.i2b (own_here Y0) hx rfl (hb hby own_d1_22) rfl) ?_
    show own_Ends _ _ _ _ (T0.setTop (mkF m 23 #[.val (.int x0), .val (.int (x0 &&& (3 : Int32)))] [(.int ((x0 >>> ((2 : Int32) &&& 31)).toInt8.toInt32))]))
    refine own_retN Y0 hx hlk (t := .byte) hret (by simp) (hb hby own_d1_23) (by decide) (by decide) ?_
    exact ⟨by simp [own_pick, nar, c5_1, c13_2], rfl⟩
theorem own_d2_0 : decode method_3_code 0 = .ok (.iload_n 1, 1) := by decide +kernel
theorem own_d2_1 : decode method_3_code 1 = .ok (.iload_n 2, 1) := by decide +kernel
theorem own_d2_2 : decode method_3_code 2 = .ok (.if_icmp .ge 13, 3) := by decide +kernel
theorem own_d2_5 : decode method_3_code 5 = .ok (.iload_n 0, 1) := by decide +kernel
theorem own_d2_6 : decode method_3_code 6 = .ok (.bipush 10, 2) := by decide +kernel
theorem own_d2_8 : decode method_3_code 8 = .ok (.if_icmp .ne 7, 3) := by decide +kernel
theorem own_d2_11 : decode method_3_code 11 = .ok (.iconst 1, 1) := by decide +kernel
theorem own_d2_12 : decode method_3_code 12 = .ok (.goto 4, 3) := by decide +kernel
theorem own_d2_16 : decode method_3_code 16 = .ok (.ireturn, 1) := by decide +kernel
theorem own_d2_15 : decode method_3_code 15 = .ok (.iconst 0, 1) := by decide +kernel
theorem own_ef_own_rm2 (m : MethodId) (x0 : Int32) (x1 : Int32) (x2 : Int32) : entryFrame m #[(.int x0), (.int x1), (.int x2)] 3 = mkF m 0 #[.val (.int x0), .val (.int x1), .val (.int x2)] [] := by first | (simp [entryFrame, mkF, argsToLocals, Value.category]; done) | rfl
def own_Q_own_rm2 (Z : State) (x0 : Int32) (x1 : Int32) (x2 : Int32) (h0 : Heap) (n0 : Nat) (v : Option Value) (h : Heap) : Prop := v = some (.int (own_b (own_lf x0 x1 x2))) ∧ h0 = h
set_option maxRecDepth 65536 in
set_option maxHeartbeats 40000000 in
theorem own_rm2 (l : Launch) (Z : State) (a0 : Array Value) (hw : ∀ d ∈ tables_1, d.before a0 Z = true) (ws : List Jvm.Cond) (x0 : Int32) (x1 : Int32) (x2 : Int32)  (h0 : Heap) (n0 : Nat)   :
    own_Con l Z (⟨"com/example/deft_wiring/deftwiring/context/XmlScannerLineAtPinLaw", "lf", "(BII)I"⟩ : MethodName) method_3_code 3 (some .int) ws ({ frames := 0, cells := 0, slots := 0, locals := 0 } : Room) #[(.int x0), (.int x1), (.int x2)] h0 n0 (own_Q_own_rm2 Z x0 x1 x2 h0 n0) := by
  refine own_body (plainFor_of_name own_pn0) ?_
  intro p e s m below meth c T0 hx hZ hby hml hown hnm hret hlk Y0
  replace hown : s.vm.findClass "com/example/deft_wiring/deftwiring/context/XmlScannerLineAtPinLaw" = some m.cls := hown
  replace hnm : meth.name = "lf" := hnm
  rw [own_ef_own_rm2 m x0 x1 x2]
  show own_Ends _ _ _ _ (T0.setTop (mkF m 0 #[.val (.int x0), .val (.int x1), .val (.int x2)] []))
  refine own_st (fun t_ => XS.iloadN (own_here Y0) hx rfl (hb hby own_d2_0) rfl) ?_
  show own_Ends _ _ _ _ (T0.setTop (mkF m 1 #[.val (.int x0), .val (.int x1), .val (.int x2)] [(.int x1)]))
  refine own_st (fun t_ => XS.iloadN (own_here Y0) hx rfl (hb hby own_d2_1) rfl) ?_
  show own_Ends _ _ _ _ (T0.setTop (mkF m 2 #[.val (.int x0), .val (.int x1), .val (.int x2)] [(.int x2), (.int x1)]))
  by_cases c2_3 : x1 < x2
  ·
   refine own_st (fun t_ => XS.icmpNo (own_here Y0) hx rfl (hb hby own_d2_2) rfl (XT.ii_ge_f c2_3)) ?_
   show own_Ends _ _ _ _ (T0.setTop (mkF m 5 #[.val (.int x0), .val (.int x1), .val (.int x2)] []))
   refine own_st (fun t_ => XS.iloadN (own_here Y0) hx rfl (hb hby own_d2_5) rfl) ?_
   show own_Ends _ _ _ _ (T0.setTop (mkF m 6 #[.val (.int x0), .val (.int x1), .val (.int x2)] [(.int x0)]))
   refine own_st (fun t_ => XS.bipush (own_here Y0) hx rfl (hb hby own_d2_6) ) ?_
   show own_Ends _ _ _ _ (T0.setTop (mkF m 8 #[.val (.int x0), .val (.int x1), .val (.int x2)] [(.int (10 : Int32)), (.int x0)]))
   by_cases c8_4 : x0 = (10 : Int32)
   ·
    refine own_st (fun t_ => XS.icmpNo (own_here Y0) hx rfl (hb hby own_d2_8) rfl (XT.ii_ne_f c8_4)) ?_
    show own_Ends _ _ _ _ (T0.setTop (mkF m 11 #[.val (.int x0), .val (.int x1), .val (.int x2)] []))
    refine own_st (fun t_ => XS.iconst (own_here Y0) hx rfl (hb hby own_d2_11) ) ?_
    show own_Ends _ _ _ _ (T0.setTop (mkF m 12 #[.val (.int x0), .val (.int x1), .val (.int x2)] [(.int (1 : Int32))]))
    refine own_st (fun t_ => XS.goto (own_here Y0) hx rfl (pc0 := 12) (pc' := 16) rfl (hb hby own_d2_12) (by decide) (by decide)) ?_
    show own_Ends _ _ _ _ (T0.setTop (mkF m 16 #[.val (.int x0), .val (.int x1), .val (.int x2)] [(.int (1 : Int32))]))
    refine own_retI Y0 hx hlk hret (hb hby own_d2_16) (by decide) (by decide) ?_
    exact ⟨by simp [own_lf, own_b, c2_3, c8_4], rfl⟩
   ·
    refine own_st (fun t_ => XS.icmpYes (own_here Y0) hx rfl (pc0 := 8) (pc' := 15) rfl (hb hby own_d2_8) rfl (XT.ii_ne_t c8_4) (by decide) (by decide)) ?_
    show own_Ends _ _ _ _ (T0.setTop (mkF m 15 #[.val (.int x0), .val (.int x1), .val (.int x2)] []))
    refine own_st (fun t_ => XS.iconst (own_here Y0) hx rfl (hb hby own_d2_15) ) ?_
    show own_Ends _ _ _ _ (T0.setTop (mkF m 16 #[.val (.int x0), .val (.int x1), .val (.int x2)] [(.int (0 : Int32))]))
    refine own_retI Y0 hx hlk hret (hb hby own_d2_16) (by decide) (by decide) ?_
    exact ⟨by simp [own_lf, own_b, c2_3, c8_4], rfl⟩
  ·
   refine own_st (fun t_ => XS.icmpYes (own_here Y0) hx rfl (pc0 := 2) (pc' := 15) rfl (hb hby own_d2_2) rfl (XT.ii_ge_t c2_3) (by decide) (by decide)) ?_
   show own_Ends _ _ _ _ (T0.setTop (mkF m 15 #[.val (.int x0), .val (.int x1), .val (.int x2)] []))
   refine own_st (fun t_ => XS.iconst (own_here Y0) hx rfl (hb hby own_d2_15) ) ?_
   show own_Ends _ _ _ _ (T0.setTop (mkF m 16 #[.val (.int x0), .val (.int x1), .val (.int x2)] [(.int (0 : Int32))]))
   refine own_retI Y0 hx hlk hret (hb hby own_d2_16) (by decide) (by decide) ?_
   exact ⟨by simp [own_lf, own_b, c2_3], rfl⟩
theorem own_d3_0 : decode method_4_code 0 = .ok (.iload_n 1, 1) := by decide +kernel
theorem own_d3_1 : decode method_4_code 1 = .ok (.iload_n 2, 1) := by decide +kernel
theorem own_d3_2 : decode method_4_code 2 = .ok (.if_icmp .ge 13, 3) := by decide +kernel
theorem own_d3_5 : decode method_4_code 5 = .ok (.iload_n 0, 1) := by decide +kernel
theorem own_d3_6 : decode method_4_code 6 = .ok (.bipush 13, 2) := by decide +kernel
theorem own_d3_8 : decode method_4_code 8 = .ok (.if_icmp .ne 7, 3) := by decide +kernel
theorem own_d3_11 : decode method_4_code 11 = .ok (.iconst 1, 1) := by decide +kernel
theorem own_d3_12 : decode method_4_code 12 = .ok (.goto 4, 3) := by decide +kernel
theorem own_d3_16 : decode method_4_code 16 = .ok (.ireturn, 1) := by decide +kernel
theorem own_d3_15 : decode method_4_code 15 = .ok (.iconst 0, 1) := by decide +kernel
theorem own_ef_own_rm3 (m : MethodId) (x0 : Int32) (x1 : Int32) (x2 : Int32) : entryFrame m #[(.int x0), (.int x1), (.int x2)] 3 = mkF m 0 #[.val (.int x0), .val (.int x1), .val (.int x2)] [] := by first | (simp [entryFrame, mkF, argsToLocals, Value.category]; done) | rfl
def own_Q_own_rm3 (Z : State) (x0 : Int32) (x1 : Int32) (x2 : Int32) (h0 : Heap) (n0 : Nat) (v : Option Value) (h : Heap) : Prop := v = some (.int (own_b (own_cr x0 x1 x2))) ∧ h0 = h
set_option maxRecDepth 65536 in
set_option maxHeartbeats 40000000 in
theorem own_rm3 (l : Launch) (Z : State) (a0 : Array Value) (hw : ∀ d ∈ tables_1, d.before a0 Z = true) (ws : List Jvm.Cond) (x0 : Int32) (x1 : Int32) (x2 : Int32)  (h0 : Heap) (n0 : Nat)   :
    own_Con l Z (⟨"com/example/deft_wiring/deftwiring/context/XmlScannerLineAtPinLaw", "cr", "(BII)I"⟩ : MethodName) method_4_code 3 (some .int) ws ({ frames := 0, cells := 0, slots := 0, locals := 0 } : Room) #[(.int x0), (.int x1), (.int x2)] h0 n0 (own_Q_own_rm3 Z x0 x1 x2 h0 n0) := by
  refine own_body (plainFor_of_name own_pn0) ?_
  intro p e s m below meth c T0 hx hZ hby hml hown hnm hret hlk Y0
  replace hown : s.vm.findClass "com/example/deft_wiring/deftwiring/context/XmlScannerLineAtPinLaw" = some m.cls := hown
  replace hnm : meth.name = "cr" := hnm
  rw [own_ef_own_rm3 m x0 x1 x2]
  show own_Ends _ _ _ _ (T0.setTop (mkF m 0 #[.val (.int x0), .val (.int x1), .val (.int x2)] []))
  refine own_st (fun t_ => XS.iloadN (own_here Y0) hx rfl (hb hby own_d3_0) rfl) ?_
  show own_Ends _ _ _ _ (T0.setTop (mkF m 1 #[.val (.int x0), .val (.int x1), .val (.int x2)] [(.int x1)]))
  refine own_st (fun t_ => XS.iloadN (own_here Y0) hx rfl (hb hby own_d3_1) rfl) ?_
  show own_Ends _ _ _ _ (T0.setTop (mkF m 2 #[.val (.int x0), .val (.int x1), .val (.int x2)] [(.int x2), (.int x1)]))
  by_cases c2_5 : x1 < x2
  ·
   refine own_st (fun t_ => XS.icmpNo (own_here Y0) hx rfl (hb hby own_d3_2) rfl (XT.ii_ge_f c2_5)) ?_
   show own_Ends _ _ _ _ (T0.setTop (mkF m 5 #[.val (.int x0), .val (.int x1), .val (.int x2)] []))
   refine own_st (fun t_ => XS.iloadN (own_here Y0) hx rfl (hb hby own_d3_5) rfl) ?_
   show own_Ends _ _ _ _ (T0.setTop (mkF m 6 #[.val (.int x0), .val (.int x1), .val (.int x2)] [(.int x0)]))
   refine own_st (fun t_ => XS.bipush (own_here Y0) hx rfl (hb hby own_d3_6) ) ?_
   show own_Ends _ _ _ _ (T0.setTop (mkF m 8 #[.val (.int x0), .val (.int x1), .val (.int x2)] [(.int (13 : Int32)), (.int x0)]))
   by_cases c8_6 : x0 = (13 : Int32)
   ·
    refine own_st (fun t_ => XS.icmpNo (own_here Y0) hx rfl (hb hby own_d3_8) rfl (XT.ii_ne_f c8_6)) ?_
    show own_Ends _ _ _ _ (T0.setTop (mkF m 11 #[.val (.int x0), .val (.int x1), .val (.int x2)] []))
    refine own_st (fun t_ => XS.iconst (own_here Y0) hx rfl (hb hby own_d3_11) ) ?_
    show own_Ends _ _ _ _ (T0.setTop (mkF m 12 #[.val (.int x0), .val (.int x1), .val (.int x2)] [(.int (1 : Int32))]))
    refine own_st (fun t_ => XS.goto (own_here Y0) hx rfl (pc0 := 12) (pc' := 16) rfl (hb hby own_d3_12) (by decide) (by decide)) ?_
    show own_Ends _ _ _ _ (T0.setTop (mkF m 16 #[.val (.int x0), .val (.int x1), .val (.int x2)] [(.int (1 : Int32))]))
    refine own_retI Y0 hx hlk hret (hb hby own_d3_16) (by decide) (by decide) ?_
    exact ⟨by simp [own_cr, own_b, c2_5, c8_6], rfl⟩
   ·
    refine own_st (fun t_ => XS.icmpYes (own_here Y0) hx rfl (pc0 := 8) (pc' := 15) rfl (hb hby own_d3_8) rfl (XT.ii_ne_t c8_6) (by decide) (by decide)) ?_
    show own_Ends _ _ _ _ (T0.setTop (mkF m 15 #[.val (.int x0), .val (.int x1), .val (.int x2)] []))
    refine own_st (fun t_ => XS.iconst (own_here Y0) hx rfl (hb hby own_d3_15) ) ?_
    show own_Ends _ _ _ _ (T0.setTop (mkF m 16 #[.val (.int x0), .val (.int x1), .val (.int x2)] [(.int (0 : Int32))]))
    refine own_retI Y0 hx hlk hret (hb hby own_d3_16) (by decide) (by decide) ?_
    exact ⟨by simp [own_cr, own_b, c2_5, c8_6], rfl⟩
  ·
   refine own_st (fun t_ => XS.icmpYes (own_here Y0) hx rfl (pc0 := 2) (pc' := 15) rfl (hb hby own_d3_2) rfl (XT.ii_ge_t c2_5) (by decide) (by decide)) ?_
   show own_Ends _ _ _ _ (T0.setTop (mkF m 15 #[.val (.int x0), .val (.int x1), .val (.int x2)] []))
   refine own_st (fun t_ => XS.iconst (own_here Y0) hx rfl (hb hby own_d3_15) ) ?_
   show own_Ends _ _ _ _ (T0.setTop (mkF m 16 #[.val (.int x0), .val (.int x1), .val (.int x2)] [(.int (0 : Int32))]))
   refine own_retI Y0 hx hlk hret (hb hby own_d3_16) (by decide) (by decide) ?_
   exact ⟨by simp [own_cr, own_b, c2_5], rfl⟩
theorem own_d4_0 : decode method_5_code 0 = .ok (.iload_n 2, 1) := by decide +kernel
theorem own_d4_1 : decode method_5_code 1 = .ok (.iconst 1, 1) := by decide +kernel
theorem own_d4_2 : decode method_5_code 2 = .ok (.iadd, 1) := by decide +kernel
theorem own_d4_3 : decode method_5_code 3 = .ok (.iload_n 3, 1) := by decide +kernel
theorem own_d4_4 : decode method_5_code 4 = .ok (.if_icmp .ge 19, 3) := by decide +kernel
theorem own_d4_7 : decode method_5_code 7 = .ok (.iload_n 0, 1) := by decide +kernel
theorem own_d4_8 : decode method_5_code 8 = .ok (.bipush 13, 2) := by decide +kernel
theorem own_d4_10 : decode method_5_code 10 = .ok (.if_icmp .ne 13, 3) := by decide +kernel
theorem own_d4_13 : decode method_5_code 13 = .ok (.iload_n 1, 1) := by decide +kernel
theorem own_d4_14 : decode method_5_code 14 = .ok (.bipush 10, 2) := by decide +kernel
theorem own_d4_16 : decode method_5_code 16 = .ok (.if_icmp .ne 7, 3) := by decide +kernel
theorem own_d4_19 : decode method_5_code 19 = .ok (.iconst 1, 1) := by decide +kernel
theorem own_d4_20 : decode method_5_code 20 = .ok (.goto 4, 3) := by decide +kernel
theorem own_d4_24 : decode method_5_code 24 = .ok (.ireturn, 1) := by decide +kernel
theorem own_d4_23 : decode method_5_code 23 = .ok (.iconst 0, 1) := by decide +kernel
theorem own_ef_own_rm4 (m : MethodId) (x0 : Int32) (x1 : Int32) (x2 : Int32) (x3 : Int32) : entryFrame m #[(.int x0), (.int x1), (.int x2), (.int x3)] 4 = mkF m 0 #[.val (.int x0), .val (.int x1), .val (.int x2), .val (.int x3)] [] := by first | (simp [entryFrame, mkF, argsToLocals, Value.category]; done) | rfl
def own_Q_own_rm4 (Z : State) (x0 : Int32) (x1 : Int32) (x2 : Int32) (x3 : Int32) (h0 : Heap) (n0 : Nat) (v : Option Value) (h : Heap) : Prop := v = some (.int (own_b (own_pr x0 x1 x2 x3))) ∧ h0 = h
set_option maxRecDepth 65536 in
set_option maxHeartbeats 40000000 in
theorem own_rm4 (l : Launch) (Z : State) (a0 : Array Value) (hw : ∀ d ∈ tables_1, d.before a0 Z = true) (ws : List Jvm.Cond) (x0 : Int32) (x1 : Int32) (x2 : Int32) (x3 : Int32)  (h0 : Heap) (n0 : Nat)   :
    own_Con l Z (⟨"com/example/deft_wiring/deftwiring/context/XmlScannerLineAtPinLaw", "pair", "(BBII)I"⟩ : MethodName) method_5_code 4 (some .int) ws ({ frames := 0, cells := 0, slots := 0, locals := 0 } : Room) #[(.int x0), (.int x1), (.int x2), (.int x3)] h0 n0 (own_Q_own_rm4 Z x0 x1 x2 x3 h0 n0) := by
  refine own_body (plainFor_of_name own_pn0) ?_
  intro p e s m below meth c T0 hx hZ hby hml hown hnm hret hlk Y0
  replace hown : s.vm.findClass "com/example/deft_wiring/deftwiring/context/XmlScannerLineAtPinLaw" = some m.cls := hown
  replace hnm : meth.name = "pair" := hnm
  rw [own_ef_own_rm4 m x0 x1 x2 x3]
  show own_Ends _ _ _ _ (T0.setTop (mkF m 0 #[.val (.int x0), .val (.int x1), .val (.int x2), .val (.int x3)] []))
  refine own_st (fun t_ => XS.iloadN (own_here Y0) hx rfl (hb hby own_d4_0) rfl) ?_
  show own_Ends _ _ _ _ (T0.setTop (mkF m 1 #[.val (.int x0), .val (.int x1), .val (.int x2), .val (.int x3)] [(.int x2)]))
  refine own_st (fun t_ => XS.iconst (own_here Y0) hx rfl (hb hby own_d4_1) ) ?_
  show own_Ends _ _ _ _ (T0.setTop (mkF m 2 #[.val (.int x0), .val (.int x1), .val (.int x2), .val (.int x3)] [(.int (1 : Int32)), (.int x2)]))
  refine own_st (fun t_ => XS.iadd (own_here Y0) hx rfl (hb hby own_d4_2) rfl) ?_
  show own_Ends _ _ _ _ (T0.setTop (mkF m 3 #[.val (.int x0), .val (.int x1), .val (.int x2), .val (.int x3)] [(.int (x2 + (1 : Int32)))]))
  refine own_st (fun t_ => XS.iloadN (own_here Y0) hx rfl (hb hby own_d4_3) rfl) ?_
  show own_Ends _ _ _ _ (T0.setTop (mkF m 4 #[.val (.int x0), .val (.int x1), .val (.int x2), .val (.int x3)] [(.int x3), (.int (x2 + (1 : Int32)))]))
  by_cases c4_7 : (x2 + (1 : Int32)) < x3
  ·
   refine own_st (fun t_ => XS.icmpNo (own_here Y0) hx rfl (hb hby own_d4_4) rfl (XT.ii_ge_f c4_7)) ?_
   show own_Ends _ _ _ _ (T0.setTop (mkF m 7 #[.val (.int x0), .val (.int x1), .val (.int x2), .val (.int x3)] []))
   refine own_st (fun t_ => XS.iloadN (own_here Y0) hx rfl (hb hby own_d4_7) rfl) ?_
   show own_Ends _ _ _ _ (T0.setTop (mkF m 8 #[.val (.int x0), .val (.int x1), .val (.int x2), .val (.int x3)] [(.int x0)]))
   refine own_st (fun t_ => XS.bipush (own_here Y0) hx rfl (hb hby own_d4_8) ) ?_
   show own_Ends _ _ _ _ (T0.setTop (mkF m 10 #[.val (.int x0), .val (.int x1), .val (.int x2), .val (.int x3)] [(.int (13 : Int32)), (.int x0)]))
   by_cases c10_8 : x0 = (13 : Int32)
   ·
    refine own_st (fun t_ => XS.icmpNo (own_here Y0) hx rfl (hb hby own_d4_10) rfl (XT.ii_ne_f c10_8)) ?_
    show own_Ends _ _ _ _ (T0.setTop (mkF m 13 #[.val (.int x0), .val (.int x1), .val (.int x2), .val (.int x3)] []))
    refine own_st (fun t_ => XS.iloadN (own_here Y0) hx rfl (hb hby own_d4_13) rfl) ?_
    show own_Ends _ _ _ _ (T0.setTop (mkF m 14 #[.val (.int x0), .val (.int x1), .val (.int x2), .val (.int x3)] [(.int x1)]))
    refine own_st (fun t_ => XS.bipush (own_here Y0) hx rfl (hb hby own_d4_14) ) ?_
    show own_Ends _ _ _ _ (T0.setTop (mkF m 16 #[.val (.int x0), .val (.int x1), .val (.int x2), .val (.int x3)] [(.int (10 : Int32)), (.int x1)]))
    by_cases c16_9 : x1 = (10 : Int32)
    ·
     refine own_st (fun t_ => XS.icmpNo (own_here Y0) hx rfl (hb hby own_d4_16) rfl (XT.ii_ne_f c16_9)) ?_
     show own_Ends _ _ _ _ (T0.setTop (mkF m 19 #[.val (.int x0), .val (.int x1), .val (.int x2), .val (.int x3)] []))
     refine own_st (fun t_ => XS.iconst (own_here Y0) hx rfl (hb hby own_d4_19) ) ?_
     show own_Ends _ _ _ _ (T0.setTop (mkF m 20 #[.val (.int x0), .val (.int x1), .val (.int x2), .val (.int x3)] [(.int (1 : Int32))]))
     refine own_st (fun t_ => XS.goto (own_here Y0) hx rfl (pc0 := 20) (pc' := 24) rfl (hb hby own_d4_20) (by decide) (by decide)) ?_
     show own_Ends _ _ _ _ (T0.setTop (mkF m 24 #[.val (.int x0), .val (.int x1), .val (.int x2), .val (.int x3)] [(.int (1 : Int32))]))
     refine own_retI Y0 hx hlk hret (hb hby own_d4_24) (by decide) (by decide) ?_
     exact ⟨by simp [own_pr, own_b, c4_7, c10_8, c16_9], rfl⟩
    ·
     refine own_st (fun t_ => XS.icmpYes (own_here Y0) hx rfl (pc0 := 16) (pc' := 23) rfl (hb hby own_d4_16) rfl (XT.ii_ne_t c16_9) (by decide) (by decide)) ?_
     show own_Ends _ _ _ _ (T0.setTop (mkF m 23 #[.val (.int x0), .val (.int x1), .val (.int x2), .val (.int x3)] []))
     refine own_st (fun t_ => XS.iconst (own_here Y0) hx rfl (hb hby own_d4_23) ) ?_
     show own_Ends _ _ _ _ (T0.setTop (mkF m 24 #[.val (.int x0), .val (.int x1), .val (.int x2), .val (.int x3)] [(.int (0 : Int32))]))
     refine own_retI Y0 hx hlk hret (hb hby own_d4_24) (by decide) (by decide) ?_
     exact ⟨by simp [own_pr, own_b, c4_7, c10_8, c16_9], rfl⟩
   ·
    refine own_st (fun t_ => XS.icmpYes (own_here Y0) hx rfl (pc0 := 10) (pc' := 23) rfl (hb hby own_d4_10) rfl (XT.ii_ne_t c10_8) (by decide) (by decide)) ?_
    show own_Ends _ _ _ _ (T0.setTop (mkF m 23 #[.val (.int x0), .val (.int x1), .val (.int x2), .val (.int x3)] []))
    refine own_st (fun t_ => XS.iconst (own_here Y0) hx rfl (hb hby own_d4_23) ) ?_
    show own_Ends _ _ _ _ (T0.setTop (mkF m 24 #[.val (.int x0), .val (.int x1), .val (.int x2), .val (.int x3)] [(.int (0 : Int32))]))
    refine own_retI Y0 hx hlk hret (hb hby own_d4_24) (by decide) (by decide) ?_
    exact ⟨by simp [own_pr, own_b, c4_7, c10_8], rfl⟩
  ·
   refine own_st (fun t_ => XS.icmpYes (own_here Y0) hx rfl (pc0 := 4) (pc' := 23) rfl (hb hby own_d4_4) rfl (XT.ii_ge_t c4_7) (by decide) (by decide)) ?_
   show own_Ends _ _ _ _ (T0.setTop (mkF m 23 #[.val (.int x0), .val (.int x1), .val (.int x2), .val (.int x3)] []))
   refine own_st (fun t_ => XS.iconst (own_here Y0) hx rfl (hb hby own_d4_23) ) ?_
   show own_Ends _ _ _ _ (T0.setTop (mkF m 24 #[.val (.int x0), .val (.int x1), .val (.int x2), .val (.int x3)] [(.int (0 : Int32))]))
   refine own_retI Y0 hx hlk hret (hb hby own_d4_24) (by decide) (by decide) ?_
   exact ⟨by simp [own_pr, own_b, c4_7], rfl⟩
theorem own_pn1 : plainName "com/example/deft_wiring/deftwiring/context/XmlScanner" = true := by first | (simp [plainName, overriddenIn]; done) | decide +kernel
theorem own_d5_0 : decode prog_76_method_26_code 0 = .ok (.iconst 1, 1) := by decide +kernel
theorem own_d5_1 : decode prog_76_method_26_code 1 = .ok (.istore_n 2, 1) := by decide +kernel
theorem own_d5_2 : decode prog_76_method_26_code 2 = .ok (.iconst 0, 1) := by decide +kernel
theorem own_d5_3 : decode prog_76_method_26_code 3 = .ok (.istore_n 3, 1) := by decide +kernel
theorem own_d5_4 : decode prog_76_method_26_code 4 = .ok (.iload_n 3, 1) := by decide +kernel
theorem own_d5_5 : decode prog_76_method_26_code 5 = .ok (.iload_n 1, 1) := by decide +kernel
theorem own_d5_6 : decode prog_76_method_26_code 6 = .ok (.if_icmp .ge 45, 3) := by decide +kernel
theorem own_d5_9 : decode prog_76_method_26_code 9 = .ok (.aload_n 0, 1) := by decide +kernel
theorem own_d5_10 : decode prog_76_method_26_code 10 = .ok (.iload_n 3, 1) := by decide +kernel
theorem own_d5_11 : decode prog_76_method_26_code 11 = .ok (.baload, 1) := by decide +kernel
theorem own_d5_12 : decode prog_76_method_26_code 12 = .ok (.bipush 10, 2) := by decide +kernel
theorem own_d5_14 : decode prog_76_method_26_code 14 = .ok (.if_icmp .eq 28, 3) := by decide +kernel
theorem own_d5_42 : decode prog_76_method_26_code 42 = .ok (.iinc 2 1, 3) := by decide +kernel
theorem own_d5_45 : decode prog_76_method_26_code 45 = .ok (.iinc 3 1, 3) := by decide +kernel
theorem own_d5_48 : decode prog_76_method_26_code 48 = .ok (.goto (-44), 3) := by decide +kernel
theorem own_d5_17 : decode prog_76_method_26_code 17 = .ok (.aload_n 0, 1) := by decide +kernel
theorem own_d5_18 : decode prog_76_method_26_code 18 = .ok (.iload_n 3, 1) := by decide +kernel
theorem own_d5_19 : decode prog_76_method_26_code 19 = .ok (.baload, 1) := by decide +kernel
theorem own_d5_20 : decode prog_76_method_26_code 20 = .ok (.bipush 13, 2) := by decide +kernel
theorem own_d5_22 : decode prog_76_method_26_code 22 = .ok (.if_icmp .ne 23, 3) := by decide +kernel
theorem own_d5_25 : decode prog_76_method_26_code 25 = .ok (.iload_n 3, 1) := by decide +kernel
theorem own_d5_26 : decode prog_76_method_26_code 26 = .ok (.iconst 1, 1) := by decide +kernel
theorem own_d5_27 : decode prog_76_method_26_code 27 = .ok (.iadd, 1) := by decide +kernel
theorem own_d5_28 : decode prog_76_method_26_code 28 = .ok (.iload_n 1, 1) := by decide +kernel
theorem own_d5_29 : decode prog_76_method_26_code 29 = .ok (.if_icmp .eq 13, 3) := by decide +kernel
theorem own_d5_32 : decode prog_76_method_26_code 32 = .ok (.aload_n 0, 1) := by decide +kernel
theorem own_d5_33 : decode prog_76_method_26_code 33 = .ok (.iload_n 3, 1) := by decide +kernel
theorem own_d5_34 : decode prog_76_method_26_code 34 = .ok (.iconst 1, 1) := by decide +kernel
theorem own_d5_35 : decode prog_76_method_26_code 35 = .ok (.iadd, 1) := by decide +kernel
theorem own_d5_36 : decode prog_76_method_26_code 36 = .ok (.baload, 1) := by decide +kernel
theorem own_d5_37 : decode prog_76_method_26_code 37 = .ok (.bipush 10, 2) := by decide +kernel
theorem own_d5_39 : decode prog_76_method_26_code 39 = .ok (.if_icmp .eq 6, 3) := by decide +kernel
theorem own_d5_51 : decode prog_76_method_26_code 51 = .ok (.iload_n 2, 1) := by decide +kernel
theorem own_d5_52 : decode prog_76_method_26_code 52 = .ok (.ireturn, 1) := by decide +kernel
theorem own_ef_own_rm5 (m : MethodId) (r0 : Addr) (x1 : Int32) : entryFrame m #[(.ref r0), (.int x1)] 4 = mkF m 0 #[.val (.ref r0), .val (.int x1), .unset, .unset] [] := by first | (simp [entryFrame, mkF, argsToLocals, Value.category]; done) | rfl
def own_Q_own_rm5 (Z : State) (xs : List Int32) (t : Nat) (h0 : Heap) (n0 : Nat) (v : Option Value) (h : Heap) : Prop := v = some (.int (own_acc xs t 0 t 1)) ∧ h0 = h
set_option maxRecDepth 65536 in
set_option maxHeartbeats 40000000 in
theorem own_rm5 (l : Launch) (Z : State) (a0 : Array Value) (hw : ∀ d ∈ tables_1, d.before a0 Z = true) (ws : List Jvm.Cond) (r0 : Addr) (x1 : Int32) (xs : List Int32) (t : Nat) (h0 : Heap) (n0 : Nat)  (A : own_A Z h0 r0 .byte (xs.map Value.int)) (ht : x1.toInt = (t : Int)) (htl : t ≤ xs.length) (hts : t < 2147483647) :
    own_Con l Z (⟨"com/example/deft_wiring/deftwiring/context/XmlScanner", "lineAt", "([BI)I"⟩ : MethodName) prog_76_method_26_code 4 (some .int) ws ({ frames := 0, cells := 0, slots := 0, locals := 0 } : Room) #[(.ref r0), (.int x1)] h0 n0 (own_Q_own_rm5 Z xs t h0 n0) := by
  refine own_body (plainFor_of_name own_pn1) ?_
  intro p e s m below meth c T0 hx hZ hby hml hown hnm hret hlk Y0
  replace hown : s.vm.findClass "com/example/deft_wiring/deftwiring/context/XmlScanner" = some m.cls := hown
  replace hnm : meth.name = "lineAt" := hnm
  rw [own_ef_own_rm5 m r0 x1]
  show own_Ends _ _ _ _ (T0.setTop (mkF m 0 #[.val (.ref r0), .val (.int x1), .unset, .unset] []))
  obtain ⟨R, hR0⟩ : ∃ R, own_acc xs t 0 t 1 = R := ⟨_, rfl⟩
  refine own_st (fun t_ => XS.iconst (own_here Y0) hx rfl (hb hby own_d5_0) ) ?_
  show own_Ends _ _ _ _ (T0.setTop (mkF m 1 #[.val (.ref r0), .val (.int x1), .unset, .unset] [(.int (1 : Int32))]))
  refine own_st (fun t_ => XS.istoreN (own_here Y0) hx rfl (hb hby own_d5_1) rfl (l' := #[.val (.ref r0), .val (.int x1), .val (.int (1 : Int32)), .unset]) rfl) ?_
  show own_Ends _ _ _ _ (T0.setTop (mkF m 2 #[.val (.ref r0), .val (.int x1), .val (.int (1 : Int32)), .unset] []))
  refine own_st (fun t_ => XS.iconst (own_here Y0) hx rfl (hb hby own_d5_2) ) ?_
  show own_Ends _ _ _ _ (T0.setTop (mkF m 3 #[.val (.ref r0), .val (.int x1), .val (.int (1 : Int32)), .unset] [(.int (0 : Int32))]))
  refine own_st (fun t_ => XS.istoreN (own_here Y0) hx rfl (hb hby own_d5_3) rfl (l' := #[.val (.ref r0), .val (.int x1), .val (.int (1 : Int32)), .val (.int (0 : Int32))]) rfl) ?_
  show own_Ends _ _ _ _ (T0.setTop (mkF m 4 #[.val (.ref r0), .val (.int x1), .val (.int (1 : Int32)), .val (.int (0 : Int32))] []))
  have hL10 : ∀ (k : Nat) (T11 : State)  (i : Nat) (j a_ : Int32) (Y12 : own_S p l e ({ frames := 0, cells := 0, slots := 0, locals := 0 } : Room) s m #[(.ref r0), (.int x1)] below meth c n0 T11 h0 0 0)  (hj : j.toInt = (i : Int)) (hik : i + k = t) (hR : own_acc xs t i k a_ = R), own_Ends p.tables e below (own_P s n0 (own_Q_own_rm5 Z xs t h0 n0) ({ frames := 0, cells := 0, slots := 0, locals := 0 } : Room).cells ({ frames := 0, cells := 0, slots := 0, locals := 0 } : Room).slots) (T11.setTop (mkF m 4 #[.val (.ref r0), .val (.int x1), .val (.int a_), .val (.int j)] [])) := by
   intro k
   induction k using Nat.strongRecOn with
   | _ k ih =>
    intro T11  i j a_ Y12  hj hik hR
    obtain ⟨hj0, hj1⟩ := own_nat hj
    refine own_st (fun t_ => XS.iloadN (own_here Y12) hx rfl (hb hby own_d5_4) rfl) ?_
    show own_Ends _ _ _ _ (T11.setTop (mkF m 5 #[.val (.ref r0), .val (.int x1), .val (.int a_), .val (.int j)] [(.int j)]))
    refine own_st (fun t_ => XS.iloadN (own_here Y12) hx rfl (hb hby own_d5_5) rfl) ?_
    show own_Ends _ _ _ _ (T11.setTop (mkF m 6 #[.val (.ref r0), .val (.int x1), .val (.int a_), .val (.int j)] [(.int x1), (.int j)]))
    by_cases c6_13 : j < x1
    ·
     refine own_st (fun t_ => XS.icmpNo (own_here Y12) hx rfl (hb hby own_d5_6) rfl (XT.ii_ge_f c6_13)) ?_
     show own_Ends _ _ _ _ (T11.setTop (mkF m 9 #[.val (.ref r0), .val (.int x1), .val (.int a_), .val (.int j)] []))
     have hlt : i < t := by have := c6_13; rw [own_lt, hj, ht] at this; omega
     obtain ⟨k', rfl⟩ : ∃ k', k = k' + 1 := ⟨k - 1, by omega⟩
     have hn := own_inc hj (by omega)
     obtain ⟨hn0, hn1⟩ := own_nat hn
     refine own_st (fun t_ => XS.aloadN (own_here Y12) hx rfl (hb hby own_d5_9) rfl rfl) ?_
     show own_Ends _ _ _ _ (T11.setTop (mkF m 10 #[.val (.ref r0), .val (.int x1), .val (.int a_), .val (.int j)] [(.ref r0)]))
     refine own_st (fun t_ => XS.iloadN (own_here Y12) hx rfl (hb hby own_d5_10) rfl) ?_
     show own_Ends _ _ _ _ (T11.setTop (mkF m 11 #[.val (.ref r0), .val (.int x1), .val (.int a_), .val (.int j)] [(.int j), (.ref r0)]))
     refine own_ldB Y12 hx hZ A (i := i) hj0 hj1 (own_mlen (by omega)) (v := (.int (own_g xs i))) (own_mget (own_mlen (by omega))) rfl rfl (hb hby own_d5_11) ?_
     show own_Ends _ _ _ _ (T11.setTop (mkF m 12 #[.val (.ref r0), .val (.int x1), .val (.int a_), .val (.int j)] [(.int (own_g xs i))]))
     refine own_st (fun t_ => XS.bipush (own_here Y12) hx rfl (hb hby own_d5_12) ) ?_
     show own_Ends _ _ _ _ (T11.setTop (mkF m 14 #[.val (.ref r0), .val (.int x1), .val (.int a_), .val (.int j)] [(.int (10 : Int32)), (.int (own_g xs i))]))
     by_cases c14_14 : (own_g xs i) = (10 : Int32)
     ·
      refine own_st (fun t_ => XS.icmpYes (own_here Y12) hx rfl (pc0 := 14) (pc' := 42) rfl (hb hby own_d5_14) rfl (XT.ii_eq_t c14_14) (by decide) (by decide)) ?_
      show own_Ends _ _ _ _ (T11.setTop (mkF m 42 #[.val (.ref r0), .val (.int x1), .val (.int a_), .val (.int j)] []))
      refine own_st (fun t_ => XS.iinc (own_here Y12) hx rfl (hb hby own_d5_42) rfl (l' := #[.val (.ref r0), .val (.int x1), .val (.int (a_ + (1 : Int32))), .val (.int j)]) rfl) ?_
      show own_Ends _ _ _ _ (T11.setTop (mkF m 45 #[.val (.ref r0), .val (.int x1), .val (.int (a_ + (1 : Int32))), .val (.int j)] []))
      have hst : own_step xs t i = true := by simp [own_step, c14_14]
      have hR2 : own_acc xs t (i + 1) k' (a_ + (1 : Int32)) = R := by rw [← hR]; show _ = own_acc xs t (i + 1) k' (a_ + own_b (own_step xs t i)); rw [hst]; rfl
      refine own_st (fun t_ => XS.iinc (own_here Y12) hx rfl (hb hby own_d5_45) rfl (l' := #[.val (.ref r0), .val (.int x1), .val (.int (a_ + (1 : Int32))), .val (.int (j + (1 : Int32)))]) rfl) ?_
      show own_Ends _ _ _ _ (T11.setTop (mkF m 48 #[.val (.ref r0), .val (.int x1), .val (.int (a_ + (1 : Int32))), .val (.int (j + (1 : Int32)))] []))
      refine own_st (fun t_ => XS.goto (own_here Y12) hx rfl (pc0 := 48) (pc' := 4) rfl (hb hby own_d5_48) (by decide) (by decide)) ?_
      show own_Ends _ _ _ _ (T11.setTop (mkF m 4 #[.val (.ref r0), .val (.int x1), .val (.int (a_ + (1 : Int32))), .val (.int (j + (1 : Int32)))] []))
      exact ih k' (by omega) T11  (i + 1) ((j + (1 : Int32))) ((a_ + (1 : Int32))) Y12  (own_inc hj (by omega)) (by omega) hR2
     ·
      refine own_st (fun t_ => XS.icmpNo (own_here Y12) hx rfl (hb hby own_d5_14) rfl (XT.ii_eq_f c14_14)) ?_
      show own_Ends _ _ _ _ (T11.setTop (mkF m 17 #[.val (.ref r0), .val (.int x1), .val (.int a_), .val (.int j)] []))
      refine own_st (fun t_ => XS.aloadN (own_here Y12) hx rfl (hb hby own_d5_17) rfl rfl) ?_
      show own_Ends _ _ _ _ (T11.setTop (mkF m 18 #[.val (.ref r0), .val (.int x1), .val (.int a_), .val (.int j)] [(.ref r0)]))
      refine own_st (fun t_ => XS.iloadN (own_here Y12) hx rfl (hb hby own_d5_18) rfl) ?_
      show own_Ends _ _ _ _ (T11.setTop (mkF m 19 #[.val (.ref r0), .val (.int x1), .val (.int a_), .val (.int j)] [(.int j), (.ref r0)]))
      refine own_ldB Y12 hx hZ A (i := i) hj0 hj1 (own_mlen (by omega)) (v := (.int (own_g xs i))) (own_mget (own_mlen (by omega))) rfl rfl (hb hby own_d5_19) ?_
      show own_Ends _ _ _ _ (T11.setTop (mkF m 20 #[.val (.ref r0), .val (.int x1), .val (.int a_), .val (.int j)] [(.int (own_g xs i))]))
      refine own_st (fun t_ => XS.bipush (own_here Y12) hx rfl (hb hby own_d5_20) ) ?_
      show own_Ends _ _ _ _ (T11.setTop (mkF m 22 #[.val (.ref r0), .val (.int x1), .val (.int a_), .val (.int j)] [(.int (13 : Int32)), (.int (own_g xs i))]))
      by_cases c22_15 : (own_g xs i) = (13 : Int32)
      ·
       refine own_st (fun t_ => XS.icmpNo (own_here Y12) hx rfl (hb hby own_d5_22) rfl (XT.ii_ne_f c22_15)) ?_
       show own_Ends _ _ _ _ (T11.setTop (mkF m 25 #[.val (.ref r0), .val (.int x1), .val (.int a_), .val (.int j)] []))
       refine own_st (fun t_ => XS.iloadN (own_here Y12) hx rfl (hb hby own_d5_25) rfl) ?_
       show own_Ends _ _ _ _ (T11.setTop (mkF m 26 #[.val (.ref r0), .val (.int x1), .val (.int a_), .val (.int j)] [(.int j)]))
       refine own_st (fun t_ => XS.iconst (own_here Y12) hx rfl (hb hby own_d5_26) ) ?_
       show own_Ends _ _ _ _ (T11.setTop (mkF m 27 #[.val (.ref r0), .val (.int x1), .val (.int a_), .val (.int j)] [(.int (1 : Int32)), (.int j)]))
       refine own_st (fun t_ => XS.iadd (own_here Y12) hx rfl (hb hby own_d5_27) rfl) ?_
       show own_Ends _ _ _ _ (T11.setTop (mkF m 28 #[.val (.ref r0), .val (.int x1), .val (.int a_), .val (.int j)] [(.int (j + (1 : Int32)))]))
       refine own_st (fun t_ => XS.iloadN (own_here Y12) hx rfl (hb hby own_d5_28) rfl) ?_
       show own_Ends _ _ _ _ (T11.setTop (mkF m 29 #[.val (.ref r0), .val (.int x1), .val (.int a_), .val (.int j)] [(.int x1), (.int (j + (1 : Int32)))]))
       by_cases c29_16 : (j + (1 : Int32)) = x1
       ·
        refine own_st (fun t_ => XS.icmpYes (own_here Y12) hx rfl (pc0 := 29) (pc' := 42) rfl (hb hby own_d5_29) rfl (XT.ii_eq_t c29_16) (by decide) (by decide)) ?_
        show own_Ends _ _ _ _ (T11.setTop (mkF m 42 #[.val (.ref r0), .val (.int x1), .val (.int a_), .val (.int j)] []))
        refine own_st (fun t_ => XS.iinc (own_here Y12) hx rfl (hb hby own_d5_42) rfl (l' := #[.val (.ref r0), .val (.int x1), .val (.int (a_ + (1 : Int32))), .val (.int j)]) rfl) ?_
        show own_Ends _ _ _ _ (T11.setTop (mkF m 45 #[.val (.ref r0), .val (.int x1), .val (.int (a_ + (1 : Int32))), .val (.int j)] []))
        have e29 : i + 1 = t := by have := c29_16; rw [own_eq, hn, ht] at this; omega
        have hst : own_step xs t i = true := by simp [own_step, c14_14, c22_15, e29]
        have hR2 : own_acc xs t (i + 1) k' (a_ + (1 : Int32)) = R := by rw [← hR]; show _ = own_acc xs t (i + 1) k' (a_ + own_b (own_step xs t i)); rw [hst]; rfl
        refine own_st (fun t_ => XS.iinc (own_here Y12) hx rfl (hb hby own_d5_45) rfl (l' := #[.val (.ref r0), .val (.int x1), .val (.int (a_ + (1 : Int32))), .val (.int (j + (1 : Int32)))]) rfl) ?_
        show own_Ends _ _ _ _ (T11.setTop (mkF m 48 #[.val (.ref r0), .val (.int x1), .val (.int (a_ + (1 : Int32))), .val (.int (j + (1 : Int32)))] []))
        refine own_st (fun t_ => XS.goto (own_here Y12) hx rfl (pc0 := 48) (pc' := 4) rfl (hb hby own_d5_48) (by decide) (by decide)) ?_
        show own_Ends _ _ _ _ (T11.setTop (mkF m 4 #[.val (.ref r0), .val (.int x1), .val (.int (a_ + (1 : Int32))), .val (.int (j + (1 : Int32)))] []))
        exact ih k' (by omega) T11  (i + 1) ((j + (1 : Int32))) ((a_ + (1 : Int32))) Y12  (own_inc hj (by omega)) (by omega) hR2
       ·
        refine own_st (fun t_ => XS.icmpNo (own_here Y12) hx rfl (hb hby own_d5_29) rfl (XT.ii_eq_f c29_16)) ?_
        show own_Ends _ _ _ _ (T11.setTop (mkF m 32 #[.val (.ref r0), .val (.int x1), .val (.int a_), .val (.int j)] []))
        have hne : i + 1 < t := by have := c29_16; rw [own_eq, hn, ht] at this; omega
        refine own_st (fun t_ => XS.aloadN (own_here Y12) hx rfl (hb hby own_d5_32) rfl rfl) ?_
        show own_Ends _ _ _ _ (T11.setTop (mkF m 33 #[.val (.ref r0), .val (.int x1), .val (.int a_), .val (.int j)] [(.ref r0)]))
        refine own_st (fun t_ => XS.iloadN (own_here Y12) hx rfl (hb hby own_d5_33) rfl) ?_
        show own_Ends _ _ _ _ (T11.setTop (mkF m 34 #[.val (.ref r0), .val (.int x1), .val (.int a_), .val (.int j)] [(.int j), (.ref r0)]))
        refine own_st (fun t_ => XS.iconst (own_here Y12) hx rfl (hb hby own_d5_34) ) ?_
        show own_Ends _ _ _ _ (T11.setTop (mkF m 35 #[.val (.ref r0), .val (.int x1), .val (.int a_), .val (.int j)] [(.int (1 : Int32)), (.int j), (.ref r0)]))
        refine own_st (fun t_ => XS.iadd (own_here Y12) hx rfl (hb hby own_d5_35) rfl) ?_
        show own_Ends _ _ _ _ (T11.setTop (mkF m 36 #[.val (.ref r0), .val (.int x1), .val (.int a_), .val (.int j)] [(.int (j + (1 : Int32))), (.ref r0)]))
        refine own_ldB Y12 hx hZ A (i := (i + 1)) hn0 hn1 (own_mlen (by omega)) (v := (.int (own_g xs (i + 1)))) (own_mget (own_mlen (by omega))) rfl rfl (hb hby own_d5_36) ?_
        show own_Ends _ _ _ _ (T11.setTop (mkF m 37 #[.val (.ref r0), .val (.int x1), .val (.int a_), .val (.int j)] [(.int (own_g xs (i + 1)))]))
        refine own_st (fun t_ => XS.bipush (own_here Y12) hx rfl (hb hby own_d5_37) ) ?_
        show own_Ends _ _ _ _ (T11.setTop (mkF m 39 #[.val (.ref r0), .val (.int x1), .val (.int a_), .val (.int j)] [(.int (10 : Int32)), (.int (own_g xs (i + 1)))]))
        by_cases c39_17 : (own_g xs (i + 1)) = (10 : Int32)
        ·
         refine own_st (fun t_ => XS.icmpYes (own_here Y12) hx rfl (pc0 := 39) (pc' := 45) rfl (hb hby own_d5_39) rfl (XT.ii_eq_t c39_17) (by decide) (by decide)) ?_
         show own_Ends _ _ _ _ (T11.setTop (mkF m 45 #[.val (.ref r0), .val (.int x1), .val (.int a_), .val (.int j)] []))
         have e29 : ¬ i + 1 = t := by have := c29_16; rw [own_eq, hn, ht] at this; omega
         have hst : own_step xs t i = false := by simp [own_step, c14_14, c22_15, e29, c39_17]
         have hR2 : own_acc xs t (i + 1) k' a_ = R := by rw [← hR]; show _ = own_acc xs t (i + 1) k' (a_ + own_b (own_step xs t i)); rw [hst, own_b_f rfl, Int32.add_zero]
         refine own_st (fun t_ => XS.iinc (own_here Y12) hx rfl (hb hby own_d5_45) rfl (l' := #[.val (.ref r0), .val (.int x1), .val (.int a_), .val (.int (j + (1 : Int32)))]) rfl) ?_
         show own_Ends _ _ _ _ (T11.setTop (mkF m 48 #[.val (.ref r0), .val (.int x1), .val (.int a_), .val (.int (j + (1 : Int32)))] []))
         refine own_st (fun t_ => XS.goto (own_here Y12) hx rfl (pc0 := 48) (pc' := 4) rfl (hb hby own_d5_48) (by decide) (by decide)) ?_
         show own_Ends _ _ _ _ (T11.setTop (mkF m 4 #[.val (.ref r0), .val (.int x1), .val (.int a_), .val (.int (j + (1 : Int32)))] []))
         exact ih k' (by omega) T11  (i + 1) ((j + (1 : Int32))) (a_) Y12  (own_inc hj (by omega)) (by omega) hR2
        ·
         refine own_st (fun t_ => XS.icmpNo (own_here Y12) hx rfl (hb hby own_d5_39) rfl (XT.ii_eq_f c39_17)) ?_
         show own_Ends _ _ _ _ (T11.setTop (mkF m 42 #[.val (.ref r0), .val (.int x1), .val (.int a_), .val (.int j)] []))
         refine own_st (fun t_ => XS.iinc (own_here Y12) hx rfl (hb hby own_d5_42) rfl (l' := #[.val (.ref r0), .val (.int x1), .val (.int (a_ + (1 : Int32))), .val (.int j)]) rfl) ?_
         show own_Ends _ _ _ _ (T11.setTop (mkF m 45 #[.val (.ref r0), .val (.int x1), .val (.int (a_ + (1 : Int32))), .val (.int j)] []))
         have e29 : ¬ i + 1 = t := by have := c29_16; rw [own_eq, hn, ht] at this; omega
         have hst : own_step xs t i = true := by simp [own_step, c14_14, c22_15, e29, c39_17]
         have hR2 : own_acc xs t (i + 1) k' (a_ + (1 : Int32)) = R := by rw [← hR]; show _ = own_acc xs t (i + 1) k' (a_ + own_b (own_step xs t i)); rw [hst]; rfl
         refine own_st (fun t_ => XS.iinc (own_here Y12) hx rfl (hb hby own_d5_45) rfl (l' := #[.val (.ref r0), .val (.int x1), .val (.int (a_ + (1 : Int32))), .val (.int (j + (1 : Int32)))]) rfl) ?_
         show own_Ends _ _ _ _ (T11.setTop (mkF m 48 #[.val (.ref r0), .val (.int x1), .val (.int (a_ + (1 : Int32))), .val (.int (j + (1 : Int32)))] []))
         refine own_st (fun t_ => XS.goto (own_here Y12) hx rfl (pc0 := 48) (pc' := 4) rfl (hb hby own_d5_48) (by decide) (by decide)) ?_
         show own_Ends _ _ _ _ (T11.setTop (mkF m 4 #[.val (.ref r0), .val (.int x1), .val (.int (a_ + (1 : Int32))), .val (.int (j + (1 : Int32)))] []))
         exact ih k' (by omega) T11  (i + 1) ((j + (1 : Int32))) ((a_ + (1 : Int32))) Y12  (own_inc hj (by omega)) (by omega) hR2
      ·
       refine own_st (fun t_ => XS.icmpYes (own_here Y12) hx rfl (pc0 := 22) (pc' := 45) rfl (hb hby own_d5_22) rfl (XT.ii_ne_t c22_15) (by decide) (by decide)) ?_
       show own_Ends _ _ _ _ (T11.setTop (mkF m 45 #[.val (.ref r0), .val (.int x1), .val (.int a_), .val (.int j)] []))
       have hst : own_step xs t i = false := by simp [own_step, c14_14, c22_15]
       have hR2 : own_acc xs t (i + 1) k' a_ = R := by rw [← hR]; show _ = own_acc xs t (i + 1) k' (a_ + own_b (own_step xs t i)); rw [hst, own_b_f rfl, Int32.add_zero]
       refine own_st (fun t_ => XS.iinc (own_here Y12) hx rfl (hb hby own_d5_45) rfl (l' := #[.val (.ref r0), .val (.int x1), .val (.int a_), .val (.int (j + (1 : Int32)))]) rfl) ?_
       show own_Ends _ _ _ _ (T11.setTop (mkF m 48 #[.val (.ref r0), .val (.int x1), .val (.int a_), .val (.int (j + (1 : Int32)))] []))
       refine own_st (fun t_ => XS.goto (own_here Y12) hx rfl (pc0 := 48) (pc' := 4) rfl (hb hby own_d5_48) (by decide) (by decide)) ?_
       show own_Ends _ _ _ _ (T11.setTop (mkF m 4 #[.val (.ref r0), .val (.int x1), .val (.int a_), .val (.int (j + (1 : Int32)))] []))
       exact ih k' (by omega) T11  (i + 1) ((j + (1 : Int32))) (a_) Y12  (own_inc hj (by omega)) (by omega) hR2
    ·
     refine own_st (fun t_ => XS.icmpYes (own_here Y12) hx rfl (pc0 := 6) (pc' := 51) rfl (hb hby own_d5_6) rfl (XT.ii_ge_t c6_13) (by decide) (by decide)) ?_
     show own_Ends _ _ _ _ (T11.setTop (mkF m 51 #[.val (.ref r0), .val (.int x1), .val (.int a_), .val (.int j)] []))
     refine own_st (fun t_ => XS.iloadN (own_here Y12) hx rfl (hb hby own_d5_51) rfl) ?_
     show own_Ends _ _ _ _ (T11.setTop (mkF m 52 #[.val (.ref r0), .val (.int x1), .val (.int a_), .val (.int j)] [(.int a_)]))
     refine own_retI Y12 hx hlk hret (hb hby own_d5_52) (by decide) (by decide) ?_
     refine ⟨?_, rfl⟩
     have hk : k = 0 := by have := c6_13; rw [own_lt, hj, ht] at this; omega
     subst hk
     rw [hR0, ← hR]; rfl
  exact hL10 t T0  (0) (0) (1) Y0  rfl (by omega) hR0
theorem own_pd0 : parseMethodDescriptor "(I)B" = some ⟨[.int], some .byte⟩ := by decide +kernel
theorem own_pd1 : parseMethodDescriptor "(BII)I" = some ⟨[.byte, .int, .int], some .int⟩ := by decide +kernel
theorem own_pd2 : parseMethodDescriptor "(BBII)I" = some ⟨[.byte, .byte, .int, .int], some .int⟩ := by decide +kernel
theorem own_pd3 : parseMethodDescriptor "([BI)I" = some ⟨[(.array .byte), .int], some .int⟩ := by decide +kernel
theorem own_ef_own_rm0 (m : MethodId) (x0 : Int32) (x1 : Int32) (x2 : Int32) (x3 : Int32) (x4 : Int32) (x5 : Int32) : entryFrame m #[(.int x0), (.int x1), (.int x2), (.int x3), (.int x4), (.int x5)] maxLocals = mkF m 0 #[.val (.int x0), .val (.int x1), .val (.int x2), .val (.int x3), .val (.int x4), .val (.int x5), .unset, .unset, .unset, .unset, .unset, .unset, .unset, .unset, .unset, .unset, .unset] [] := by first | (simp [entryFrame, mkF, argsToLocals, Value.category, maxLocals]; done) | rfl
def own_Q_own_rm0 (Z : State) (x0 : Int32) (x1 : Int32) (x2 : Int32) (x3 : Int32) (x4 : Int32) (x5 : Int32) (h0 : Heap) (n0 : Nat) (v : Option Value) (h : Heap) : Prop := v = some (.int 1)
set_option maxRecDepth 65536 in
set_option maxHeartbeats 40000000 in
theorem own_rm0 (l : Launch) (Z : State) (a0 : Array Value) (hw : ∀ d ∈ tables_1, d.before a0 Z = true) (ws : List Jvm.Cond) (x0 : Int32) (x1 : Int32) (x2 : Int32) (x3 : Int32) (x4 : Int32) (x5 : Int32)  (h0 : Heap) (n0 : Nat) (Z0 : n0 ≤ h0.size)  :
    own_Con l Z x code maxLocals ret ws room_1 #[(.int x0), (.int x1), (.int x2), (.int x3), (.int x4), (.int x5)] h0 n0 (own_Q_own_rm0 Z x0 x1 x2 x3 x4 x5 h0 n0) := by
  refine own_body (plainFor_of_name own_pn0) ?_
  intro p e s m below meth c T0 hx hZ hby hml hown hnm hret hlk Y0
  replace hown : s.vm.findClass "com/example/deft_wiring/deftwiring/context/XmlScannerLineAtPinLaw" = some m.cls := hown
  replace hml : c.maxLocals = 17 := hml
  replace hret : meth.sig.returnType = some .boolean := hret
  rw [own_ef_own_rm0 m x0 x1 x2 x3 x4 x5]
  show own_Ends _ _ _ _ (T0.setTop (mkF m 0 #[.val (.int x0), .val (.int x1), .val (.int x2), .val (.int x3), .val (.int x4), .val (.int x5), .unset, .unset, .unset, .unset, .unset, .unset, .unset, .unset, .unset, .unset, .unset] []))
  refine own_st (fun t_ => XS.iloadN (own_here Y0) hx rfl (hb hby at_0) rfl) ?_
  show own_Ends _ _ _ _ (T0.setTop (mkF m 1 #[.val (.int x0), .val (.int x1), .val (.int x2), .val (.int x3), .val (.int x4), .val (.int x5), .unset, .unset, .unset, .unset, .unset, .unset, .unset, .unset, .unset, .unset, .unset] [(.int x0)]))
  refine own_callS Y0 hx hZ (y := (⟨"com/example/deft_wiring/deftwiring/context/XmlScannerLineAtPinLaw", "pick", "(I)B"⟩ : MethodName)) hown (hw _ (List.mem_of_getElem? (i := 0) rfl)) (hw _ (List.mem_of_getElem? (i := 1) rfl)) (hw _ (List.mem_of_getElem? (i := 2) rfl)) (hw _ (List.mem_of_getElem? (i := 3) rfl)) (by decide) (argsL := [(.int x0)]) (rest := []) (own_rm1 l Z a0 hw [] x0  h0 n0  ) (W := 0) (by decide) (by decide) (by decide) (by decide) rfl (by rw [hml]; rfl) (lenOf own_pd0 rfl) rfl (by show 2 * 0 + _ ≤ _; exact Nat.le_of_eq rfl) (hb hby at_1) (fun T18 h20 v21 Y19 q22 => ?_)
  obtain ⟨rfl, rfl⟩ := q22
  show own_Ends _ _ _ _ (T18.setTop (mkF m 4 #[.val (.int x0), .val (.int x1), .val (.int x2), .val (.int x3), .val (.int x4), .val (.int x5), .unset, .unset, .unset, .unset, .unset, .unset, .unset, .unset, .unset, .unset, .unset] [(.int (own_pick x0))]))
  refine own_st (fun t_ => XS.istore (own_here Y19) hx rfl (hb hby at_4) rfl (l' := #[.val (.int x0), .val (.int x1), .val (.int x2), .val (.int x3), .val (.int x4), .val (.int x5), .val (.int (own_pick x0)), .unset, .unset, .unset, .unset, .unset, .unset, .unset, .unset, .unset, .unset]) rfl) ?_
  show own_Ends _ _ _ _ (T18.setTop (mkF m 6 #[.val (.int x0), .val (.int x1), .val (.int x2), .val (.int x3), .val (.int x4), .val (.int x5), .val (.int (own_pick x0)), .unset, .unset, .unset, .unset, .unset, .unset, .unset, .unset, .unset, .unset] []))
  refine own_st (fun t_ => XS.iloadN (own_here Y19) hx rfl (hb hby at_6) rfl) ?_
  show own_Ends _ _ _ _ (T18.setTop (mkF m 7 #[.val (.int x0), .val (.int x1), .val (.int x2), .val (.int x3), .val (.int x4), .val (.int x5), .val (.int (own_pick x0)), .unset, .unset, .unset, .unset, .unset, .unset, .unset, .unset, .unset, .unset] [(.int x1)]))
  refine own_callS Y19 hx hZ (y := (⟨"com/example/deft_wiring/deftwiring/context/XmlScannerLineAtPinLaw", "pick", "(I)B"⟩ : MethodName)) hown (hw _ (List.mem_of_getElem? (i := 0) rfl)) (hw _ (List.mem_of_getElem? (i := 1) rfl)) (hw _ (List.mem_of_getElem? (i := 2) rfl)) (hw _ (List.mem_of_getElem? (i := 3) rfl)) (by decide) (argsL := [(.int x1)]) (rest := []) (own_rm1 l Z a0 hw [] x1  h0 n0  ) (W := 0) (by decide) (by decide) (by decide) (by decide) rfl (by rw [hml]; rfl) (lenOf own_pd0 rfl) rfl (by show 2 * 0 + _ ≤ _; exact Nat.le_of_eq rfl) (hb hby at_7) (fun T23 h25 v26 Y24 q27 => ?_)
  obtain ⟨rfl, rfl⟩ := q27
  show own_Ends _ _ _ _ (T23.setTop (mkF m 10 #[.val (.int x0), .val (.int x1), .val (.int x2), .val (.int x3), .val (.int x4), .val (.int x5), .val (.int (own_pick x0)), .unset, .unset, .unset, .unset, .unset, .unset, .unset, .unset, .unset, .unset] [(.int (own_pick x1))]))
  refine own_st (fun t_ => XS.istore (own_here Y24) hx rfl (hb hby at_10) rfl (l' := #[.val (.int x0), .val (.int x1), .val (.int x2), .val (.int x3), .val (.int x4), .val (.int x5), .val (.int (own_pick x0)), .val (.int (own_pick x1)), .unset, .unset, .unset, .unset, .unset, .unset, .unset, .unset, .unset]) rfl) ?_
  show own_Ends _ _ _ _ (T23.setTop (mkF m 12 #[.val (.int x0), .val (.int x1), .val (.int x2), .val (.int x3), .val (.int x4), .val (.int x5), .val (.int (own_pick x0)), .val (.int (own_pick x1)), .unset, .unset, .unset, .unset, .unset, .unset, .unset, .unset, .unset] []))
  refine own_st (fun t_ => XS.iloadN (own_here Y24) hx rfl (hb hby at_12) rfl) ?_
  show own_Ends _ _ _ _ (T23.setTop (mkF m 13 #[.val (.int x0), .val (.int x1), .val (.int x2), .val (.int x3), .val (.int x4), .val (.int x5), .val (.int (own_pick x0)), .val (.int (own_pick x1)), .unset, .unset, .unset, .unset, .unset, .unset, .unset, .unset, .unset] [(.int x2)]))
  refine own_callS Y24 hx hZ (y := (⟨"com/example/deft_wiring/deftwiring/context/XmlScannerLineAtPinLaw", "pick", "(I)B"⟩ : MethodName)) hown (hw _ (List.mem_of_getElem? (i := 0) rfl)) (hw _ (List.mem_of_getElem? (i := 1) rfl)) (hw _ (List.mem_of_getElem? (i := 2) rfl)) (hw _ (List.mem_of_getElem? (i := 3) rfl)) (by decide) (argsL := [(.int x2)]) (rest := []) (own_rm1 l Z a0 hw [] x2  h0 n0  ) (W := 0) (by decide) (by decide) (by decide) (by decide) rfl (by rw [hml]; rfl) (lenOf own_pd0 rfl) rfl (by show 2 * 0 + _ ≤ _; exact Nat.le_of_eq rfl) (hb hby at_13) (fun T28 h30 v31 Y29 q32 => ?_)
  obtain ⟨rfl, rfl⟩ := q32
  show own_Ends _ _ _ _ (T28.setTop (mkF m 16 #[.val (.int x0), .val (.int x1), .val (.int x2), .val (.int x3), .val (.int x4), .val (.int x5), .val (.int (own_pick x0)), .val (.int (own_pick x1)), .unset, .unset, .unset, .unset, .unset, .unset, .unset, .unset, .unset] [(.int (own_pick x2))]))
  refine own_st (fun t_ => XS.istore (own_here Y29) hx rfl (hb hby at_16) rfl (l' := #[.val (.int x0), .val (.int x1), .val (.int x2), .val (.int x3), .val (.int x4), .val (.int x5), .val (.int (own_pick x0)), .val (.int (own_pick x1)), .val (.int (own_pick x2)), .unset, .unset, .unset, .unset, .unset, .unset, .unset, .unset]) rfl) ?_
  show own_Ends _ _ _ _ (T28.setTop (mkF m 18 #[.val (.int x0), .val (.int x1), .val (.int x2), .val (.int x3), .val (.int x4), .val (.int x5), .val (.int (own_pick x0)), .val (.int (own_pick x1)), .val (.int (own_pick x2)), .unset, .unset, .unset, .unset, .unset, .unset, .unset, .unset] []))
  refine own_st (fun t_ => XS.iloadN (own_here Y29) hx rfl (hb hby at_18) rfl) ?_
  show own_Ends _ _ _ _ (T28.setTop (mkF m 19 #[.val (.int x0), .val (.int x1), .val (.int x2), .val (.int x3), .val (.int x4), .val (.int x5), .val (.int (own_pick x0)), .val (.int (own_pick x1)), .val (.int (own_pick x2)), .unset, .unset, .unset, .unset, .unset, .unset, .unset, .unset] [(.int x3)]))
  refine own_callS Y29 hx hZ (y := (⟨"com/example/deft_wiring/deftwiring/context/XmlScannerLineAtPinLaw", "pick", "(I)B"⟩ : MethodName)) hown (hw _ (List.mem_of_getElem? (i := 0) rfl)) (hw _ (List.mem_of_getElem? (i := 1) rfl)) (hw _ (List.mem_of_getElem? (i := 2) rfl)) (hw _ (List.mem_of_getElem? (i := 3) rfl)) (by decide) (argsL := [(.int x3)]) (rest := []) (own_rm1 l Z a0 hw [] x3  h0 n0  ) (W := 0) (by decide) (by decide) (by decide) (by decide) rfl (by rw [hml]; rfl) (lenOf own_pd0 rfl) rfl (by show 2 * 0 + _ ≤ _; exact Nat.le_of_eq rfl) (hb hby at_19) (fun T33 h35 v36 Y34 q37 => ?_)
  obtain ⟨rfl, rfl⟩ := q37
  show own_Ends _ _ _ _ (T33.setTop (mkF m 22 #[.val (.int x0), .val (.int x1), .val (.int x2), .val (.int x3), .val (.int x4), .val (.int x5), .val (.int (own_pick x0)), .val (.int (own_pick x1)), .val (.int (own_pick x2)), .unset, .unset, .unset, .unset, .unset, .unset, .unset, .unset] [(.int (own_pick x3))]))
  refine own_st (fun t_ => XS.istore (own_here Y34) hx rfl (hb hby at_22) rfl (l' := #[.val (.int x0), .val (.int x1), .val (.int x2), .val (.int x3), .val (.int x4), .val (.int x5), .val (.int (own_pick x0)), .val (.int (own_pick x1)), .val (.int (own_pick x2)), .val (.int (own_pick x3)), .unset, .unset, .unset, .unset, .unset, .unset, .unset]) rfl) ?_
  show own_Ends _ _ _ _ (T33.setTop (mkF m 24 #[.val (.int x0), .val (.int x1), .val (.int x2), .val (.int x3), .val (.int x4), .val (.int x5), .val (.int (own_pick x0)), .val (.int (own_pick x1)), .val (.int (own_pick x2)), .val (.int (own_pick x3)), .unset, .unset, .unset, .unset, .unset, .unset, .unset] []))
  refine own_st (fun t_ => XS.iload (own_here Y34) hx rfl (hb hby at_24) rfl) ?_
  show own_Ends _ _ _ _ (T33.setTop (mkF m 26 #[.val (.int x0), .val (.int x1), .val (.int x2), .val (.int x3), .val (.int x4), .val (.int x5), .val (.int (own_pick x0)), .val (.int (own_pick x1)), .val (.int (own_pick x2)), .val (.int (own_pick x3)), .unset, .unset, .unset, .unset, .unset, .unset, .unset] [(.int x4)]))
  refine own_callS Y34 hx hZ (y := (⟨"com/example/deft_wiring/deftwiring/context/XmlScannerLineAtPinLaw", "pick", "(I)B"⟩ : MethodName)) hown (hw _ (List.mem_of_getElem? (i := 0) rfl)) (hw _ (List.mem_of_getElem? (i := 1) rfl)) (hw _ (List.mem_of_getElem? (i := 2) rfl)) (hw _ (List.mem_of_getElem? (i := 3) rfl)) (by decide) (argsL := [(.int x4)]) (rest := []) (own_rm1 l Z a0 hw [] x4  h0 n0  ) (W := 0) (by decide) (by decide) (by decide) (by decide) rfl (by rw [hml]; rfl) (lenOf own_pd0 rfl) rfl (by show 2 * 0 + _ ≤ _; exact Nat.le_of_eq rfl) (hb hby at_26) (fun T38 h40 v41 Y39 q42 => ?_)
  obtain ⟨rfl, rfl⟩ := q42
  show own_Ends _ _ _ _ (T38.setTop (mkF m 29 #[.val (.int x0), .val (.int x1), .val (.int x2), .val (.int x3), .val (.int x4), .val (.int x5), .val (.int (own_pick x0)), .val (.int (own_pick x1)), .val (.int (own_pick x2)), .val (.int (own_pick x3)), .unset, .unset, .unset, .unset, .unset, .unset, .unset] [(.int (own_pick x4))]))
  refine own_st (fun t_ => XS.istore (own_here Y39) hx rfl (hb hby at_29) rfl (l' := #[.val (.int x0), .val (.int x1), .val (.int x2), .val (.int x3), .val (.int x4), .val (.int x5), .val (.int (own_pick x0)), .val (.int (own_pick x1)), .val (.int (own_pick x2)), .val (.int (own_pick x3)), .val (.int (own_pick x4)), .unset, .unset, .unset, .unset, .unset, .unset]) rfl) ?_
  show own_Ends _ _ _ _ (T38.setTop (mkF m 31 #[.val (.int x0), .val (.int x1), .val (.int x2), .val (.int x3), .val (.int x4), .val (.int x5), .val (.int (own_pick x0)), .val (.int (own_pick x1)), .val (.int (own_pick x2)), .val (.int (own_pick x3)), .val (.int (own_pick x4)), .unset, .unset, .unset, .unset, .unset, .unset] []))
  refine own_st (fun t_ => XS.iconst (own_here Y39) hx rfl (hb hby at_31) ) ?_
  show own_Ends _ _ _ _ (T38.setTop (mkF m 32 #[.val (.int x0), .val (.int x1), .val (.int x2), .val (.int x3), .val (.int x4), .val (.int x5), .val (.int (own_pick x0)), .val (.int (own_pick x1)), .val (.int (own_pick x2)), .val (.int (own_pick x3)), .val (.int (own_pick x4)), .unset, .unset, .unset, .unset, .unset, .unset] [(.int (5 : Int32))]))
  refine own_newP Y39 hx hZ (hw _ (List.mem_of_getElem? (i := 4) rfl)) rfl (hb hby at_32) rfl (by decide) (nz := 5) (cap := 5) (by decide) (by decide) (by decide) (by decide) (by decide) (ty := .byte) rfl (fun T43 h45 b48 eb49 Y44 E46 A47 => ?_)
  have g50 : n0 ≤ b48 := by rw [eb49]; exact Z0
  replace A47 : own_A Z h45 b48 .byte [(.int (0 : Int32)), (.int (0 : Int32)), (.int (0 : Int32)), (.int (0 : Int32)), (.int (0 : Int32))] := A47
  show own_Ends _ _ _ _ (T43.setTop (mkF m 34 #[.val (.int x0), .val (.int x1), .val (.int x2), .val (.int x3), .val (.int x4), .val (.int x5), .val (.int (own_pick x0)), .val (.int (own_pick x1)), .val (.int (own_pick x2)), .val (.int (own_pick x3)), .val (.int (own_pick x4)), .unset, .unset, .unset, .unset, .unset, .unset] [(.ref b48)]))
  refine own_st (fun t_ => XS.astore (own_here Y44) hx rfl (hb hby at_34) rfl rfl (l' := #[.val (.int x0), .val (.int x1), .val (.int x2), .val (.int x3), .val (.int x4), .val (.int x5), .val (.int (own_pick x0)), .val (.int (own_pick x1)), .val (.int (own_pick x2)), .val (.int (own_pick x3)), .val (.int (own_pick x4)), .val (.ref b48), .unset, .unset, .unset, .unset, .unset]) rfl) ?_
  show own_Ends _ _ _ _ (T43.setTop (mkF m 36 #[.val (.int x0), .val (.int x1), .val (.int x2), .val (.int x3), .val (.int x4), .val (.int x5), .val (.int (own_pick x0)), .val (.int (own_pick x1)), .val (.int (own_pick x2)), .val (.int (own_pick x3)), .val (.int (own_pick x4)), .val (.ref b48), .unset, .unset, .unset, .unset, .unset] []))
  refine own_st (fun t_ => XS.aload (own_here Y44) hx rfl (hb hby at_36) rfl rfl) ?_
  show own_Ends _ _ _ _ (T43.setTop (mkF m 38 #[.val (.int x0), .val (.int x1), .val (.int x2), .val (.int x3), .val (.int x4), .val (.int x5), .val (.int (own_pick x0)), .val (.int (own_pick x1)), .val (.int (own_pick x2)), .val (.int (own_pick x3)), .val (.int (own_pick x4)), .val (.ref b48), .unset, .unset, .unset, .unset, .unset] [(.ref b48)]))
  refine own_st (fun t_ => XS.iconst (own_here Y44) hx rfl (hb hby at_38) ) ?_
  show own_Ends _ _ _ _ (T43.setTop (mkF m 39 #[.val (.int x0), .val (.int x1), .val (.int x2), .val (.int x3), .val (.int x4), .val (.int x5), .val (.int (own_pick x0)), .val (.int (own_pick x1)), .val (.int (own_pick x2)), .val (.int (own_pick x3)), .val (.int (own_pick x4)), .val (.ref b48), .unset, .unset, .unset, .unset, .unset] [(.int (0 : Int32)), (.ref b48)]))
  refine own_st (fun t_ => XS.iload (own_here Y44) hx rfl (hb hby at_39) rfl) ?_
  show own_Ends _ _ _ _ (T43.setTop (mkF m 41 #[.val (.int x0), .val (.int x1), .val (.int x2), .val (.int x3), .val (.int x4), .val (.int x5), .val (.int (own_pick x0)), .val (.int (own_pick x1)), .val (.int (own_pick x2)), .val (.int (own_pick x3)), .val (.int (own_pick x4)), .val (.ref b48), .unset, .unset, .unset, .unset, .unset] [(.int (own_pick x0)), (.int (0 : Int32)), (.ref b48)]))
  refine own_stB Y44 hx hZ A47 g50 (i := 0) (by decide) (by decide) (Nat.le_of_ble_eq_true rfl) rfl rfl (hb hby at_41) (fun T51 h53 Y52 W54 A55 => ?_)
  replace A55 : own_A Z h53 b48 .byte [(.int ((own_pick x0).toInt8.toInt32)), (.int (0 : Int32)), (.int (0 : Int32)), (.int (0 : Int32)), (.int (0 : Int32))] := A55
  show own_Ends _ _ _ _ (T51.setTop (mkF m 42 #[.val (.int x0), .val (.int x1), .val (.int x2), .val (.int x3), .val (.int x4), .val (.int x5), .val (.int (own_pick x0)), .val (.int (own_pick x1)), .val (.int (own_pick x2)), .val (.int (own_pick x3)), .val (.int (own_pick x4)), .val (.ref b48), .unset, .unset, .unset, .unset, .unset] []))
  refine own_st (fun t_ => XS.aload (own_here Y52) hx rfl (hb hby at_42) rfl rfl) ?_
  show own_Ends _ _ _ _ (T51.setTop (mkF m 44 #[.val (.int x0), .val (.int x1), .val (.int x2), .val (.int x3), .val (.int x4), .val (.int x5), .val (.int (own_pick x0)), .val (.int (own_pick x1)), .val (.int (own_pick x2)), .val (.int (own_pick x3)), .val (.int (own_pick x4)), .val (.ref b48), .unset, .unset, .unset, .unset, .unset] [(.ref b48)]))
  refine own_st (fun t_ => XS.iconst (own_here Y52) hx rfl (hb hby at_44) ) ?_
  show own_Ends _ _ _ _ (T51.setTop (mkF m 45 #[.val (.int x0), .val (.int x1), .val (.int x2), .val (.int x3), .val (.int x4), .val (.int x5), .val (.int (own_pick x0)), .val (.int (own_pick x1)), .val (.int (own_pick x2)), .val (.int (own_pick x3)), .val (.int (own_pick x4)), .val (.ref b48), .unset, .unset, .unset, .unset, .unset] [(.int (1 : Int32)), (.ref b48)]))
  refine own_st (fun t_ => XS.iload (own_here Y52) hx rfl (hb hby at_45) rfl) ?_
  show own_Ends _ _ _ _ (T51.setTop (mkF m 47 #[.val (.int x0), .val (.int x1), .val (.int x2), .val (.int x3), .val (.int x4), .val (.int x5), .val (.int (own_pick x0)), .val (.int (own_pick x1)), .val (.int (own_pick x2)), .val (.int (own_pick x3)), .val (.int (own_pick x4)), .val (.ref b48), .unset, .unset, .unset, .unset, .unset] [(.int (own_pick x1)), (.int (1 : Int32)), (.ref b48)]))
  refine own_stB Y52 hx hZ A55 g50 (i := 1) (by decide) (by decide) (Nat.le_of_ble_eq_true rfl) rfl rfl (hb hby at_47) (fun T56 h58 Y57 W59 A60 => ?_)
  replace A60 : own_A Z h58 b48 .byte [(.int ((own_pick x0).toInt8.toInt32)), (.int ((own_pick x1).toInt8.toInt32)), (.int (0 : Int32)), (.int (0 : Int32)), (.int (0 : Int32))] := A60
  show own_Ends _ _ _ _ (T56.setTop (mkF m 48 #[.val (.int x0), .val (.int x1), .val (.int x2), .val (.int x3), .val (.int x4), .val (.int x5), .val (.int (own_pick x0)), .val (.int (own_pick x1)), .val (.int (own_pick x2)), .val (.int (own_pick x3)), .val (.int (own_pick x4)), .val (.ref b48), .unset, .unset, .unset, .unset, .unset] []))
  refine own_st (fun t_ => XS.aload (own_here Y57) hx rfl (hb hby at_48) rfl rfl) ?_
  show own_Ends _ _ _ _ (T56.setTop (mkF m 50 #[.val (.int x0), .val (.int x1), .val (.int x2), .val (.int x3), .val (.int x4), .val (.int x5), .val (.int (own_pick x0)), .val (.int (own_pick x1)), .val (.int (own_pick x2)), .val (.int (own_pick x3)), .val (.int (own_pick x4)), .val (.ref b48), .unset, .unset, .unset, .unset, .unset] [(.ref b48)]))
  refine own_st (fun t_ => XS.iconst (own_here Y57) hx rfl (hb hby at_50) ) ?_
  show own_Ends _ _ _ _ (T56.setTop (mkF m 51 #[.val (.int x0), .val (.int x1), .val (.int x2), .val (.int x3), .val (.int x4), .val (.int x5), .val (.int (own_pick x0)), .val (.int (own_pick x1)), .val (.int (own_pick x2)), .val (.int (own_pick x3)), .val (.int (own_pick x4)), .val (.ref b48), .unset, .unset, .unset, .unset, .unset] [(.int (2 : Int32)), (.ref b48)]))
  refine own_st (fun t_ => XS.iload (own_here Y57) hx rfl (hb hby at_51) rfl) ?_
  show own_Ends _ _ _ _ (T56.setTop (mkF m 53 #[.val (.int x0), .val (.int x1), .val (.int x2), .val (.int x3), .val (.int x4), .val (.int x5), .val (.int (own_pick x0)), .val (.int (own_pick x1)), .val (.int (own_pick x2)), .val (.int (own_pick x3)), .val (.int (own_pick x4)), .val (.ref b48), .unset, .unset, .unset, .unset, .unset] [(.int (own_pick x2)), (.int (2 : Int32)), (.ref b48)]))
  refine own_stB Y57 hx hZ A60 g50 (i := 2) (by decide) (by decide) (Nat.le_of_ble_eq_true rfl) rfl rfl (hb hby at_53) (fun T61 h63 Y62 W64 A65 => ?_)
  replace A65 : own_A Z h63 b48 .byte [(.int ((own_pick x0).toInt8.toInt32)), (.int ((own_pick x1).toInt8.toInt32)), (.int ((own_pick x2).toInt8.toInt32)), (.int (0 : Int32)), (.int (0 : Int32))] := A65
  show own_Ends _ _ _ _ (T61.setTop (mkF m 54 #[.val (.int x0), .val (.int x1), .val (.int x2), .val (.int x3), .val (.int x4), .val (.int x5), .val (.int (own_pick x0)), .val (.int (own_pick x1)), .val (.int (own_pick x2)), .val (.int (own_pick x3)), .val (.int (own_pick x4)), .val (.ref b48), .unset, .unset, .unset, .unset, .unset] []))
  refine own_st (fun t_ => XS.aload (own_here Y62) hx rfl (hb hby at_54) rfl rfl) ?_
  show own_Ends _ _ _ _ (T61.setTop (mkF m 56 #[.val (.int x0), .val (.int x1), .val (.int x2), .val (.int x3), .val (.int x4), .val (.int x5), .val (.int (own_pick x0)), .val (.int (own_pick x1)), .val (.int (own_pick x2)), .val (.int (own_pick x3)), .val (.int (own_pick x4)), .val (.ref b48), .unset, .unset, .unset, .unset, .unset] [(.ref b48)]))
  refine own_st (fun t_ => XS.iconst (own_here Y62) hx rfl (hb hby at_56) ) ?_
  show own_Ends _ _ _ _ (T61.setTop (mkF m 57 #[.val (.int x0), .val (.int x1), .val (.int x2), .val (.int x3), .val (.int x4), .val (.int x5), .val (.int (own_pick x0)), .val (.int (own_pick x1)), .val (.int (own_pick x2)), .val (.int (own_pick x3)), .val (.int (own_pick x4)), .val (.ref b48), .unset, .unset, .unset, .unset, .unset] [(.int (3 : Int32)), (.ref b48)]))
  refine own_st (fun t_ => XS.iload (own_here Y62) hx rfl (hb hby at_57) rfl) ?_
  show own_Ends _ _ _ _ (T61.setTop (mkF m 59 #[.val (.int x0), .val (.int x1), .val (.int x2), .val (.int x3), .val (.int x4), .val (.int x5), .val (.int (own_pick x0)), .val (.int (own_pick x1)), .val (.int (own_pick x2)), .val (.int (own_pick x3)), .val (.int (own_pick x4)), .val (.ref b48), .unset, .unset, .unset, .unset, .unset] [(.int (own_pick x3)), (.int (3 : Int32)), (.ref b48)]))
  refine own_stB Y62 hx hZ A65 g50 (i := 3) (by decide) (by decide) (Nat.le_of_ble_eq_true rfl) rfl rfl (hb hby at_59) (fun T66 h68 Y67 W69 A70 => ?_)
  replace A70 : own_A Z h68 b48 .byte [(.int ((own_pick x0).toInt8.toInt32)), (.int ((own_pick x1).toInt8.toInt32)), (.int ((own_pick x2).toInt8.toInt32)), (.int ((own_pick x3).toInt8.toInt32)), (.int (0 : Int32))] := A70
  show own_Ends _ _ _ _ (T66.setTop (mkF m 60 #[.val (.int x0), .val (.int x1), .val (.int x2), .val (.int x3), .val (.int x4), .val (.int x5), .val (.int (own_pick x0)), .val (.int (own_pick x1)), .val (.int (own_pick x2)), .val (.int (own_pick x3)), .val (.int (own_pick x4)), .val (.ref b48), .unset, .unset, .unset, .unset, .unset] []))
  refine own_st (fun t_ => XS.aload (own_here Y67) hx rfl (hb hby at_60) rfl rfl) ?_
  show own_Ends _ _ _ _ (T66.setTop (mkF m 62 #[.val (.int x0), .val (.int x1), .val (.int x2), .val (.int x3), .val (.int x4), .val (.int x5), .val (.int (own_pick x0)), .val (.int (own_pick x1)), .val (.int (own_pick x2)), .val (.int (own_pick x3)), .val (.int (own_pick x4)), .val (.ref b48), .unset, .unset, .unset, .unset, .unset] [(.ref b48)]))
  refine own_st (fun t_ => XS.iconst (own_here Y67) hx rfl (hb hby at_62) ) ?_
  show own_Ends _ _ _ _ (T66.setTop (mkF m 63 #[.val (.int x0), .val (.int x1), .val (.int x2), .val (.int x3), .val (.int x4), .val (.int x5), .val (.int (own_pick x0)), .val (.int (own_pick x1)), .val (.int (own_pick x2)), .val (.int (own_pick x3)), .val (.int (own_pick x4)), .val (.ref b48), .unset, .unset, .unset, .unset, .unset] [(.int (4 : Int32)), (.ref b48)]))
  refine own_st (fun t_ => XS.iload (own_here Y67) hx rfl (hb hby at_63) rfl) ?_
  show own_Ends _ _ _ _ (T66.setTop (mkF m 65 #[.val (.int x0), .val (.int x1), .val (.int x2), .val (.int x3), .val (.int x4), .val (.int x5), .val (.int (own_pick x0)), .val (.int (own_pick x1)), .val (.int (own_pick x2)), .val (.int (own_pick x3)), .val (.int (own_pick x4)), .val (.ref b48), .unset, .unset, .unset, .unset, .unset] [(.int (own_pick x4)), (.int (4 : Int32)), (.ref b48)]))
  refine own_stB Y67 hx hZ A70 g50 (i := 4) (by decide) (by decide) (Nat.le_of_ble_eq_true rfl) rfl rfl (hb hby at_65) (fun T71 h73 Y72 W74 A75 => ?_)
  replace A75 : own_A Z h73 b48 .byte [(.int ((own_pick x0).toInt8.toInt32)), (.int ((own_pick x1).toInt8.toInt32)), (.int ((own_pick x2).toInt8.toInt32)), (.int ((own_pick x3).toInt8.toInt32)), (.int ((own_pick x4).toInt8.toInt32))] := A75
  show own_Ends _ _ _ _ (T71.setTop (mkF m 66 #[.val (.int x0), .val (.int x1), .val (.int x2), .val (.int x3), .val (.int x4), .val (.int x5), .val (.int (own_pick x0)), .val (.int (own_pick x1)), .val (.int (own_pick x2)), .val (.int (own_pick x3)), .val (.int (own_pick x4)), .val (.ref b48), .unset, .unset, .unset, .unset, .unset] []))
  have A76 : own_A Z h73 b48 .byte [(.int (own_pick x0)), (.int (own_pick x1)), (.int (own_pick x2)), (.int (own_pick x3)), (.int (own_pick x4))] := by have q := A75; simp only [own_pick_b] at q; exact q
  refine own_st (fun t_ => XS.iload (own_here Y72) hx rfl (hb hby at_66) rfl) ?_
  show own_Ends _ _ _ _ (T71.setTop (mkF m 68 #[.val (.int x0), .val (.int x1), .val (.int x2), .val (.int x3), .val (.int x4), .val (.int x5), .val (.int (own_pick x0)), .val (.int (own_pick x1)), .val (.int (own_pick x2)), .val (.int (own_pick x3)), .val (.int (own_pick x4)), .val (.ref b48), .unset, .unset, .unset, .unset, .unset] [(.int x5)]))
  refine own_ldcI Y72 hx hZ hown (hw _ (List.mem_of_getElem? (i := 5) rfl)) rfl (hb hby at_68) ?_
  show own_Ends _ _ _ _ (T71.setTop (mkF m 70 #[.val (.int x0), .val (.int x1), .val (.int x2), .val (.int x3), .val (.int x4), .val (.int x5), .val (.int (own_pick x0)), .val (.int (own_pick x1)), .val (.int (own_pick x2)), .val (.int (own_pick x3)), .val (.int (own_pick x4)), .val (.ref b48), .unset, .unset, .unset, .unset, .unset] [(.int (2147483647 : Int32)), (.int x5)]))
  refine own_st (fun t_ => XS.iand (own_here Y72) hx rfl (hb hby at_70) rfl) ?_
  show own_Ends _ _ _ _ (T71.setTop (mkF m 71 #[.val (.int x0), .val (.int x1), .val (.int x2), .val (.int x3), .val (.int x4), .val (.int x5), .val (.int (own_pick x0)), .val (.int (own_pick x1)), .val (.int (own_pick x2)), .val (.int (own_pick x3)), .val (.int (own_pick x4)), .val (.ref b48), .unset, .unset, .unset, .unset, .unset] [(.int (x5 &&& (2147483647 : Int32)))]))
  refine own_st (fun t_ => XS.bipush (own_here Y72) hx rfl (hb hby at_71) ) ?_
  show own_Ends _ _ _ _ (T71.setTop (mkF m 73 #[.val (.int x0), .val (.int x1), .val (.int x2), .val (.int x3), .val (.int x4), .val (.int x5), .val (.int (own_pick x0)), .val (.int (own_pick x1)), .val (.int (own_pick x2)), .val (.int (own_pick x3)), .val (.int (own_pick x4)), .val (.ref b48), .unset, .unset, .unset, .unset, .unset] [(.int (6 : Int32)), (.int (x5 &&& (2147483647 : Int32)))]))
  refine own_irem Y72 hx rfl (hb hby at_73) rfl (by decide) ?_
  show own_Ends _ _ _ _ (T71.setTop (mkF m 74 #[.val (.int x0), .val (.int x1), .val (.int x2), .val (.int x3), .val (.int x4), .val (.int x5), .val (.int (own_pick x0)), .val (.int (own_pick x1)), .val (.int (own_pick x2)), .val (.int (own_pick x3)), .val (.int (own_pick x4)), .val (.ref b48), .unset, .unset, .unset, .unset, .unset] [(.int ((x5 &&& (2147483647 : Int32)) % (6 : Int32)))]))
  refine own_st (fun t_ => XS.istore (own_here Y72) hx rfl (hb hby at_74) rfl (l' := #[.val (.int x0), .val (.int x1), .val (.int x2), .val (.int x3), .val (.int x4), .val (.int x5), .val (.int (own_pick x0)), .val (.int (own_pick x1)), .val (.int (own_pick x2)), .val (.int (own_pick x3)), .val (.int (own_pick x4)), .val (.ref b48), .val (.int ((x5 &&& (2147483647 : Int32)) % (6 : Int32))), .unset, .unset, .unset, .unset]) rfl) ?_
  show own_Ends _ _ _ _ (T71.setTop (mkF m 76 #[.val (.int x0), .val (.int x1), .val (.int x2), .val (.int x3), .val (.int x4), .val (.int x5), .val (.int (own_pick x0)), .val (.int (own_pick x1)), .val (.int (own_pick x2)), .val (.int (own_pick x3)), .val (.int (own_pick x4)), .val (.ref b48), .val (.int ((x5 &&& (2147483647 : Int32)) % (6 : Int32))), .unset, .unset, .unset, .unset] []))
  generalize ha_ : ((x5 &&& (2147483647 : Int32)) % (6 : Int32)) = a_
  obtain ⟨t, ht, ht5⟩ : ∃ t : Nat, a_.toInt = (t : Int) ∧ t ≤ 5 := by
    have q := c_mask x5 2147483647 31 (by decide) (by decide)
    have r := (c_irem (x5 &&& 2147483647) 6 6 rfl).1 (by rw [q]; exact Int.emod_nonneg _ (by decide))
    rw [ha_] at r
    refine ⟨a_.toInt.toNat, ?_, ?_⟩ <;> omega
  refine own_st (fun t_ => XS.iload (own_here Y72) hx rfl (hb hby at_76) rfl) ?_
  show own_Ends _ _ _ _ (T71.setTop (mkF m 78 #[.val (.int x0), .val (.int x1), .val (.int x2), .val (.int x3), .val (.int x4), .val (.int x5), .val (.int (own_pick x0)), .val (.int (own_pick x1)), .val (.int (own_pick x2)), .val (.int (own_pick x3)), .val (.int (own_pick x4)), .val (.ref b48), .val (.int a_), .unset, .unset, .unset, .unset] [(.int (own_pick x0))]))
  refine own_st (fun t_ => XS.iconst (own_here Y72) hx rfl (hb hby at_78) ) ?_
  show own_Ends _ _ _ _ (T71.setTop (mkF m 79 #[.val (.int x0), .val (.int x1), .val (.int x2), .val (.int x3), .val (.int x4), .val (.int x5), .val (.int (own_pick x0)), .val (.int (own_pick x1)), .val (.int (own_pick x2)), .val (.int (own_pick x3)), .val (.int (own_pick x4)), .val (.ref b48), .val (.int a_), .unset, .unset, .unset, .unset] [(.int (0 : Int32)), (.int (own_pick x0))]))
  refine own_st (fun t_ => XS.iload (own_here Y72) hx rfl (hb hby at_79) rfl) ?_
  show own_Ends _ _ _ _ (T71.setTop (mkF m 81 #[.val (.int x0), .val (.int x1), .val (.int x2), .val (.int x3), .val (.int x4), .val (.int x5), .val (.int (own_pick x0)), .val (.int (own_pick x1)), .val (.int (own_pick x2)), .val (.int (own_pick x3)), .val (.int (own_pick x4)), .val (.ref b48), .val (.int a_), .unset, .unset, .unset, .unset] [(.int a_), (.int (0 : Int32)), (.int (own_pick x0))]))
  refine own_callS Y72 hx hZ (y := (⟨"com/example/deft_wiring/deftwiring/context/XmlScannerLineAtPinLaw", "lf", "(BII)I"⟩ : MethodName)) hown (hw _ (List.mem_of_getElem? (i := 6) rfl)) (hw _ (List.mem_of_getElem? (i := 7) rfl)) (hw _ (List.mem_of_getElem? (i := 2) rfl)) (hw _ (List.mem_of_getElem? (i := 8) rfl)) (by decide) (argsL := [(.int (own_pick x0)), (.int (0 : Int32)), (.int a_)]) (rest := []) (own_rm2 l Z a0 hw [] (own_pick x0) (0 : Int32) a_  h73 n0  ) (W := 0) (by decide) (by decide) (by decide) (by decide) rfl (by rw [hml]; rfl) (lenOf own_pd1 rfl) rfl (by show 2 * 0 + _ ≤ _; exact Nat.le_of_eq rfl) (hb hby at_81) (fun T77 h79 v80 Y78 q81 => ?_)
  obtain ⟨rfl, rfl⟩ := q81
  show own_Ends _ _ _ _ (T77.setTop (mkF m 84 #[.val (.int x0), .val (.int x1), .val (.int x2), .val (.int x3), .val (.int x4), .val (.int x5), .val (.int (own_pick x0)), .val (.int (own_pick x1)), .val (.int (own_pick x2)), .val (.int (own_pick x3)), .val (.int (own_pick x4)), .val (.ref b48), .val (.int a_), .unset, .unset, .unset, .unset] [(.int (own_b (own_lf (own_pick x0) (0 : Int32) a_)))]))
  refine own_st (fun t_ => XS.iload (own_here Y78) hx rfl (hb hby at_84) rfl) ?_
  show own_Ends _ _ _ _ (T77.setTop (mkF m 86 #[.val (.int x0), .val (.int x1), .val (.int x2), .val (.int x3), .val (.int x4), .val (.int x5), .val (.int (own_pick x0)), .val (.int (own_pick x1)), .val (.int (own_pick x2)), .val (.int (own_pick x3)), .val (.int (own_pick x4)), .val (.ref b48), .val (.int a_), .unset, .unset, .unset, .unset] [(.int (own_pick x1)), (.int (own_b (own_lf (own_pick x0) (0 : Int32) a_)))]))
  refine own_st (fun t_ => XS.iconst (own_here Y78) hx rfl (hb hby at_86) ) ?_
  show own_Ends _ _ _ _ (T77.setTop (mkF m 87 #[.val (.int x0), .val (.int x1), .val (.int x2), .val (.int x3), .val (.int x4), .val (.int x5), .val (.int (own_pick x0)), .val (.int (own_pick x1)), .val (.int (own_pick x2)), .val (.int (own_pick x3)), .val (.int (own_pick x4)), .val (.ref b48), .val (.int a_), .unset, .unset, .unset, .unset] [(.int (1 : Int32)), (.int (own_pick x1)), (.int (own_b (own_lf (own_pick x0) (0 : Int32) a_)))]))
  refine own_st (fun t_ => XS.iload (own_here Y78) hx rfl (hb hby at_87) rfl) ?_
  show own_Ends _ _ _ _ (T77.setTop (mkF m 89 #[.val (.int x0), .val (.int x1), .val (.int x2), .val (.int x3), .val (.int x4), .val (.int x5), .val (.int (own_pick x0)), .val (.int (own_pick x1)), .val (.int (own_pick x2)), .val (.int (own_pick x3)), .val (.int (own_pick x4)), .val (.ref b48), .val (.int a_), .unset, .unset, .unset, .unset] [(.int a_), (.int (1 : Int32)), (.int (own_pick x1)), (.int (own_b (own_lf (own_pick x0) (0 : Int32) a_)))]))
  refine own_callS Y78 hx hZ (y := (⟨"com/example/deft_wiring/deftwiring/context/XmlScannerLineAtPinLaw", "lf", "(BII)I"⟩ : MethodName)) hown (hw _ (List.mem_of_getElem? (i := 6) rfl)) (hw _ (List.mem_of_getElem? (i := 7) rfl)) (hw _ (List.mem_of_getElem? (i := 2) rfl)) (hw _ (List.mem_of_getElem? (i := 8) rfl)) (by decide) (argsL := [(.int (own_pick x1)), (.int (1 : Int32)), (.int a_)]) (rest := [(.int (own_b (own_lf (own_pick x0) (0 : Int32) a_)))]) (own_rm2 l Z a0 hw [] (own_pick x1) (1 : Int32) a_  h73 n0  ) (W := 1) (by decide) (by decide) (by decide) (by decide) rfl (by rw [hml]; rfl) (lenOf own_pd1 rfl) rfl (by show 2 * 0 + _ ≤ _; exact Nat.le_of_eq rfl) (hb hby at_89) (fun T82 h84 v85 Y83 q86 => ?_)
  obtain ⟨rfl, rfl⟩ := q86
  show own_Ends _ _ _ _ (T82.setTop (mkF m 92 #[.val (.int x0), .val (.int x1), .val (.int x2), .val (.int x3), .val (.int x4), .val (.int x5), .val (.int (own_pick x0)), .val (.int (own_pick x1)), .val (.int (own_pick x2)), .val (.int (own_pick x3)), .val (.int (own_pick x4)), .val (.ref b48), .val (.int a_), .unset, .unset, .unset, .unset] [(.int (own_b (own_lf (own_pick x1) (1 : Int32) a_))), (.int (own_b (own_lf (own_pick x0) (0 : Int32) a_)))]))
  refine own_st (fun t_ => XS.iadd (own_here Y83) hx rfl (hb hby at_92) rfl) ?_
  show own_Ends _ _ _ _ (T82.setTop (mkF m 93 #[.val (.int x0), .val (.int x1), .val (.int x2), .val (.int x3), .val (.int x4), .val (.int x5), .val (.int (own_pick x0)), .val (.int (own_pick x1)), .val (.int (own_pick x2)), .val (.int (own_pick x3)), .val (.int (own_pick x4)), .val (.ref b48), .val (.int a_), .unset, .unset, .unset, .unset] [(.int ((own_b (own_lf (own_pick x0) (0 : Int32) a_)) + (own_b (own_lf (own_pick x1) (1 : Int32) a_))))]))
  refine own_st (fun t_ => XS.iload (own_here Y83) hx rfl (hb hby at_93) rfl) ?_
  show own_Ends _ _ _ _ (T82.setTop (mkF m 95 #[.val (.int x0), .val (.int x1), .val (.int x2), .val (.int x3), .val (.int x4), .val (.int x5), .val (.int (own_pick x0)), .val (.int (own_pick x1)), .val (.int (own_pick x2)), .val (.int (own_pick x3)), .val (.int (own_pick x4)), .val (.ref b48), .val (.int a_), .unset, .unset, .unset, .unset] [(.int (own_pick x2)), (.int ((own_b (own_lf (own_pick x0) (0 : Int32) a_)) + (own_b (own_lf (own_pick x1) (1 : Int32) a_))))]))
  refine own_st (fun t_ => XS.iconst (own_here Y83) hx rfl (hb hby at_95) ) ?_
  show own_Ends _ _ _ _ (T82.setTop (mkF m 96 #[.val (.int x0), .val (.int x1), .val (.int x2), .val (.int x3), .val (.int x4), .val (.int x5), .val (.int (own_pick x0)), .val (.int (own_pick x1)), .val (.int (own_pick x2)), .val (.int (own_pick x3)), .val (.int (own_pick x4)), .val (.ref b48), .val (.int a_), .unset, .unset, .unset, .unset] [(.int (2 : Int32)), (.int (own_pick x2)), (.int ((own_b (own_lf (own_pick x0) (0 : Int32) a_)) + (own_b (own_lf (own_pick x1) (1 : Int32) a_))))]))
  refine own_st (fun t_ => XS.iload (own_here Y83) hx rfl (hb hby at_96) rfl) ?_
  show own_Ends _ _ _ _ (T82.setTop (mkF m 98 #[.val (.int x0), .val (.int x1), .val (.int x2), .val (.int x3), .val (.int x4), .val (.int x5), .val (.int (own_pick x0)), .val (.int (own_pick x1)), .val (.int (own_pick x2)), .val (.int (own_pick x3)), .val (.int (own_pick x4)), .val (.ref b48), .val (.int a_), .unset, .unset, .unset, .unset] [(.int a_), (.int (2 : Int32)), (.int (own_pick x2)), (.int ((own_b (own_lf (own_pick x0) (0 : Int32) a_)) + (own_b (own_lf (own_pick x1) (1 : Int32) a_))))]))
  refine own_callS Y83 hx hZ (y := (⟨"com/example/deft_wiring/deftwiring/context/XmlScannerLineAtPinLaw", "lf", "(BII)I"⟩ : MethodName)) hown (hw _ (List.mem_of_getElem? (i := 6) rfl)) (hw _ (List.mem_of_getElem? (i := 7) rfl)) (hw _ (List.mem_of_getElem? (i := 2) rfl)) (hw _ (List.mem_of_getElem? (i := 8) rfl)) (by decide) (argsL := [(.int (own_pick x2)), (.int (2 : Int32)), (.int a_)]) (rest := [(.int ((own_b (own_lf (own_pick x0) (0 : Int32) a_)) + (own_b (own_lf (own_pick x1) (1 : Int32) a_))))]) (own_rm2 l Z a0 hw [] (own_pick x2) (2 : Int32) a_  h73 n0  ) (W := 1) (by decide) (by decide) (by decide) (by decide) rfl (by rw [hml]; rfl) (lenOf own_pd1 rfl) rfl (by show 2 * 0 + _ ≤ _; exact Nat.le_of_eq rfl) (hb hby at_98) (fun T87 h89 v90 Y88 q91 => ?_)
  obtain ⟨rfl, rfl⟩ := q91
  show own_Ends _ _ _ _ (T87.setTop (mkF m 101 #[.val (.int x0), .val (.int x1), .val (.int x2), .val (.int x3), .val (.int x4), .val (.int x5), .val (.int (own_pick x0)), .val (.int (own_pick x1)), .val (.int (own_pick x2)), .val (.int (own_pick x3)), .val (.int (own_pick x4)), .val (.ref b48), .val (.int a_), .unset, .unset, .unset, .unset] [(.int (own_b (own_lf (own_pick x2) (2 : Int32) a_))), (.int ((own_b (own_lf (own_pick x0) (0 : Int32) a_)) + (own_b (own_lf (own_pick x1) (1 : Int32) a_))))]))
  refine own_st (fun t_ => XS.iadd (own_here Y88) hx rfl (hb hby at_101) rfl) ?_
  show own_Ends _ _ _ _ (T87.setTop (mkF m 102 #[.val (.int x0), .val (.int x1), .val (.int x2), .val (.int x3), .val (.int x4), .val (.int x5), .val (.int (own_pick x0)), .val (.int (own_pick x1)), .val (.int (own_pick x2)), .val (.int (own_pick x3)), .val (.int (own_pick x4)), .val (.ref b48), .val (.int a_), .unset, .unset, .unset, .unset] [(.int (((own_b (own_lf (own_pick x0) (0 : Int32) a_)) + (own_b (own_lf (own_pick x1) (1 : Int32) a_))) + (own_b (own_lf (own_pick x2) (2 : Int32) a_))))]))
  refine own_st (fun t_ => XS.iload (own_here Y88) hx rfl (hb hby at_102) rfl) ?_
  show own_Ends _ _ _ _ (T87.setTop (mkF m 104 #[.val (.int x0), .val (.int x1), .val (.int x2), .val (.int x3), .val (.int x4), .val (.int x5), .val (.int (own_pick x0)), .val (.int (own_pick x1)), .val (.int (own_pick x2)), .val (.int (own_pick x3)), .val (.int (own_pick x4)), .val (.ref b48), .val (.int a_), .unset, .unset, .unset, .unset] [(.int (own_pick x3)), (.int (((own_b (own_lf (own_pick x0) (0 : Int32) a_)) + (own_b (own_lf (own_pick x1) (1 : Int32) a_))) + (own_b (own_lf (own_pick x2) (2 : Int32) a_))))]))
  refine own_st (fun t_ => XS.iconst (own_here Y88) hx rfl (hb hby at_104) ) ?_
  show own_Ends _ _ _ _ (T87.setTop (mkF m 105 #[.val (.int x0), .val (.int x1), .val (.int x2), .val (.int x3), .val (.int x4), .val (.int x5), .val (.int (own_pick x0)), .val (.int (own_pick x1)), .val (.int (own_pick x2)), .val (.int (own_pick x3)), .val (.int (own_pick x4)), .val (.ref b48), .val (.int a_), .unset, .unset, .unset, .unset] [(.int (3 : Int32)), (.int (own_pick x3)), (.int (((own_b (own_lf (own_pick x0) (0 : Int32) a_)) + (own_b (own_lf (own_pick x1) (1 : Int32) a_))) + (own_b (own_lf (own_pick x2) (2 : Int32) a_))))]))
  refine own_st (fun t_ => XS.iload (own_here Y88) hx rfl (hb hby at_105) rfl) ?_
  show own_Ends _ _ _ _ (T87.setTop (mkF m 107 #[.val (.int x0), .val (.int x1), .val (.int x2), .val (.int x3), .val (.int x4), .val (.int x5), .val (.int (own_pick x0)), .val (.int (own_pick x1)), .val (.int (own_pick x2)), .val (.int (own_pick x3)), .val (.int (own_pick x4)), .val (.ref b48), .val (.int a_), .unset, .unset, .unset, .unset] [(.int a_), (.int (3 : Int32)), (.int (own_pick x3)), (.int (((own_b (own_lf (own_pick x0) (0 : Int32) a_)) + (own_b (own_lf (own_pick x1) (1 : Int32) a_))) + (own_b (own_lf (own_pick x2) (2 : Int32) a_))))]))
  refine own_callS Y88 hx hZ (y := (⟨"com/example/deft_wiring/deftwiring/context/XmlScannerLineAtPinLaw", "lf", "(BII)I"⟩ : MethodName)) hown (hw _ (List.mem_of_getElem? (i := 6) rfl)) (hw _ (List.mem_of_getElem? (i := 7) rfl)) (hw _ (List.mem_of_getElem? (i := 2) rfl)) (hw _ (List.mem_of_getElem? (i := 8) rfl)) (by decide) (argsL := [(.int (own_pick x3)), (.int (3 : Int32)), (.int a_)]) (rest := [(.int (((own_b (own_lf (own_pick x0) (0 : Int32) a_)) + (own_b (own_lf (own_pick x1) (1 : Int32) a_))) + (own_b (own_lf (own_pick x2) (2 : Int32) a_))))]) (own_rm2 l Z a0 hw [] (own_pick x3) (3 : Int32) a_  h73 n0  ) (W := 1) (by decide) (by decide) (by decide) (by decide) rfl (by rw [hml]; rfl) (lenOf own_pd1 rfl) rfl (by show 2 * 0 + _ ≤ _; exact Nat.le_of_eq rfl) (hb hby at_107) (fun T92 h94 v95 Y93 q96 => ?_)
  obtain ⟨rfl, rfl⟩ := q96
  show own_Ends _ _ _ _ (T92.setTop (mkF m 110 #[.val (.int x0), .val (.int x1), .val (.int x2), .val (.int x3), .val (.int x4), .val (.int x5), .val (.int (own_pick x0)), .val (.int (own_pick x1)), .val (.int (own_pick x2)), .val (.int (own_pick x3)), .val (.int (own_pick x4)), .val (.ref b48), .val (.int a_), .unset, .unset, .unset, .unset] [(.int (own_b (own_lf (own_pick x3) (3 : Int32) a_))), (.int (((own_b (own_lf (own_pick x0) (0 : Int32) a_)) + (own_b (own_lf (own_pick x1) (1 : Int32) a_))) + (own_b (own_lf (own_pick x2) (2 : Int32) a_))))]))
  refine own_st (fun t_ => XS.iadd (own_here Y93) hx rfl (hb hby at_110) rfl) ?_
  show own_Ends _ _ _ _ (T92.setTop (mkF m 111 #[.val (.int x0), .val (.int x1), .val (.int x2), .val (.int x3), .val (.int x4), .val (.int x5), .val (.int (own_pick x0)), .val (.int (own_pick x1)), .val (.int (own_pick x2)), .val (.int (own_pick x3)), .val (.int (own_pick x4)), .val (.ref b48), .val (.int a_), .unset, .unset, .unset, .unset] [(.int ((((own_b (own_lf (own_pick x0) (0 : Int32) a_)) + (own_b (own_lf (own_pick x1) (1 : Int32) a_))) + (own_b (own_lf (own_pick x2) (2 : Int32) a_))) + (own_b (own_lf (own_pick x3) (3 : Int32) a_))))]))
  refine own_st (fun t_ => XS.iload (own_here Y93) hx rfl (hb hby at_111) rfl) ?_
  show own_Ends _ _ _ _ (T92.setTop (mkF m 113 #[.val (.int x0), .val (.int x1), .val (.int x2), .val (.int x3), .val (.int x4), .val (.int x5), .val (.int (own_pick x0)), .val (.int (own_pick x1)), .val (.int (own_pick x2)), .val (.int (own_pick x3)), .val (.int (own_pick x4)), .val (.ref b48), .val (.int a_), .unset, .unset, .unset, .unset] [(.int (own_pick x4)), (.int ((((own_b (own_lf (own_pick x0) (0 : Int32) a_)) + (own_b (own_lf (own_pick x1) (1 : Int32) a_))) + (own_b (own_lf (own_pick x2) (2 : Int32) a_))) + (own_b (own_lf (own_pick x3) (3 : Int32) a_))))]))
  refine own_st (fun t_ => XS.iconst (own_here Y93) hx rfl (hb hby at_113) ) ?_
  show own_Ends _ _ _ _ (T92.setTop (mkF m 114 #[.val (.int x0), .val (.int x1), .val (.int x2), .val (.int x3), .val (.int x4), .val (.int x5), .val (.int (own_pick x0)), .val (.int (own_pick x1)), .val (.int (own_pick x2)), .val (.int (own_pick x3)), .val (.int (own_pick x4)), .val (.ref b48), .val (.int a_), .unset, .unset, .unset, .unset] [(.int (4 : Int32)), (.int (own_pick x4)), (.int ((((own_b (own_lf (own_pick x0) (0 : Int32) a_)) + (own_b (own_lf (own_pick x1) (1 : Int32) a_))) + (own_b (own_lf (own_pick x2) (2 : Int32) a_))) + (own_b (own_lf (own_pick x3) (3 : Int32) a_))))]))
  refine own_st (fun t_ => XS.iload (own_here Y93) hx rfl (hb hby at_114) rfl) ?_
  show own_Ends _ _ _ _ (T92.setTop (mkF m 116 #[.val (.int x0), .val (.int x1), .val (.int x2), .val (.int x3), .val (.int x4), .val (.int x5), .val (.int (own_pick x0)), .val (.int (own_pick x1)), .val (.int (own_pick x2)), .val (.int (own_pick x3)), .val (.int (own_pick x4)), .val (.ref b48), .val (.int a_), .unset, .unset, .unset, .unset] [(.int a_), (.int (4 : Int32)), (.int (own_pick x4)), (.int ((((own_b (own_lf (own_pick x0) (0 : Int32) a_)) + (own_b (own_lf (own_pick x1) (1 : Int32) a_))) + (own_b (own_lf (own_pick x2) (2 : Int32) a_))) + (own_b (own_lf (own_pick x3) (3 : Int32) a_))))]))
  refine own_callS Y93 hx hZ (y := (⟨"com/example/deft_wiring/deftwiring/context/XmlScannerLineAtPinLaw", "lf", "(BII)I"⟩ : MethodName)) hown (hw _ (List.mem_of_getElem? (i := 6) rfl)) (hw _ (List.mem_of_getElem? (i := 7) rfl)) (hw _ (List.mem_of_getElem? (i := 2) rfl)) (hw _ (List.mem_of_getElem? (i := 8) rfl)) (by decide) (argsL := [(.int (own_pick x4)), (.int (4 : Int32)), (.int a_)]) (rest := [(.int ((((own_b (own_lf (own_pick x0) (0 : Int32) a_)) + (own_b (own_lf (own_pick x1) (1 : Int32) a_))) + (own_b (own_lf (own_pick x2) (2 : Int32) a_))) + (own_b (own_lf (own_pick x3) (3 : Int32) a_))))]) (own_rm2 l Z a0 hw [] (own_pick x4) (4 : Int32) a_  h73 n0  ) (W := 1) (by decide) (by decide) (by decide) (by decide) rfl (by rw [hml]; rfl) (lenOf own_pd1 rfl) rfl (by show 2 * 0 + _ ≤ _; exact Nat.le_of_eq rfl) (hb hby at_116) (fun T97 h99 v100 Y98 q101 => ?_)
  obtain ⟨rfl, rfl⟩ := q101
  show own_Ends _ _ _ _ (T97.setTop (mkF m 119 #[.val (.int x0), .val (.int x1), .val (.int x2), .val (.int x3), .val (.int x4), .val (.int x5), .val (.int (own_pick x0)), .val (.int (own_pick x1)), .val (.int (own_pick x2)), .val (.int (own_pick x3)), .val (.int (own_pick x4)), .val (.ref b48), .val (.int a_), .unset, .unset, .unset, .unset] [(.int (own_b (own_lf (own_pick x4) (4 : Int32) a_))), (.int ((((own_b (own_lf (own_pick x0) (0 : Int32) a_)) + (own_b (own_lf (own_pick x1) (1 : Int32) a_))) + (own_b (own_lf (own_pick x2) (2 : Int32) a_))) + (own_b (own_lf (own_pick x3) (3 : Int32) a_))))]))
  refine own_st (fun t_ => XS.iadd (own_here Y98) hx rfl (hb hby at_119) rfl) ?_
  show own_Ends _ _ _ _ (T97.setTop (mkF m 120 #[.val (.int x0), .val (.int x1), .val (.int x2), .val (.int x3), .val (.int x4), .val (.int x5), .val (.int (own_pick x0)), .val (.int (own_pick x1)), .val (.int (own_pick x2)), .val (.int (own_pick x3)), .val (.int (own_pick x4)), .val (.ref b48), .val (.int a_), .unset, .unset, .unset, .unset] [(.int (((((own_b (own_lf (own_pick x0) (0 : Int32) a_)) + (own_b (own_lf (own_pick x1) (1 : Int32) a_))) + (own_b (own_lf (own_pick x2) (2 : Int32) a_))) + (own_b (own_lf (own_pick x3) (3 : Int32) a_))) + (own_b (own_lf (own_pick x4) (4 : Int32) a_))))]))
  refine own_st (fun t_ => XS.istore (own_here Y98) hx rfl (hb hby at_120) rfl (l' := #[.val (.int x0), .val (.int x1), .val (.int x2), .val (.int x3), .val (.int x4), .val (.int x5), .val (.int (own_pick x0)), .val (.int (own_pick x1)), .val (.int (own_pick x2)), .val (.int (own_pick x3)), .val (.int (own_pick x4)), .val (.ref b48), .val (.int a_), .val (.int (((((own_b (own_lf (own_pick x0) (0 : Int32) a_)) + (own_b (own_lf (own_pick x1) (1 : Int32) a_))) + (own_b (own_lf (own_pick x2) (2 : Int32) a_))) + (own_b (own_lf (own_pick x3) (3 : Int32) a_))) + (own_b (own_lf (own_pick x4) (4 : Int32) a_)))), .unset, .unset, .unset]) rfl) ?_
  show own_Ends _ _ _ _ (T97.setTop (mkF m 122 #[.val (.int x0), .val (.int x1), .val (.int x2), .val (.int x3), .val (.int x4), .val (.int x5), .val (.int (own_pick x0)), .val (.int (own_pick x1)), .val (.int (own_pick x2)), .val (.int (own_pick x3)), .val (.int (own_pick x4)), .val (.ref b48), .val (.int a_), .val (.int (((((own_b (own_lf (own_pick x0) (0 : Int32) a_)) + (own_b (own_lf (own_pick x1) (1 : Int32) a_))) + (own_b (own_lf (own_pick x2) (2 : Int32) a_))) + (own_b (own_lf (own_pick x3) (3 : Int32) a_))) + (own_b (own_lf (own_pick x4) (4 : Int32) a_)))), .unset, .unset, .unset] []))
  refine own_st (fun t_ => XS.iload (own_here Y98) hx rfl (hb hby at_122) rfl) ?_
  show own_Ends _ _ _ _ (T97.setTop (mkF m 124 #[.val (.int x0), .val (.int x1), .val (.int x2), .val (.int x3), .val (.int x4), .val (.int x5), .val (.int (own_pick x0)), .val (.int (own_pick x1)), .val (.int (own_pick x2)), .val (.int (own_pick x3)), .val (.int (own_pick x4)), .val (.ref b48), .val (.int a_), .val (.int (((((own_b (own_lf (own_pick x0) (0 : Int32) a_)) + (own_b (own_lf (own_pick x1) (1 : Int32) a_))) + (own_b (own_lf (own_pick x2) (2 : Int32) a_))) + (own_b (own_lf (own_pick x3) (3 : Int32) a_))) + (own_b (own_lf (own_pick x4) (4 : Int32) a_)))), .unset, .unset, .unset] [(.int (own_pick x0))]))
  refine own_st (fun t_ => XS.iconst (own_here Y98) hx rfl (hb hby at_124) ) ?_
  show own_Ends _ _ _ _ (T97.setTop (mkF m 125 #[.val (.int x0), .val (.int x1), .val (.int x2), .val (.int x3), .val (.int x4), .val (.int x5), .val (.int (own_pick x0)), .val (.int (own_pick x1)), .val (.int (own_pick x2)), .val (.int (own_pick x3)), .val (.int (own_pick x4)), .val (.ref b48), .val (.int a_), .val (.int (((((own_b (own_lf (own_pick x0) (0 : Int32) a_)) + (own_b (own_lf (own_pick x1) (1 : Int32) a_))) + (own_b (own_lf (own_pick x2) (2 : Int32) a_))) + (own_b (own_lf (own_pick x3) (3 : Int32) a_))) + (own_b (own_lf (own_pick x4) (4 : Int32) a_)))), .unset, .unset, .unset] [(.int (0 : Int32)), (.int (own_pick x0))]))
  refine own_st (fun t_ => XS.iload (own_here Y98) hx rfl (hb hby at_125) rfl) ?_
  show own_Ends _ _ _ _ (T97.setTop (mkF m 127 #[.val (.int x0), .val (.int x1), .val (.int x2), .val (.int x3), .val (.int x4), .val (.int x5), .val (.int (own_pick x0)), .val (.int (own_pick x1)), .val (.int (own_pick x2)), .val (.int (own_pick x3)), .val (.int (own_pick x4)), .val (.ref b48), .val (.int a_), .val (.int (((((own_b (own_lf (own_pick x0) (0 : Int32) a_)) + (own_b (own_lf (own_pick x1) (1 : Int32) a_))) + (own_b (own_lf (own_pick x2) (2 : Int32) a_))) + (own_b (own_lf (own_pick x3) (3 : Int32) a_))) + (own_b (own_lf (own_pick x4) (4 : Int32) a_)))), .unset, .unset, .unset] [(.int a_), (.int (0 : Int32)), (.int (own_pick x0))]))
  refine own_callS Y98 hx hZ (y := (⟨"com/example/deft_wiring/deftwiring/context/XmlScannerLineAtPinLaw", "cr", "(BII)I"⟩ : MethodName)) hown (hw _ (List.mem_of_getElem? (i := 9) rfl)) (hw _ (List.mem_of_getElem? (i := 10) rfl)) (hw _ (List.mem_of_getElem? (i := 2) rfl)) (hw _ (List.mem_of_getElem? (i := 11) rfl)) (by decide) (argsL := [(.int (own_pick x0)), (.int (0 : Int32)), (.int a_)]) (rest := []) (own_rm3 l Z a0 hw [] (own_pick x0) (0 : Int32) a_  h73 n0  ) (W := 0) (by decide) (by decide) (by decide) (by decide) rfl (by rw [hml]; rfl) (lenOf own_pd1 rfl) rfl (by show 2 * 0 + _ ≤ _; exact Nat.le_of_eq rfl) (hb hby at_127) (fun T102 h104 v105 Y103 q106 => ?_)
  obtain ⟨rfl, rfl⟩ := q106
  show own_Ends _ _ _ _ (T102.setTop (mkF m 130 #[.val (.int x0), .val (.int x1), .val (.int x2), .val (.int x3), .val (.int x4), .val (.int x5), .val (.int (own_pick x0)), .val (.int (own_pick x1)), .val (.int (own_pick x2)), .val (.int (own_pick x3)), .val (.int (own_pick x4)), .val (.ref b48), .val (.int a_), .val (.int (((((own_b (own_lf (own_pick x0) (0 : Int32) a_)) + (own_b (own_lf (own_pick x1) (1 : Int32) a_))) + (own_b (own_lf (own_pick x2) (2 : Int32) a_))) + (own_b (own_lf (own_pick x3) (3 : Int32) a_))) + (own_b (own_lf (own_pick x4) (4 : Int32) a_)))), .unset, .unset, .unset] [(.int (own_b (own_cr (own_pick x0) (0 : Int32) a_)))]))
  refine own_st (fun t_ => XS.iload (own_here Y103) hx rfl (hb hby at_130) rfl) ?_
  show own_Ends _ _ _ _ (T102.setTop (mkF m 132 #[.val (.int x0), .val (.int x1), .val (.int x2), .val (.int x3), .val (.int x4), .val (.int x5), .val (.int (own_pick x0)), .val (.int (own_pick x1)), .val (.int (own_pick x2)), .val (.int (own_pick x3)), .val (.int (own_pick x4)), .val (.ref b48), .val (.int a_), .val (.int (((((own_b (own_lf (own_pick x0) (0 : Int32) a_)) + (own_b (own_lf (own_pick x1) (1 : Int32) a_))) + (own_b (own_lf (own_pick x2) (2 : Int32) a_))) + (own_b (own_lf (own_pick x3) (3 : Int32) a_))) + (own_b (own_lf (own_pick x4) (4 : Int32) a_)))), .unset, .unset, .unset] [(.int (own_pick x1)), (.int (own_b (own_cr (own_pick x0) (0 : Int32) a_)))]))
  refine own_st (fun t_ => XS.iconst (own_here Y103) hx rfl (hb hby at_132) ) ?_
  show own_Ends _ _ _ _ (T102.setTop (mkF m 133 #[.val (.int x0), .val (.int x1), .val (.int x2), .val (.int x3), .val (.int x4), .val (.int x5), .val (.int (own_pick x0)), .val (.int (own_pick x1)), .val (.int (own_pick x2)), .val (.int (own_pick x3)), .val (.int (own_pick x4)), .val (.ref b48), .val (.int a_), .val (.int (((((own_b (own_lf (own_pick x0) (0 : Int32) a_)) + (own_b (own_lf (own_pick x1) (1 : Int32) a_))) + (own_b (own_lf (own_pick x2) (2 : Int32) a_))) + (own_b (own_lf (own_pick x3) (3 : Int32) a_))) + (own_b (own_lf (own_pick x4) (4 : Int32) a_)))), .unset, .unset, .unset] [(.int (1 : Int32)), (.int (own_pick x1)), (.int (own_b (own_cr (own_pick x0) (0 : Int32) a_)))]))
  refine own_st (fun t_ => XS.iload (own_here Y103) hx rfl (hb hby at_133) rfl) ?_
  show own_Ends _ _ _ _ (T102.setTop (mkF m 135 #[.val (.int x0), .val (.int x1), .val (.int x2), .val (.int x3), .val (.int x4), .val (.int x5), .val (.int (own_pick x0)), .val (.int (own_pick x1)), .val (.int (own_pick x2)), .val (.int (own_pick x3)), .val (.int (own_pick x4)), .val (.ref b48), .val (.int a_), .val (.int (((((own_b (own_lf (own_pick x0) (0 : Int32) a_)) + (own_b (own_lf (own_pick x1) (1 : Int32) a_))) + (own_b (own_lf (own_pick x2) (2 : Int32) a_))) + (own_b (own_lf (own_pick x3) (3 : Int32) a_))) + (own_b (own_lf (own_pick x4) (4 : Int32) a_)))), .unset, .unset, .unset] [(.int a_), (.int (1 : Int32)), (.int (own_pick x1)), (.int (own_b (own_cr (own_pick x0) (0 : Int32) a_)))]))
  refine own_callS Y103 hx hZ (y := (⟨"com/example/deft_wiring/deftwiring/context/XmlScannerLineAtPinLaw", "cr", "(BII)I"⟩ : MethodName)) hown (hw _ (List.mem_of_getElem? (i := 9) rfl)) (hw _ (List.mem_of_getElem? (i := 10) rfl)) (hw _ (List.mem_of_getElem? (i := 2) rfl)) (hw _ (List.mem_of_getElem? (i := 11) rfl)) (by decide) (argsL := [(.int (own_pick x1)), (.int (1 : Int32)), (.int a_)]) (rest := [(.int (own_b (own_cr (own_pick x0) (0 : Int32) a_)))]) (own_rm3 l Z a0 hw [] (own_pick x1) (1 : Int32) a_  h73 n0  ) (W := 1) (by decide) (by decide) (by decide) (by decide) rfl (by rw [hml]; rfl) (lenOf own_pd1 rfl) rfl (by show 2 * 0 + _ ≤ _; exact Nat.le_of_eq rfl) (hb hby at_135) (fun T107 h109 v110 Y108 q111 => ?_)
  obtain ⟨rfl, rfl⟩ := q111
  show own_Ends _ _ _ _ (T107.setTop (mkF m 138 #[.val (.int x0), .val (.int x1), .val (.int x2), .val (.int x3), .val (.int x4), .val (.int x5), .val (.int (own_pick x0)), .val (.int (own_pick x1)), .val (.int (own_pick x2)), .val (.int (own_pick x3)), .val (.int (own_pick x4)), .val (.ref b48), .val (.int a_), .val (.int (((((own_b (own_lf (own_pick x0) (0 : Int32) a_)) + (own_b (own_lf (own_pick x1) (1 : Int32) a_))) + (own_b (own_lf (own_pick x2) (2 : Int32) a_))) + (own_b (own_lf (own_pick x3) (3 : Int32) a_))) + (own_b (own_lf (own_pick x4) (4 : Int32) a_)))), .unset, .unset, .unset] [(.int (own_b (own_cr (own_pick x1) (1 : Int32) a_))), (.int (own_b (own_cr (own_pick x0) (0 : Int32) a_)))]))
  refine own_st (fun t_ => XS.iadd (own_here Y108) hx rfl (hb hby at_138) rfl) ?_
  show own_Ends _ _ _ _ (T107.setTop (mkF m 139 #[.val (.int x0), .val (.int x1), .val (.int x2), .val (.int x3), .val (.int x4), .val (.int x5), .val (.int (own_pick x0)), .val (.int (own_pick x1)), .val (.int (own_pick x2)), .val (.int (own_pick x3)), .val (.int (own_pick x4)), .val (.ref b48), .val (.int a_), .val (.int (((((own_b (own_lf (own_pick x0) (0 : Int32) a_)) + (own_b (own_lf (own_pick x1) (1 : Int32) a_))) + (own_b (own_lf (own_pick x2) (2 : Int32) a_))) + (own_b (own_lf (own_pick x3) (3 : Int32) a_))) + (own_b (own_lf (own_pick x4) (4 : Int32) a_)))), .unset, .unset, .unset] [(.int ((own_b (own_cr (own_pick x0) (0 : Int32) a_)) + (own_b (own_cr (own_pick x1) (1 : Int32) a_))))]))
  refine own_st (fun t_ => XS.iload (own_here Y108) hx rfl (hb hby at_139) rfl) ?_
  show own_Ends _ _ _ _ (T107.setTop (mkF m 141 #[.val (.int x0), .val (.int x1), .val (.int x2), .val (.int x3), .val (.int x4), .val (.int x5), .val (.int (own_pick x0)), .val (.int (own_pick x1)), .val (.int (own_pick x2)), .val (.int (own_pick x3)), .val (.int (own_pick x4)), .val (.ref b48), .val (.int a_), .val (.int (((((own_b (own_lf (own_pick x0) (0 : Int32) a_)) + (own_b (own_lf (own_pick x1) (1 : Int32) a_))) + (own_b (own_lf (own_pick x2) (2 : Int32) a_))) + (own_b (own_lf (own_pick x3) (3 : Int32) a_))) + (own_b (own_lf (own_pick x4) (4 : Int32) a_)))), .unset, .unset, .unset] [(.int (own_pick x2)), (.int ((own_b (own_cr (own_pick x0) (0 : Int32) a_)) + (own_b (own_cr (own_pick x1) (1 : Int32) a_))))]))
  refine own_st (fun t_ => XS.iconst (own_here Y108) hx rfl (hb hby at_141) ) ?_
  show own_Ends _ _ _ _ (T107.setTop (mkF m 142 #[.val (.int x0), .val (.int x1), .val (.int x2), .val (.int x3), .val (.int x4), .val (.int x5), .val (.int (own_pick x0)), .val (.int (own_pick x1)), .val (.int (own_pick x2)), .val (.int (own_pick x3)), .val (.int (own_pick x4)), .val (.ref b48), .val (.int a_), .val (.int (((((own_b (own_lf (own_pick x0) (0 : Int32) a_)) + (own_b (own_lf (own_pick x1) (1 : Int32) a_))) + (own_b (own_lf (own_pick x2) (2 : Int32) a_))) + (own_b (own_lf (own_pick x3) (3 : Int32) a_))) + (own_b (own_lf (own_pick x4) (4 : Int32) a_)))), .unset, .unset, .unset] [(.int (2 : Int32)), (.int (own_pick x2)), (.int ((own_b (own_cr (own_pick x0) (0 : Int32) a_)) + (own_b (own_cr (own_pick x1) (1 : Int32) a_))))]))
  refine own_st (fun t_ => XS.iload (own_here Y108) hx rfl (hb hby at_142) rfl) ?_
  show own_Ends _ _ _ _ (T107.setTop (mkF m 144 #[.val (.int x0), .val (.int x1), .val (.int x2), .val (.int x3), .val (.int x4), .val (.int x5), .val (.int (own_pick x0)), .val (.int (own_pick x1)), .val (.int (own_pick x2)), .val (.int (own_pick x3)), .val (.int (own_pick x4)), .val (.ref b48), .val (.int a_), .val (.int (((((own_b (own_lf (own_pick x0) (0 : Int32) a_)) + (own_b (own_lf (own_pick x1) (1 : Int32) a_))) + (own_b (own_lf (own_pick x2) (2 : Int32) a_))) + (own_b (own_lf (own_pick x3) (3 : Int32) a_))) + (own_b (own_lf (own_pick x4) (4 : Int32) a_)))), .unset, .unset, .unset] [(.int a_), (.int (2 : Int32)), (.int (own_pick x2)), (.int ((own_b (own_cr (own_pick x0) (0 : Int32) a_)) + (own_b (own_cr (own_pick x1) (1 : Int32) a_))))]))
  refine own_callS Y108 hx hZ (y := (⟨"com/example/deft_wiring/deftwiring/context/XmlScannerLineAtPinLaw", "cr", "(BII)I"⟩ : MethodName)) hown (hw _ (List.mem_of_getElem? (i := 9) rfl)) (hw _ (List.mem_of_getElem? (i := 10) rfl)) (hw _ (List.mem_of_getElem? (i := 2) rfl)) (hw _ (List.mem_of_getElem? (i := 11) rfl)) (by decide) (argsL := [(.int (own_pick x2)), (.int (2 : Int32)), (.int a_)]) (rest := [(.int ((own_b (own_cr (own_pick x0) (0 : Int32) a_)) + (own_b (own_cr (own_pick x1) (1 : Int32) a_))))]) (own_rm3 l Z a0 hw [] (own_pick x2) (2 : Int32) a_  h73 n0  ) (W := 1) (by decide) (by decide) (by decide) (by decide) rfl (by rw [hml]; rfl) (lenOf own_pd1 rfl) rfl (by show 2 * 0 + _ ≤ _; exact Nat.le_of_eq rfl) (hb hby at_144) (fun T112 h114 v115 Y113 q116 => ?_)
  obtain ⟨rfl, rfl⟩ := q116
  show own_Ends _ _ _ _ (T112.setTop (mkF m 147 #[.val (.int x0), .val (.int x1), .val (.int x2), .val (.int x3), .val (.int x4), .val (.int x5), .val (.int (own_pick x0)), .val (.int (own_pick x1)), .val (.int (own_pick x2)), .val (.int (own_pick x3)), .val (.int (own_pick x4)), .val (.ref b48), .val (.int a_), .val (.int (((((own_b (own_lf (own_pick x0) (0 : Int32) a_)) + (own_b (own_lf (own_pick x1) (1 : Int32) a_))) + (own_b (own_lf (own_pick x2) (2 : Int32) a_))) + (own_b (own_lf (own_pick x3) (3 : Int32) a_))) + (own_b (own_lf (own_pick x4) (4 : Int32) a_)))), .unset, .unset, .unset] [(.int (own_b (own_cr (own_pick x2) (2 : Int32) a_))), (.int ((own_b (own_cr (own_pick x0) (0 : Int32) a_)) + (own_b (own_cr (own_pick x1) (1 : Int32) a_))))]))
  refine own_st (fun t_ => XS.iadd (own_here Y113) hx rfl (hb hby at_147) rfl) ?_
  show own_Ends _ _ _ _ (T112.setTop (mkF m 148 #[.val (.int x0), .val (.int x1), .val (.int x2), .val (.int x3), .val (.int x4), .val (.int x5), .val (.int (own_pick x0)), .val (.int (own_pick x1)), .val (.int (own_pick x2)), .val (.int (own_pick x3)), .val (.int (own_pick x4)), .val (.ref b48), .val (.int a_), .val (.int (((((own_b (own_lf (own_pick x0) (0 : Int32) a_)) + (own_b (own_lf (own_pick x1) (1 : Int32) a_))) + (own_b (own_lf (own_pick x2) (2 : Int32) a_))) + (own_b (own_lf (own_pick x3) (3 : Int32) a_))) + (own_b (own_lf (own_pick x4) (4 : Int32) a_)))), .unset, .unset, .unset] [(.int (((own_b (own_cr (own_pick x0) (0 : Int32) a_)) + (own_b (own_cr (own_pick x1) (1 : Int32) a_))) + (own_b (own_cr (own_pick x2) (2 : Int32) a_))))]))
  refine own_st (fun t_ => XS.iload (own_here Y113) hx rfl (hb hby at_148) rfl) ?_
  show own_Ends _ _ _ _ (T112.setTop (mkF m 150 #[.val (.int x0), .val (.int x1), .val (.int x2), .val (.int x3), .val (.int x4), .val (.int x5), .val (.int (own_pick x0)), .val (.int (own_pick x1)), .val (.int (own_pick x2)), .val (.int (own_pick x3)), .val (.int (own_pick x4)), .val (.ref b48), .val (.int a_), .val (.int (((((own_b (own_lf (own_pick x0) (0 : Int32) a_)) + (own_b (own_lf (own_pick x1) (1 : Int32) a_))) + (own_b (own_lf (own_pick x2) (2 : Int32) a_))) + (own_b (own_lf (own_pick x3) (3 : Int32) a_))) + (own_b (own_lf (own_pick x4) (4 : Int32) a_)))), .unset, .unset, .unset] [(.int (own_pick x3)), (.int (((own_b (own_cr (own_pick x0) (0 : Int32) a_)) + (own_b (own_cr (own_pick x1) (1 : Int32) a_))) + (own_b (own_cr (own_pick x2) (2 : Int32) a_))))]))
  refine own_st (fun t_ => XS.iconst (own_here Y113) hx rfl (hb hby at_150) ) ?_
  show own_Ends _ _ _ _ (T112.setTop (mkF m 151 #[.val (.int x0), .val (.int x1), .val (.int x2), .val (.int x3), .val (.int x4), .val (.int x5), .val (.int (own_pick x0)), .val (.int (own_pick x1)), .val (.int (own_pick x2)), .val (.int (own_pick x3)), .val (.int (own_pick x4)), .val (.ref b48), .val (.int a_), .val (.int (((((own_b (own_lf (own_pick x0) (0 : Int32) a_)) + (own_b (own_lf (own_pick x1) (1 : Int32) a_))) + (own_b (own_lf (own_pick x2) (2 : Int32) a_))) + (own_b (own_lf (own_pick x3) (3 : Int32) a_))) + (own_b (own_lf (own_pick x4) (4 : Int32) a_)))), .unset, .unset, .unset] [(.int (3 : Int32)), (.int (own_pick x3)), (.int (((own_b (own_cr (own_pick x0) (0 : Int32) a_)) + (own_b (own_cr (own_pick x1) (1 : Int32) a_))) + (own_b (own_cr (own_pick x2) (2 : Int32) a_))))]))
  refine own_st (fun t_ => XS.iload (own_here Y113) hx rfl (hb hby at_151) rfl) ?_
  show own_Ends _ _ _ _ (T112.setTop (mkF m 153 #[.val (.int x0), .val (.int x1), .val (.int x2), .val (.int x3), .val (.int x4), .val (.int x5), .val (.int (own_pick x0)), .val (.int (own_pick x1)), .val (.int (own_pick x2)), .val (.int (own_pick x3)), .val (.int (own_pick x4)), .val (.ref b48), .val (.int a_), .val (.int (((((own_b (own_lf (own_pick x0) (0 : Int32) a_)) + (own_b (own_lf (own_pick x1) (1 : Int32) a_))) + (own_b (own_lf (own_pick x2) (2 : Int32) a_))) + (own_b (own_lf (own_pick x3) (3 : Int32) a_))) + (own_b (own_lf (own_pick x4) (4 : Int32) a_)))), .unset, .unset, .unset] [(.int a_), (.int (3 : Int32)), (.int (own_pick x3)), (.int (((own_b (own_cr (own_pick x0) (0 : Int32) a_)) + (own_b (own_cr (own_pick x1) (1 : Int32) a_))) + (own_b (own_cr (own_pick x2) (2 : Int32) a_))))]))
  refine own_callS Y113 hx hZ (y := (⟨"com/example/deft_wiring/deftwiring/context/XmlScannerLineAtPinLaw", "cr", "(BII)I"⟩ : MethodName)) hown (hw _ (List.mem_of_getElem? (i := 9) rfl)) (hw _ (List.mem_of_getElem? (i := 10) rfl)) (hw _ (List.mem_of_getElem? (i := 2) rfl)) (hw _ (List.mem_of_getElem? (i := 11) rfl)) (by decide) (argsL := [(.int (own_pick x3)), (.int (3 : Int32)), (.int a_)]) (rest := [(.int (((own_b (own_cr (own_pick x0) (0 : Int32) a_)) + (own_b (own_cr (own_pick x1) (1 : Int32) a_))) + (own_b (own_cr (own_pick x2) (2 : Int32) a_))))]) (own_rm3 l Z a0 hw [] (own_pick x3) (3 : Int32) a_  h73 n0  ) (W := 1) (by decide) (by decide) (by decide) (by decide) rfl (by rw [hml]; rfl) (lenOf own_pd1 rfl) rfl (by show 2 * 0 + _ ≤ _; exact Nat.le_of_eq rfl) (hb hby at_153) (fun T117 h119 v120 Y118 q121 => ?_)
  obtain ⟨rfl, rfl⟩ := q121
  show own_Ends _ _ _ _ (T117.setTop (mkF m 156 #[.val (.int x0), .val (.int x1), .val (.int x2), .val (.int x3), .val (.int x4), .val (.int x5), .val (.int (own_pick x0)), .val (.int (own_pick x1)), .val (.int (own_pick x2)), .val (.int (own_pick x3)), .val (.int (own_pick x4)), .val (.ref b48), .val (.int a_), .val (.int (((((own_b (own_lf (own_pick x0) (0 : Int32) a_)) + (own_b (own_lf (own_pick x1) (1 : Int32) a_))) + (own_b (own_lf (own_pick x2) (2 : Int32) a_))) + (own_b (own_lf (own_pick x3) (3 : Int32) a_))) + (own_b (own_lf (own_pick x4) (4 : Int32) a_)))), .unset, .unset, .unset] [(.int (own_b (own_cr (own_pick x3) (3 : Int32) a_))), (.int (((own_b (own_cr (own_pick x0) (0 : Int32) a_)) + (own_b (own_cr (own_pick x1) (1 : Int32) a_))) + (own_b (own_cr (own_pick x2) (2 : Int32) a_))))]))
  refine own_st (fun t_ => XS.iadd (own_here Y118) hx rfl (hb hby at_156) rfl) ?_
  show own_Ends _ _ _ _ (T117.setTop (mkF m 157 #[.val (.int x0), .val (.int x1), .val (.int x2), .val (.int x3), .val (.int x4), .val (.int x5), .val (.int (own_pick x0)), .val (.int (own_pick x1)), .val (.int (own_pick x2)), .val (.int (own_pick x3)), .val (.int (own_pick x4)), .val (.ref b48), .val (.int a_), .val (.int (((((own_b (own_lf (own_pick x0) (0 : Int32) a_)) + (own_b (own_lf (own_pick x1) (1 : Int32) a_))) + (own_b (own_lf (own_pick x2) (2 : Int32) a_))) + (own_b (own_lf (own_pick x3) (3 : Int32) a_))) + (own_b (own_lf (own_pick x4) (4 : Int32) a_)))), .unset, .unset, .unset] [(.int ((((own_b (own_cr (own_pick x0) (0 : Int32) a_)) + (own_b (own_cr (own_pick x1) (1 : Int32) a_))) + (own_b (own_cr (own_pick x2) (2 : Int32) a_))) + (own_b (own_cr (own_pick x3) (3 : Int32) a_))))]))
  refine own_st (fun t_ => XS.iload (own_here Y118) hx rfl (hb hby at_157) rfl) ?_
  show own_Ends _ _ _ _ (T117.setTop (mkF m 159 #[.val (.int x0), .val (.int x1), .val (.int x2), .val (.int x3), .val (.int x4), .val (.int x5), .val (.int (own_pick x0)), .val (.int (own_pick x1)), .val (.int (own_pick x2)), .val (.int (own_pick x3)), .val (.int (own_pick x4)), .val (.ref b48), .val (.int a_), .val (.int (((((own_b (own_lf (own_pick x0) (0 : Int32) a_)) + (own_b (own_lf (own_pick x1) (1 : Int32) a_))) + (own_b (own_lf (own_pick x2) (2 : Int32) a_))) + (own_b (own_lf (own_pick x3) (3 : Int32) a_))) + (own_b (own_lf (own_pick x4) (4 : Int32) a_)))), .unset, .unset, .unset] [(.int (own_pick x4)), (.int ((((own_b (own_cr (own_pick x0) (0 : Int32) a_)) + (own_b (own_cr (own_pick x1) (1 : Int32) a_))) + (own_b (own_cr (own_pick x2) (2 : Int32) a_))) + (own_b (own_cr (own_pick x3) (3 : Int32) a_))))]))
  refine own_st (fun t_ => XS.iconst (own_here Y118) hx rfl (hb hby at_159) ) ?_
  show own_Ends _ _ _ _ (T117.setTop (mkF m 160 #[.val (.int x0), .val (.int x1), .val (.int x2), .val (.int x3), .val (.int x4), .val (.int x5), .val (.int (own_pick x0)), .val (.int (own_pick x1)), .val (.int (own_pick x2)), .val (.int (own_pick x3)), .val (.int (own_pick x4)), .val (.ref b48), .val (.int a_), .val (.int (((((own_b (own_lf (own_pick x0) (0 : Int32) a_)) + (own_b (own_lf (own_pick x1) (1 : Int32) a_))) + (own_b (own_lf (own_pick x2) (2 : Int32) a_))) + (own_b (own_lf (own_pick x3) (3 : Int32) a_))) + (own_b (own_lf (own_pick x4) (4 : Int32) a_)))), .unset, .unset, .unset] [(.int (4 : Int32)), (.int (own_pick x4)), (.int ((((own_b (own_cr (own_pick x0) (0 : Int32) a_)) + (own_b (own_cr (own_pick x1) (1 : Int32) a_))) + (own_b (own_cr (own_pick x2) (2 : Int32) a_))) + (own_b (own_cr (own_pick x3) (3 : Int32) a_))))]))
  refine own_st (fun t_ => XS.iload (own_here Y118) hx rfl (hb hby at_160) rfl) ?_
  show own_Ends _ _ _ _ (T117.setTop (mkF m 162 #[.val (.int x0), .val (.int x1), .val (.int x2), .val (.int x3), .val (.int x4), .val (.int x5), .val (.int (own_pick x0)), .val (.int (own_pick x1)), .val (.int (own_pick x2)), .val (.int (own_pick x3)), .val (.int (own_pick x4)), .val (.ref b48), .val (.int a_), .val (.int (((((own_b (own_lf (own_pick x0) (0 : Int32) a_)) + (own_b (own_lf (own_pick x1) (1 : Int32) a_))) + (own_b (own_lf (own_pick x2) (2 : Int32) a_))) + (own_b (own_lf (own_pick x3) (3 : Int32) a_))) + (own_b (own_lf (own_pick x4) (4 : Int32) a_)))), .unset, .unset, .unset] [(.int a_), (.int (4 : Int32)), (.int (own_pick x4)), (.int ((((own_b (own_cr (own_pick x0) (0 : Int32) a_)) + (own_b (own_cr (own_pick x1) (1 : Int32) a_))) + (own_b (own_cr (own_pick x2) (2 : Int32) a_))) + (own_b (own_cr (own_pick x3) (3 : Int32) a_))))]))
  refine own_callS Y118 hx hZ (y := (⟨"com/example/deft_wiring/deftwiring/context/XmlScannerLineAtPinLaw", "cr", "(BII)I"⟩ : MethodName)) hown (hw _ (List.mem_of_getElem? (i := 9) rfl)) (hw _ (List.mem_of_getElem? (i := 10) rfl)) (hw _ (List.mem_of_getElem? (i := 2) rfl)) (hw _ (List.mem_of_getElem? (i := 11) rfl)) (by decide) (argsL := [(.int (own_pick x4)), (.int (4 : Int32)), (.int a_)]) (rest := [(.int ((((own_b (own_cr (own_pick x0) (0 : Int32) a_)) + (own_b (own_cr (own_pick x1) (1 : Int32) a_))) + (own_b (own_cr (own_pick x2) (2 : Int32) a_))) + (own_b (own_cr (own_pick x3) (3 : Int32) a_))))]) (own_rm3 l Z a0 hw [] (own_pick x4) (4 : Int32) a_  h73 n0  ) (W := 1) (by decide) (by decide) (by decide) (by decide) rfl (by rw [hml]; rfl) (lenOf own_pd1 rfl) rfl (by show 2 * 0 + _ ≤ _; exact Nat.le_of_eq rfl) (hb hby at_162) (fun T122 h124 v125 Y123 q126 => ?_)
  obtain ⟨rfl, rfl⟩ := q126
  show own_Ends _ _ _ _ (T122.setTop (mkF m 165 #[.val (.int x0), .val (.int x1), .val (.int x2), .val (.int x3), .val (.int x4), .val (.int x5), .val (.int (own_pick x0)), .val (.int (own_pick x1)), .val (.int (own_pick x2)), .val (.int (own_pick x3)), .val (.int (own_pick x4)), .val (.ref b48), .val (.int a_), .val (.int (((((own_b (own_lf (own_pick x0) (0 : Int32) a_)) + (own_b (own_lf (own_pick x1) (1 : Int32) a_))) + (own_b (own_lf (own_pick x2) (2 : Int32) a_))) + (own_b (own_lf (own_pick x3) (3 : Int32) a_))) + (own_b (own_lf (own_pick x4) (4 : Int32) a_)))), .unset, .unset, .unset] [(.int (own_b (own_cr (own_pick x4) (4 : Int32) a_))), (.int ((((own_b (own_cr (own_pick x0) (0 : Int32) a_)) + (own_b (own_cr (own_pick x1) (1 : Int32) a_))) + (own_b (own_cr (own_pick x2) (2 : Int32) a_))) + (own_b (own_cr (own_pick x3) (3 : Int32) a_))))]))
  refine own_st (fun t_ => XS.iadd (own_here Y123) hx rfl (hb hby at_165) rfl) ?_
  show own_Ends _ _ _ _ (T122.setTop (mkF m 166 #[.val (.int x0), .val (.int x1), .val (.int x2), .val (.int x3), .val (.int x4), .val (.int x5), .val (.int (own_pick x0)), .val (.int (own_pick x1)), .val (.int (own_pick x2)), .val (.int (own_pick x3)), .val (.int (own_pick x4)), .val (.ref b48), .val (.int a_), .val (.int (((((own_b (own_lf (own_pick x0) (0 : Int32) a_)) + (own_b (own_lf (own_pick x1) (1 : Int32) a_))) + (own_b (own_lf (own_pick x2) (2 : Int32) a_))) + (own_b (own_lf (own_pick x3) (3 : Int32) a_))) + (own_b (own_lf (own_pick x4) (4 : Int32) a_)))), .unset, .unset, .unset] [(.int (((((own_b (own_cr (own_pick x0) (0 : Int32) a_)) + (own_b (own_cr (own_pick x1) (1 : Int32) a_))) + (own_b (own_cr (own_pick x2) (2 : Int32) a_))) + (own_b (own_cr (own_pick x3) (3 : Int32) a_))) + (own_b (own_cr (own_pick x4) (4 : Int32) a_))))]))
  refine own_st (fun t_ => XS.istore (own_here Y123) hx rfl (hb hby at_166) rfl (l' := #[.val (.int x0), .val (.int x1), .val (.int x2), .val (.int x3), .val (.int x4), .val (.int x5), .val (.int (own_pick x0)), .val (.int (own_pick x1)), .val (.int (own_pick x2)), .val (.int (own_pick x3)), .val (.int (own_pick x4)), .val (.ref b48), .val (.int a_), .val (.int (((((own_b (own_lf (own_pick x0) (0 : Int32) a_)) + (own_b (own_lf (own_pick x1) (1 : Int32) a_))) + (own_b (own_lf (own_pick x2) (2 : Int32) a_))) + (own_b (own_lf (own_pick x3) (3 : Int32) a_))) + (own_b (own_lf (own_pick x4) (4 : Int32) a_)))), .val (.int (((((own_b (own_cr (own_pick x0) (0 : Int32) a_)) + (own_b (own_cr (own_pick x1) (1 : Int32) a_))) + (own_b (own_cr (own_pick x2) (2 : Int32) a_))) + (own_b (own_cr (own_pick x3) (3 : Int32) a_))) + (own_b (own_cr (own_pick x4) (4 : Int32) a_)))), .unset, .unset]) rfl) ?_
  show own_Ends _ _ _ _ (T122.setTop (mkF m 168 #[.val (.int x0), .val (.int x1), .val (.int x2), .val (.int x3), .val (.int x4), .val (.int x5), .val (.int (own_pick x0)), .val (.int (own_pick x1)), .val (.int (own_pick x2)), .val (.int (own_pick x3)), .val (.int (own_pick x4)), .val (.ref b48), .val (.int a_), .val (.int (((((own_b (own_lf (own_pick x0) (0 : Int32) a_)) + (own_b (own_lf (own_pick x1) (1 : Int32) a_))) + (own_b (own_lf (own_pick x2) (2 : Int32) a_))) + (own_b (own_lf (own_pick x3) (3 : Int32) a_))) + (own_b (own_lf (own_pick x4) (4 : Int32) a_)))), .val (.int (((((own_b (own_cr (own_pick x0) (0 : Int32) a_)) + (own_b (own_cr (own_pick x1) (1 : Int32) a_))) + (own_b (own_cr (own_pick x2) (2 : Int32) a_))) + (own_b (own_cr (own_pick x3) (3 : Int32) a_))) + (own_b (own_cr (own_pick x4) (4 : Int32) a_)))), .unset, .unset] []))
  refine own_st (fun t_ => XS.iload (own_here Y123) hx rfl (hb hby at_168) rfl) ?_
  show own_Ends _ _ _ _ (T122.setTop (mkF m 170 #[.val (.int x0), .val (.int x1), .val (.int x2), .val (.int x3), .val (.int x4), .val (.int x5), .val (.int (own_pick x0)), .val (.int (own_pick x1)), .val (.int (own_pick x2)), .val (.int (own_pick x3)), .val (.int (own_pick x4)), .val (.ref b48), .val (.int a_), .val (.int (((((own_b (own_lf (own_pick x0) (0 : Int32) a_)) + (own_b (own_lf (own_pick x1) (1 : Int32) a_))) + (own_b (own_lf (own_pick x2) (2 : Int32) a_))) + (own_b (own_lf (own_pick x3) (3 : Int32) a_))) + (own_b (own_lf (own_pick x4) (4 : Int32) a_)))), .val (.int (((((own_b (own_cr (own_pick x0) (0 : Int32) a_)) + (own_b (own_cr (own_pick x1) (1 : Int32) a_))) + (own_b (own_cr (own_pick x2) (2 : Int32) a_))) + (own_b (own_cr (own_pick x3) (3 : Int32) a_))) + (own_b (own_cr (own_pick x4) (4 : Int32) a_)))), .unset, .unset] [(.int (own_pick x0))]))
  refine own_st (fun t_ => XS.iload (own_here Y123) hx rfl (hb hby at_170) rfl) ?_
  show own_Ends _ _ _ _ (T122.setTop (mkF m 172 #[.val (.int x0), .val (.int x1), .val (.int x2), .val (.int x3), .val (.int x4), .val (.int x5), .val (.int (own_pick x0)), .val (.int (own_pick x1)), .val (.int (own_pick x2)), .val (.int (own_pick x3)), .val (.int (own_pick x4)), .val (.ref b48), .val (.int a_), .val (.int (((((own_b (own_lf (own_pick x0) (0 : Int32) a_)) + (own_b (own_lf (own_pick x1) (1 : Int32) a_))) + (own_b (own_lf (own_pick x2) (2 : Int32) a_))) + (own_b (own_lf (own_pick x3) (3 : Int32) a_))) + (own_b (own_lf (own_pick x4) (4 : Int32) a_)))), .val (.int (((((own_b (own_cr (own_pick x0) (0 : Int32) a_)) + (own_b (own_cr (own_pick x1) (1 : Int32) a_))) + (own_b (own_cr (own_pick x2) (2 : Int32) a_))) + (own_b (own_cr (own_pick x3) (3 : Int32) a_))) + (own_b (own_cr (own_pick x4) (4 : Int32) a_)))), .unset, .unset] [(.int (own_pick x1)), (.int (own_pick x0))]))
  refine own_st (fun t_ => XS.iconst (own_here Y123) hx rfl (hb hby at_172) ) ?_
  show own_Ends _ _ _ _ (T122.setTop (mkF m 173 #[.val (.int x0), .val (.int x1), .val (.int x2), .val (.int x3), .val (.int x4), .val (.int x5), .val (.int (own_pick x0)), .val (.int (own_pick x1)), .val (.int (own_pick x2)), .val (.int (own_pick x3)), .val (.int (own_pick x4)), .val (.ref b48), .val (.int a_), .val (.int (((((own_b (own_lf (own_pick x0) (0 : Int32) a_)) + (own_b (own_lf (own_pick x1) (1 : Int32) a_))) + (own_b (own_lf (own_pick x2) (2 : Int32) a_))) + (own_b (own_lf (own_pick x3) (3 : Int32) a_))) + (own_b (own_lf (own_pick x4) (4 : Int32) a_)))), .val (.int (((((own_b (own_cr (own_pick x0) (0 : Int32) a_)) + (own_b (own_cr (own_pick x1) (1 : Int32) a_))) + (own_b (own_cr (own_pick x2) (2 : Int32) a_))) + (own_b (own_cr (own_pick x3) (3 : Int32) a_))) + (own_b (own_cr (own_pick x4) (4 : Int32) a_)))), .unset, .unset] [(.int (0 : Int32)), (.int (own_pick x1)), (.int (own_pick x0))]))
  refine own_st (fun t_ => XS.iload (own_here Y123) hx rfl (hb hby at_173) rfl) ?_
  show own_Ends _ _ _ _ (T122.setTop (mkF m 175 #[.val (.int x0), .val (.int x1), .val (.int x2), .val (.int x3), .val (.int x4), .val (.int x5), .val (.int (own_pick x0)), .val (.int (own_pick x1)), .val (.int (own_pick x2)), .val (.int (own_pick x3)), .val (.int (own_pick x4)), .val (.ref b48), .val (.int a_), .val (.int (((((own_b (own_lf (own_pick x0) (0 : Int32) a_)) + (own_b (own_lf (own_pick x1) (1 : Int32) a_))) + (own_b (own_lf (own_pick x2) (2 : Int32) a_))) + (own_b (own_lf (own_pick x3) (3 : Int32) a_))) + (own_b (own_lf (own_pick x4) (4 : Int32) a_)))), .val (.int (((((own_b (own_cr (own_pick x0) (0 : Int32) a_)) + (own_b (own_cr (own_pick x1) (1 : Int32) a_))) + (own_b (own_cr (own_pick x2) (2 : Int32) a_))) + (own_b (own_cr (own_pick x3) (3 : Int32) a_))) + (own_b (own_cr (own_pick x4) (4 : Int32) a_)))), .unset, .unset] [(.int a_), (.int (0 : Int32)), (.int (own_pick x1)), (.int (own_pick x0))]))
  refine own_callS Y123 hx hZ (y := (⟨"com/example/deft_wiring/deftwiring/context/XmlScannerLineAtPinLaw", "pair", "(BBII)I"⟩ : MethodName)) hown (hw _ (List.mem_of_getElem? (i := 12) rfl)) (hw _ (List.mem_of_getElem? (i := 13) rfl)) (hw _ (List.mem_of_getElem? (i := 2) rfl)) (hw _ (List.mem_of_getElem? (i := 14) rfl)) (by decide) (argsL := [(.int (own_pick x0)), (.int (own_pick x1)), (.int (0 : Int32)), (.int a_)]) (rest := []) (own_rm4 l Z a0 hw [] (own_pick x0) (own_pick x1) (0 : Int32) a_  h73 n0  ) (W := 0) (by decide) (by decide) (by decide) (by decide) rfl (by rw [hml]; rfl) (lenOf own_pd2 rfl) rfl (by show 2 * 0 + _ ≤ _; exact Nat.le_of_eq rfl) (hb hby at_175) (fun T127 h129 v130 Y128 q131 => ?_)
  obtain ⟨rfl, rfl⟩ := q131
  show own_Ends _ _ _ _ (T127.setTop (mkF m 178 #[.val (.int x0), .val (.int x1), .val (.int x2), .val (.int x3), .val (.int x4), .val (.int x5), .val (.int (own_pick x0)), .val (.int (own_pick x1)), .val (.int (own_pick x2)), .val (.int (own_pick x3)), .val (.int (own_pick x4)), .val (.ref b48), .val (.int a_), .val (.int (((((own_b (own_lf (own_pick x0) (0 : Int32) a_)) + (own_b (own_lf (own_pick x1) (1 : Int32) a_))) + (own_b (own_lf (own_pick x2) (2 : Int32) a_))) + (own_b (own_lf (own_pick x3) (3 : Int32) a_))) + (own_b (own_lf (own_pick x4) (4 : Int32) a_)))), .val (.int (((((own_b (own_cr (own_pick x0) (0 : Int32) a_)) + (own_b (own_cr (own_pick x1) (1 : Int32) a_))) + (own_b (own_cr (own_pick x2) (2 : Int32) a_))) + (own_b (own_cr (own_pick x3) (3 : Int32) a_))) + (own_b (own_cr (own_pick x4) (4 : Int32) a_)))), .unset, .unset] [(.int (own_b (own_pr (own_pick x0) (own_pick x1) (0 : Int32) a_)))]))
  refine own_st (fun t_ => XS.iload (own_here Y128) hx rfl (hb hby at_178) rfl) ?_
  show own_Ends _ _ _ _ (T127.setTop (mkF m 180 #[.val (.int x0), .val (.int x1), .val (.int x2), .val (.int x3), .val (.int x4), .val (.int x5), .val (.int (own_pick x0)), .val (.int (own_pick x1)), .val (.int (own_pick x2)), .val (.int (own_pick x3)), .val (.int (own_pick x4)), .val (.ref b48), .val (.int a_), .val (.int (((((own_b (own_lf (own_pick x0) (0 : Int32) a_)) + (own_b (own_lf (own_pick x1) (1 : Int32) a_))) + (own_b (own_lf (own_pick x2) (2 : Int32) a_))) + (own_b (own_lf (own_pick x3) (3 : Int32) a_))) + (own_b (own_lf (own_pick x4) (4 : Int32) a_)))), .val (.int (((((own_b (own_cr (own_pick x0) (0 : Int32) a_)) + (own_b (own_cr (own_pick x1) (1 : Int32) a_))) + (own_b (own_cr (own_pick x2) (2 : Int32) a_))) + (own_b (own_cr (own_pick x3) (3 : Int32) a_))) + (own_b (own_cr (own_pick x4) (4 : Int32) a_)))), .unset, .unset] [(.int (own_pick x1)), (.int (own_b (own_pr (own_pick x0) (own_pick x1) (0 : Int32) a_)))]))
  refine own_st (fun t_ => XS.iload (own_here Y128) hx rfl (hb hby at_180) rfl) ?_
  show own_Ends _ _ _ _ (T127.setTop (mkF m 182 #[.val (.int x0), .val (.int x1), .val (.int x2), .val (.int x3), .val (.int x4), .val (.int x5), .val (.int (own_pick x0)), .val (.int (own_pick x1)), .val (.int (own_pick x2)), .val (.int (own_pick x3)), .val (.int (own_pick x4)), .val (.ref b48), .val (.int a_), .val (.int (((((own_b (own_lf (own_pick x0) (0 : Int32) a_)) + (own_b (own_lf (own_pick x1) (1 : Int32) a_))) + (own_b (own_lf (own_pick x2) (2 : Int32) a_))) + (own_b (own_lf (own_pick x3) (3 : Int32) a_))) + (own_b (own_lf (own_pick x4) (4 : Int32) a_)))), .val (.int (((((own_b (own_cr (own_pick x0) (0 : Int32) a_)) + (own_b (own_cr (own_pick x1) (1 : Int32) a_))) + (own_b (own_cr (own_pick x2) (2 : Int32) a_))) + (own_b (own_cr (own_pick x3) (3 : Int32) a_))) + (own_b (own_cr (own_pick x4) (4 : Int32) a_)))), .unset, .unset] [(.int (own_pick x2)), (.int (own_pick x1)), (.int (own_b (own_pr (own_pick x0) (own_pick x1) (0 : Int32) a_)))]))
  refine own_st (fun t_ => XS.iconst (own_here Y128) hx rfl (hb hby at_182) ) ?_
  show own_Ends _ _ _ _ (T127.setTop (mkF m 183 #[.val (.int x0), .val (.int x1), .val (.int x2), .val (.int x3), .val (.int x4), .val (.int x5), .val (.int (own_pick x0)), .val (.int (own_pick x1)), .val (.int (own_pick x2)), .val (.int (own_pick x3)), .val (.int (own_pick x4)), .val (.ref b48), .val (.int a_), .val (.int (((((own_b (own_lf (own_pick x0) (0 : Int32) a_)) + (own_b (own_lf (own_pick x1) (1 : Int32) a_))) + (own_b (own_lf (own_pick x2) (2 : Int32) a_))) + (own_b (own_lf (own_pick x3) (3 : Int32) a_))) + (own_b (own_lf (own_pick x4) (4 : Int32) a_)))), .val (.int (((((own_b (own_cr (own_pick x0) (0 : Int32) a_)) + (own_b (own_cr (own_pick x1) (1 : Int32) a_))) + (own_b (own_cr (own_pick x2) (2 : Int32) a_))) + (own_b (own_cr (own_pick x3) (3 : Int32) a_))) + (own_b (own_cr (own_pick x4) (4 : Int32) a_)))), .unset, .unset] [(.int (1 : Int32)), (.int (own_pick x2)), (.int (own_pick x1)), (.int (own_b (own_pr (own_pick x0) (own_pick x1) (0 : Int32) a_)))]))
  refine own_st (fun t_ => XS.iload (own_here Y128) hx rfl (hb hby at_183) rfl) ?_
  show own_Ends _ _ _ _ (T127.setTop (mkF m 185 #[.val (.int x0), .val (.int x1), .val (.int x2), .val (.int x3), .val (.int x4), .val (.int x5), .val (.int (own_pick x0)), .val (.int (own_pick x1)), .val (.int (own_pick x2)), .val (.int (own_pick x3)), .val (.int (own_pick x4)), .val (.ref b48), .val (.int a_), .val (.int (((((own_b (own_lf (own_pick x0) (0 : Int32) a_)) + (own_b (own_lf (own_pick x1) (1 : Int32) a_))) + (own_b (own_lf (own_pick x2) (2 : Int32) a_))) + (own_b (own_lf (own_pick x3) (3 : Int32) a_))) + (own_b (own_lf (own_pick x4) (4 : Int32) a_)))), .val (.int (((((own_b (own_cr (own_pick x0) (0 : Int32) a_)) + (own_b (own_cr (own_pick x1) (1 : Int32) a_))) + (own_b (own_cr (own_pick x2) (2 : Int32) a_))) + (own_b (own_cr (own_pick x3) (3 : Int32) a_))) + (own_b (own_cr (own_pick x4) (4 : Int32) a_)))), .unset, .unset] [(.int a_), (.int (1 : Int32)), (.int (own_pick x2)), (.int (own_pick x1)), (.int (own_b (own_pr (own_pick x0) (own_pick x1) (0 : Int32) a_)))]))
  refine own_callS Y128 hx hZ (y := (⟨"com/example/deft_wiring/deftwiring/context/XmlScannerLineAtPinLaw", "pair", "(BBII)I"⟩ : MethodName)) hown (hw _ (List.mem_of_getElem? (i := 12) rfl)) (hw _ (List.mem_of_getElem? (i := 13) rfl)) (hw _ (List.mem_of_getElem? (i := 2) rfl)) (hw _ (List.mem_of_getElem? (i := 14) rfl)) (by decide) (argsL := [(.int (own_pick x1)), (.int (own_pick x2)), (.int (1 : Int32)), (.int a_)]) (rest := [(.int (own_b (own_pr (own_pick x0) (own_pick x1) (0 : Int32) a_)))]) (own_rm4 l Z a0 hw [] (own_pick x1) (own_pick x2) (1 : Int32) a_  h73 n0  ) (W := 1) (by decide) (by decide) (by decide) (by decide) rfl (by rw [hml]; rfl) (lenOf own_pd2 rfl) rfl (by show 2 * 0 + _ ≤ _; exact Nat.le_of_eq rfl) (hb hby at_185) (fun T132 h134 v135 Y133 q136 => ?_)
  obtain ⟨rfl, rfl⟩ := q136
  show own_Ends _ _ _ _ (T132.setTop (mkF m 188 #[.val (.int x0), .val (.int x1), .val (.int x2), .val (.int x3), .val (.int x4), .val (.int x5), .val (.int (own_pick x0)), .val (.int (own_pick x1)), .val (.int (own_pick x2)), .val (.int (own_pick x3)), .val (.int (own_pick x4)), .val (.ref b48), .val (.int a_), .val (.int (((((own_b (own_lf (own_pick x0) (0 : Int32) a_)) + (own_b (own_lf (own_pick x1) (1 : Int32) a_))) + (own_b (own_lf (own_pick x2) (2 : Int32) a_))) + (own_b (own_lf (own_pick x3) (3 : Int32) a_))) + (own_b (own_lf (own_pick x4) (4 : Int32) a_)))), .val (.int (((((own_b (own_cr (own_pick x0) (0 : Int32) a_)) + (own_b (own_cr (own_pick x1) (1 : Int32) a_))) + (own_b (own_cr (own_pick x2) (2 : Int32) a_))) + (own_b (own_cr (own_pick x3) (3 : Int32) a_))) + (own_b (own_cr (own_pick x4) (4 : Int32) a_)))), .unset, .unset] [(.int (own_b (own_pr (own_pick x1) (own_pick x2) (1 : Int32) a_))), (.int (own_b (own_pr (own_pick x0) (own_pick x1) (0 : Int32) a_)))]))
  refine own_st (fun t_ => XS.iadd (own_here Y133) hx rfl (hb hby at_188) rfl) ?_
  show own_Ends _ _ _ _ (T132.setTop (mkF m 189 #[.val (.int x0), .val (.int x1), .val (.int x2), .val (.int x3), .val (.int x4), .val (.int x5), .val (.int (own_pick x0)), .val (.int (own_pick x1)), .val (.int (own_pick x2)), .val (.int (own_pick x3)), .val (.int (own_pick x4)), .val (.ref b48), .val (.int a_), .val (.int (((((own_b (own_lf (own_pick x0) (0 : Int32) a_)) + (own_b (own_lf (own_pick x1) (1 : Int32) a_))) + (own_b (own_lf (own_pick x2) (2 : Int32) a_))) + (own_b (own_lf (own_pick x3) (3 : Int32) a_))) + (own_b (own_lf (own_pick x4) (4 : Int32) a_)))), .val (.int (((((own_b (own_cr (own_pick x0) (0 : Int32) a_)) + (own_b (own_cr (own_pick x1) (1 : Int32) a_))) + (own_b (own_cr (own_pick x2) (2 : Int32) a_))) + (own_b (own_cr (own_pick x3) (3 : Int32) a_))) + (own_b (own_cr (own_pick x4) (4 : Int32) a_)))), .unset, .unset] [(.int ((own_b (own_pr (own_pick x0) (own_pick x1) (0 : Int32) a_)) + (own_b (own_pr (own_pick x1) (own_pick x2) (1 : Int32) a_))))]))
  refine own_st (fun t_ => XS.iload (own_here Y133) hx rfl (hb hby at_189) rfl) ?_
  show own_Ends _ _ _ _ (T132.setTop (mkF m 191 #[.val (.int x0), .val (.int x1), .val (.int x2), .val (.int x3), .val (.int x4), .val (.int x5), .val (.int (own_pick x0)), .val (.int (own_pick x1)), .val (.int (own_pick x2)), .val (.int (own_pick x3)), .val (.int (own_pick x4)), .val (.ref b48), .val (.int a_), .val (.int (((((own_b (own_lf (own_pick x0) (0 : Int32) a_)) + (own_b (own_lf (own_pick x1) (1 : Int32) a_))) + (own_b (own_lf (own_pick x2) (2 : Int32) a_))) + (own_b (own_lf (own_pick x3) (3 : Int32) a_))) + (own_b (own_lf (own_pick x4) (4 : Int32) a_)))), .val (.int (((((own_b (own_cr (own_pick x0) (0 : Int32) a_)) + (own_b (own_cr (own_pick x1) (1 : Int32) a_))) + (own_b (own_cr (own_pick x2) (2 : Int32) a_))) + (own_b (own_cr (own_pick x3) (3 : Int32) a_))) + (own_b (own_cr (own_pick x4) (4 : Int32) a_)))), .unset, .unset] [(.int (own_pick x2)), (.int ((own_b (own_pr (own_pick x0) (own_pick x1) (0 : Int32) a_)) + (own_b (own_pr (own_pick x1) (own_pick x2) (1 : Int32) a_))))]))
  refine own_st (fun t_ => XS.iload (own_here Y133) hx rfl (hb hby at_191) rfl) ?_
  show own_Ends _ _ _ _ (T132.setTop (mkF m 193 #[.val (.int x0), .val (.int x1), .val (.int x2), .val (.int x3), .val (.int x4), .val (.int x5), .val (.int (own_pick x0)), .val (.int (own_pick x1)), .val (.int (own_pick x2)), .val (.int (own_pick x3)), .val (.int (own_pick x4)), .val (.ref b48), .val (.int a_), .val (.int (((((own_b (own_lf (own_pick x0) (0 : Int32) a_)) + (own_b (own_lf (own_pick x1) (1 : Int32) a_))) + (own_b (own_lf (own_pick x2) (2 : Int32) a_))) + (own_b (own_lf (own_pick x3) (3 : Int32) a_))) + (own_b (own_lf (own_pick x4) (4 : Int32) a_)))), .val (.int (((((own_b (own_cr (own_pick x0) (0 : Int32) a_)) + (own_b (own_cr (own_pick x1) (1 : Int32) a_))) + (own_b (own_cr (own_pick x2) (2 : Int32) a_))) + (own_b (own_cr (own_pick x3) (3 : Int32) a_))) + (own_b (own_cr (own_pick x4) (4 : Int32) a_)))), .unset, .unset] [(.int (own_pick x3)), (.int (own_pick x2)), (.int ((own_b (own_pr (own_pick x0) (own_pick x1) (0 : Int32) a_)) + (own_b (own_pr (own_pick x1) (own_pick x2) (1 : Int32) a_))))]))
  refine own_st (fun t_ => XS.iconst (own_here Y133) hx rfl (hb hby at_193) ) ?_
  show own_Ends _ _ _ _ (T132.setTop (mkF m 194 #[.val (.int x0), .val (.int x1), .val (.int x2), .val (.int x3), .val (.int x4), .val (.int x5), .val (.int (own_pick x0)), .val (.int (own_pick x1)), .val (.int (own_pick x2)), .val (.int (own_pick x3)), .val (.int (own_pick x4)), .val (.ref b48), .val (.int a_), .val (.int (((((own_b (own_lf (own_pick x0) (0 : Int32) a_)) + (own_b (own_lf (own_pick x1) (1 : Int32) a_))) + (own_b (own_lf (own_pick x2) (2 : Int32) a_))) + (own_b (own_lf (own_pick x3) (3 : Int32) a_))) + (own_b (own_lf (own_pick x4) (4 : Int32) a_)))), .val (.int (((((own_b (own_cr (own_pick x0) (0 : Int32) a_)) + (own_b (own_cr (own_pick x1) (1 : Int32) a_))) + (own_b (own_cr (own_pick x2) (2 : Int32) a_))) + (own_b (own_cr (own_pick x3) (3 : Int32) a_))) + (own_b (own_cr (own_pick x4) (4 : Int32) a_)))), .unset, .unset] [(.int (2 : Int32)), (.int (own_pick x3)), (.int (own_pick x2)), (.int ((own_b (own_pr (own_pick x0) (own_pick x1) (0 : Int32) a_)) + (own_b (own_pr (own_pick x1) (own_pick x2) (1 : Int32) a_))))]))
  refine own_st (fun t_ => XS.iload (own_here Y133) hx rfl (hb hby at_194) rfl) ?_
  show own_Ends _ _ _ _ (T132.setTop (mkF m 196 #[.val (.int x0), .val (.int x1), .val (.int x2), .val (.int x3), .val (.int x4), .val (.int x5), .val (.int (own_pick x0)), .val (.int (own_pick x1)), .val (.int (own_pick x2)), .val (.int (own_pick x3)), .val (.int (own_pick x4)), .val (.ref b48), .val (.int a_), .val (.int (((((own_b (own_lf (own_pick x0) (0 : Int32) a_)) + (own_b (own_lf (own_pick x1) (1 : Int32) a_))) + (own_b (own_lf (own_pick x2) (2 : Int32) a_))) + (own_b (own_lf (own_pick x3) (3 : Int32) a_))) + (own_b (own_lf (own_pick x4) (4 : Int32) a_)))), .val (.int (((((own_b (own_cr (own_pick x0) (0 : Int32) a_)) + (own_b (own_cr (own_pick x1) (1 : Int32) a_))) + (own_b (own_cr (own_pick x2) (2 : Int32) a_))) + (own_b (own_cr (own_pick x3) (3 : Int32) a_))) + (own_b (own_cr (own_pick x4) (4 : Int32) a_)))), .unset, .unset] [(.int a_), (.int (2 : Int32)), (.int (own_pick x3)), (.int (own_pick x2)), (.int ((own_b (own_pr (own_pick x0) (own_pick x1) (0 : Int32) a_)) + (own_b (own_pr (own_pick x1) (own_pick x2) (1 : Int32) a_))))]))
  refine own_callS Y133 hx hZ (y := (⟨"com/example/deft_wiring/deftwiring/context/XmlScannerLineAtPinLaw", "pair", "(BBII)I"⟩ : MethodName)) hown (hw _ (List.mem_of_getElem? (i := 12) rfl)) (hw _ (List.mem_of_getElem? (i := 13) rfl)) (hw _ (List.mem_of_getElem? (i := 2) rfl)) (hw _ (List.mem_of_getElem? (i := 14) rfl)) (by decide) (argsL := [(.int (own_pick x2)), (.int (own_pick x3)), (.int (2 : Int32)), (.int a_)]) (rest := [(.int ((own_b (own_pr (own_pick x0) (own_pick x1) (0 : Int32) a_)) + (own_b (own_pr (own_pick x1) (own_pick x2) (1 : Int32) a_))))]) (own_rm4 l Z a0 hw [] (own_pick x2) (own_pick x3) (2 : Int32) a_  h73 n0  ) (W := 1) (by decide) (by decide) (by decide) (by decide) rfl (by rw [hml]; rfl) (lenOf own_pd2 rfl) rfl (by show 2 * 0 + _ ≤ _; exact Nat.le_of_eq rfl) (hb hby at_196) (fun T137 h139 v140 Y138 q141 => ?_)
  obtain ⟨rfl, rfl⟩ := q141
  show own_Ends _ _ _ _ (T137.setTop (mkF m 199 #[.val (.int x0), .val (.int x1), .val (.int x2), .val (.int x3), .val (.int x4), .val (.int x5), .val (.int (own_pick x0)), .val (.int (own_pick x1)), .val (.int (own_pick x2)), .val (.int (own_pick x3)), .val (.int (own_pick x4)), .val (.ref b48), .val (.int a_), .val (.int (((((own_b (own_lf (own_pick x0) (0 : Int32) a_)) + (own_b (own_lf (own_pick x1) (1 : Int32) a_))) + (own_b (own_lf (own_pick x2) (2 : Int32) a_))) + (own_b (own_lf (own_pick x3) (3 : Int32) a_))) + (own_b (own_lf (own_pick x4) (4 : Int32) a_)))), .val (.int (((((own_b (own_cr (own_pick x0) (0 : Int32) a_)) + (own_b (own_cr (own_pick x1) (1 : Int32) a_))) + (own_b (own_cr (own_pick x2) (2 : Int32) a_))) + (own_b (own_cr (own_pick x3) (3 : Int32) a_))) + (own_b (own_cr (own_pick x4) (4 : Int32) a_)))), .unset, .unset] [(.int (own_b (own_pr (own_pick x2) (own_pick x3) (2 : Int32) a_))), (.int ((own_b (own_pr (own_pick x0) (own_pick x1) (0 : Int32) a_)) + (own_b (own_pr (own_pick x1) (own_pick x2) (1 : Int32) a_))))]))
  refine own_st (fun t_ => XS.iadd (own_here Y138) hx rfl (hb hby at_199) rfl) ?_
  show own_Ends _ _ _ _ (T137.setTop (mkF m 200 #[.val (.int x0), .val (.int x1), .val (.int x2), .val (.int x3), .val (.int x4), .val (.int x5), .val (.int (own_pick x0)), .val (.int (own_pick x1)), .val (.int (own_pick x2)), .val (.int (own_pick x3)), .val (.int (own_pick x4)), .val (.ref b48), .val (.int a_), .val (.int (((((own_b (own_lf (own_pick x0) (0 : Int32) a_)) + (own_b (own_lf (own_pick x1) (1 : Int32) a_))) + (own_b (own_lf (own_pick x2) (2 : Int32) a_))) + (own_b (own_lf (own_pick x3) (3 : Int32) a_))) + (own_b (own_lf (own_pick x4) (4 : Int32) a_)))), .val (.int (((((own_b (own_cr (own_pick x0) (0 : Int32) a_)) + (own_b (own_cr (own_pick x1) (1 : Int32) a_))) + (own_b (own_cr (own_pick x2) (2 : Int32) a_))) + (own_b (own_cr (own_pick x3) (3 : Int32) a_))) + (own_b (own_cr (own_pick x4) (4 : Int32) a_)))), .unset, .unset] [(.int (((own_b (own_pr (own_pick x0) (own_pick x1) (0 : Int32) a_)) + (own_b (own_pr (own_pick x1) (own_pick x2) (1 : Int32) a_))) + (own_b (own_pr (own_pick x2) (own_pick x3) (2 : Int32) a_))))]))
  refine own_st (fun t_ => XS.iload (own_here Y138) hx rfl (hb hby at_200) rfl) ?_
  show own_Ends _ _ _ _ (T137.setTop (mkF m 202 #[.val (.int x0), .val (.int x1), .val (.int x2), .val (.int x3), .val (.int x4), .val (.int x5), .val (.int (own_pick x0)), .val (.int (own_pick x1)), .val (.int (own_pick x2)), .val (.int (own_pick x3)), .val (.int (own_pick x4)), .val (.ref b48), .val (.int a_), .val (.int (((((own_b (own_lf (own_pick x0) (0 : Int32) a_)) + (own_b (own_lf (own_pick x1) (1 : Int32) a_))) + (own_b (own_lf (own_pick x2) (2 : Int32) a_))) + (own_b (own_lf (own_pick x3) (3 : Int32) a_))) + (own_b (own_lf (own_pick x4) (4 : Int32) a_)))), .val (.int (((((own_b (own_cr (own_pick x0) (0 : Int32) a_)) + (own_b (own_cr (own_pick x1) (1 : Int32) a_))) + (own_b (own_cr (own_pick x2) (2 : Int32) a_))) + (own_b (own_cr (own_pick x3) (3 : Int32) a_))) + (own_b (own_cr (own_pick x4) (4 : Int32) a_)))), .unset, .unset] [(.int (own_pick x3)), (.int (((own_b (own_pr (own_pick x0) (own_pick x1) (0 : Int32) a_)) + (own_b (own_pr (own_pick x1) (own_pick x2) (1 : Int32) a_))) + (own_b (own_pr (own_pick x2) (own_pick x3) (2 : Int32) a_))))]))
  refine own_st (fun t_ => XS.iload (own_here Y138) hx rfl (hb hby at_202) rfl) ?_
  show own_Ends _ _ _ _ (T137.setTop (mkF m 204 #[.val (.int x0), .val (.int x1), .val (.int x2), .val (.int x3), .val (.int x4), .val (.int x5), .val (.int (own_pick x0)), .val (.int (own_pick x1)), .val (.int (own_pick x2)), .val (.int (own_pick x3)), .val (.int (own_pick x4)), .val (.ref b48), .val (.int a_), .val (.int (((((own_b (own_lf (own_pick x0) (0 : Int32) a_)) + (own_b (own_lf (own_pick x1) (1 : Int32) a_))) + (own_b (own_lf (own_pick x2) (2 : Int32) a_))) + (own_b (own_lf (own_pick x3) (3 : Int32) a_))) + (own_b (own_lf (own_pick x4) (4 : Int32) a_)))), .val (.int (((((own_b (own_cr (own_pick x0) (0 : Int32) a_)) + (own_b (own_cr (own_pick x1) (1 : Int32) a_))) + (own_b (own_cr (own_pick x2) (2 : Int32) a_))) + (own_b (own_cr (own_pick x3) (3 : Int32) a_))) + (own_b (own_cr (own_pick x4) (4 : Int32) a_)))), .unset, .unset] [(.int (own_pick x4)), (.int (own_pick x3)), (.int (((own_b (own_pr (own_pick x0) (own_pick x1) (0 : Int32) a_)) + (own_b (own_pr (own_pick x1) (own_pick x2) (1 : Int32) a_))) + (own_b (own_pr (own_pick x2) (own_pick x3) (2 : Int32) a_))))]))
  refine own_st (fun t_ => XS.iconst (own_here Y138) hx rfl (hb hby at_204) ) ?_
  show own_Ends _ _ _ _ (T137.setTop (mkF m 205 #[.val (.int x0), .val (.int x1), .val (.int x2), .val (.int x3), .val (.int x4), .val (.int x5), .val (.int (own_pick x0)), .val (.int (own_pick x1)), .val (.int (own_pick x2)), .val (.int (own_pick x3)), .val (.int (own_pick x4)), .val (.ref b48), .val (.int a_), .val (.int (((((own_b (own_lf (own_pick x0) (0 : Int32) a_)) + (own_b (own_lf (own_pick x1) (1 : Int32) a_))) + (own_b (own_lf (own_pick x2) (2 : Int32) a_))) + (own_b (own_lf (own_pick x3) (3 : Int32) a_))) + (own_b (own_lf (own_pick x4) (4 : Int32) a_)))), .val (.int (((((own_b (own_cr (own_pick x0) (0 : Int32) a_)) + (own_b (own_cr (own_pick x1) (1 : Int32) a_))) + (own_b (own_cr (own_pick x2) (2 : Int32) a_))) + (own_b (own_cr (own_pick x3) (3 : Int32) a_))) + (own_b (own_cr (own_pick x4) (4 : Int32) a_)))), .unset, .unset] [(.int (3 : Int32)), (.int (own_pick x4)), (.int (own_pick x3)), (.int (((own_b (own_pr (own_pick x0) (own_pick x1) (0 : Int32) a_)) + (own_b (own_pr (own_pick x1) (own_pick x2) (1 : Int32) a_))) + (own_b (own_pr (own_pick x2) (own_pick x3) (2 : Int32) a_))))]))
  refine own_st (fun t_ => XS.iload (own_here Y138) hx rfl (hb hby at_205) rfl) ?_
  show own_Ends _ _ _ _ (T137.setTop (mkF m 207 #[.val (.int x0), .val (.int x1), .val (.int x2), .val (.int x3), .val (.int x4), .val (.int x5), .val (.int (own_pick x0)), .val (.int (own_pick x1)), .val (.int (own_pick x2)), .val (.int (own_pick x3)), .val (.int (own_pick x4)), .val (.ref b48), .val (.int a_), .val (.int (((((own_b (own_lf (own_pick x0) (0 : Int32) a_)) + (own_b (own_lf (own_pick x1) (1 : Int32) a_))) + (own_b (own_lf (own_pick x2) (2 : Int32) a_))) + (own_b (own_lf (own_pick x3) (3 : Int32) a_))) + (own_b (own_lf (own_pick x4) (4 : Int32) a_)))), .val (.int (((((own_b (own_cr (own_pick x0) (0 : Int32) a_)) + (own_b (own_cr (own_pick x1) (1 : Int32) a_))) + (own_b (own_cr (own_pick x2) (2 : Int32) a_))) + (own_b (own_cr (own_pick x3) (3 : Int32) a_))) + (own_b (own_cr (own_pick x4) (4 : Int32) a_)))), .unset, .unset] [(.int a_), (.int (3 : Int32)), (.int (own_pick x4)), (.int (own_pick x3)), (.int (((own_b (own_pr (own_pick x0) (own_pick x1) (0 : Int32) a_)) + (own_b (own_pr (own_pick x1) (own_pick x2) (1 : Int32) a_))) + (own_b (own_pr (own_pick x2) (own_pick x3) (2 : Int32) a_))))]))
  refine own_callS Y138 hx hZ (y := (⟨"com/example/deft_wiring/deftwiring/context/XmlScannerLineAtPinLaw", "pair", "(BBII)I"⟩ : MethodName)) hown (hw _ (List.mem_of_getElem? (i := 12) rfl)) (hw _ (List.mem_of_getElem? (i := 13) rfl)) (hw _ (List.mem_of_getElem? (i := 2) rfl)) (hw _ (List.mem_of_getElem? (i := 14) rfl)) (by decide) (argsL := [(.int (own_pick x3)), (.int (own_pick x4)), (.int (3 : Int32)), (.int a_)]) (rest := [(.int (((own_b (own_pr (own_pick x0) (own_pick x1) (0 : Int32) a_)) + (own_b (own_pr (own_pick x1) (own_pick x2) (1 : Int32) a_))) + (own_b (own_pr (own_pick x2) (own_pick x3) (2 : Int32) a_))))]) (own_rm4 l Z a0 hw [] (own_pick x3) (own_pick x4) (3 : Int32) a_  h73 n0  ) (W := 1) (by decide) (by decide) (by decide) (by decide) rfl (by rw [hml]; rfl) (lenOf own_pd2 rfl) rfl (by show 2 * 0 + _ ≤ _; exact Nat.le_of_eq rfl) (hb hby at_207) (fun T142 h144 v145 Y143 q146 => ?_)
  obtain ⟨rfl, rfl⟩ := q146
  show own_Ends _ _ _ _ (T142.setTop (mkF m 210 #[.val (.int x0), .val (.int x1), .val (.int x2), .val (.int x3), .val (.int x4), .val (.int x5), .val (.int (own_pick x0)), .val (.int (own_pick x1)), .val (.int (own_pick x2)), .val (.int (own_pick x3)), .val (.int (own_pick x4)), .val (.ref b48), .val (.int a_), .val (.int (((((own_b (own_lf (own_pick x0) (0 : Int32) a_)) + (own_b (own_lf (own_pick x1) (1 : Int32) a_))) + (own_b (own_lf (own_pick x2) (2 : Int32) a_))) + (own_b (own_lf (own_pick x3) (3 : Int32) a_))) + (own_b (own_lf (own_pick x4) (4 : Int32) a_)))), .val (.int (((((own_b (own_cr (own_pick x0) (0 : Int32) a_)) + (own_b (own_cr (own_pick x1) (1 : Int32) a_))) + (own_b (own_cr (own_pick x2) (2 : Int32) a_))) + (own_b (own_cr (own_pick x3) (3 : Int32) a_))) + (own_b (own_cr (own_pick x4) (4 : Int32) a_)))), .unset, .unset] [(.int (own_b (own_pr (own_pick x3) (own_pick x4) (3 : Int32) a_))), (.int (((own_b (own_pr (own_pick x0) (own_pick x1) (0 : Int32) a_)) + (own_b (own_pr (own_pick x1) (own_pick x2) (1 : Int32) a_))) + (own_b (own_pr (own_pick x2) (own_pick x3) (2 : Int32) a_))))]))
  refine own_st (fun t_ => XS.iadd (own_here Y143) hx rfl (hb hby at_210) rfl) ?_
  show own_Ends _ _ _ _ (T142.setTop (mkF m 211 #[.val (.int x0), .val (.int x1), .val (.int x2), .val (.int x3), .val (.int x4), .val (.int x5), .val (.int (own_pick x0)), .val (.int (own_pick x1)), .val (.int (own_pick x2)), .val (.int (own_pick x3)), .val (.int (own_pick x4)), .val (.ref b48), .val (.int a_), .val (.int (((((own_b (own_lf (own_pick x0) (0 : Int32) a_)) + (own_b (own_lf (own_pick x1) (1 : Int32) a_))) + (own_b (own_lf (own_pick x2) (2 : Int32) a_))) + (own_b (own_lf (own_pick x3) (3 : Int32) a_))) + (own_b (own_lf (own_pick x4) (4 : Int32) a_)))), .val (.int (((((own_b (own_cr (own_pick x0) (0 : Int32) a_)) + (own_b (own_cr (own_pick x1) (1 : Int32) a_))) + (own_b (own_cr (own_pick x2) (2 : Int32) a_))) + (own_b (own_cr (own_pick x3) (3 : Int32) a_))) + (own_b (own_cr (own_pick x4) (4 : Int32) a_)))), .unset, .unset] [(.int ((((own_b (own_pr (own_pick x0) (own_pick x1) (0 : Int32) a_)) + (own_b (own_pr (own_pick x1) (own_pick x2) (1 : Int32) a_))) + (own_b (own_pr (own_pick x2) (own_pick x3) (2 : Int32) a_))) + (own_b (own_pr (own_pick x3) (own_pick x4) (3 : Int32) a_))))]))
  refine own_st (fun t_ => XS.istore (own_here Y143) hx rfl (hb hby at_211) rfl (l' := #[.val (.int x0), .val (.int x1), .val (.int x2), .val (.int x3), .val (.int x4), .val (.int x5), .val (.int (own_pick x0)), .val (.int (own_pick x1)), .val (.int (own_pick x2)), .val (.int (own_pick x3)), .val (.int (own_pick x4)), .val (.ref b48), .val (.int a_), .val (.int (((((own_b (own_lf (own_pick x0) (0 : Int32) a_)) + (own_b (own_lf (own_pick x1) (1 : Int32) a_))) + (own_b (own_lf (own_pick x2) (2 : Int32) a_))) + (own_b (own_lf (own_pick x3) (3 : Int32) a_))) + (own_b (own_lf (own_pick x4) (4 : Int32) a_)))), .val (.int (((((own_b (own_cr (own_pick x0) (0 : Int32) a_)) + (own_b (own_cr (own_pick x1) (1 : Int32) a_))) + (own_b (own_cr (own_pick x2) (2 : Int32) a_))) + (own_b (own_cr (own_pick x3) (3 : Int32) a_))) + (own_b (own_cr (own_pick x4) (4 : Int32) a_)))), .val (.int ((((own_b (own_pr (own_pick x0) (own_pick x1) (0 : Int32) a_)) + (own_b (own_pr (own_pick x1) (own_pick x2) (1 : Int32) a_))) + (own_b (own_pr (own_pick x2) (own_pick x3) (2 : Int32) a_))) + (own_b (own_pr (own_pick x3) (own_pick x4) (3 : Int32) a_)))), .unset]) rfl) ?_
  show own_Ends _ _ _ _ (T142.setTop (mkF m 213 #[.val (.int x0), .val (.int x1), .val (.int x2), .val (.int x3), .val (.int x4), .val (.int x5), .val (.int (own_pick x0)), .val (.int (own_pick x1)), .val (.int (own_pick x2)), .val (.int (own_pick x3)), .val (.int (own_pick x4)), .val (.ref b48), .val (.int a_), .val (.int (((((own_b (own_lf (own_pick x0) (0 : Int32) a_)) + (own_b (own_lf (own_pick x1) (1 : Int32) a_))) + (own_b (own_lf (own_pick x2) (2 : Int32) a_))) + (own_b (own_lf (own_pick x3) (3 : Int32) a_))) + (own_b (own_lf (own_pick x4) (4 : Int32) a_)))), .val (.int (((((own_b (own_cr (own_pick x0) (0 : Int32) a_)) + (own_b (own_cr (own_pick x1) (1 : Int32) a_))) + (own_b (own_cr (own_pick x2) (2 : Int32) a_))) + (own_b (own_cr (own_pick x3) (3 : Int32) a_))) + (own_b (own_cr (own_pick x4) (4 : Int32) a_)))), .val (.int ((((own_b (own_pr (own_pick x0) (own_pick x1) (0 : Int32) a_)) + (own_b (own_pr (own_pick x1) (own_pick x2) (1 : Int32) a_))) + (own_b (own_pr (own_pick x2) (own_pick x3) (2 : Int32) a_))) + (own_b (own_pr (own_pick x3) (own_pick x4) (3 : Int32) a_)))), .unset] []))
  refine own_st (fun t_ => XS.iconst (own_here Y143) hx rfl (hb hby at_213) ) ?_
  show own_Ends _ _ _ _ (T142.setTop (mkF m 214 #[.val (.int x0), .val (.int x1), .val (.int x2), .val (.int x3), .val (.int x4), .val (.int x5), .val (.int (own_pick x0)), .val (.int (own_pick x1)), .val (.int (own_pick x2)), .val (.int (own_pick x3)), .val (.int (own_pick x4)), .val (.ref b48), .val (.int a_), .val (.int (((((own_b (own_lf (own_pick x0) (0 : Int32) a_)) + (own_b (own_lf (own_pick x1) (1 : Int32) a_))) + (own_b (own_lf (own_pick x2) (2 : Int32) a_))) + (own_b (own_lf (own_pick x3) (3 : Int32) a_))) + (own_b (own_lf (own_pick x4) (4 : Int32) a_)))), .val (.int (((((own_b (own_cr (own_pick x0) (0 : Int32) a_)) + (own_b (own_cr (own_pick x1) (1 : Int32) a_))) + (own_b (own_cr (own_pick x2) (2 : Int32) a_))) + (own_b (own_cr (own_pick x3) (3 : Int32) a_))) + (own_b (own_cr (own_pick x4) (4 : Int32) a_)))), .val (.int ((((own_b (own_pr (own_pick x0) (own_pick x1) (0 : Int32) a_)) + (own_b (own_pr (own_pick x1) (own_pick x2) (1 : Int32) a_))) + (own_b (own_pr (own_pick x2) (own_pick x3) (2 : Int32) a_))) + (own_b (own_pr (own_pick x3) (own_pick x4) (3 : Int32) a_)))), .unset] [(.int (1 : Int32))]))
  refine own_st (fun t_ => XS.iload (own_here Y143) hx rfl (hb hby at_214) rfl) ?_
  show own_Ends _ _ _ _ (T142.setTop (mkF m 216 #[.val (.int x0), .val (.int x1), .val (.int x2), .val (.int x3), .val (.int x4), .val (.int x5), .val (.int (own_pick x0)), .val (.int (own_pick x1)), .val (.int (own_pick x2)), .val (.int (own_pick x3)), .val (.int (own_pick x4)), .val (.ref b48), .val (.int a_), .val (.int (((((own_b (own_lf (own_pick x0) (0 : Int32) a_)) + (own_b (own_lf (own_pick x1) (1 : Int32) a_))) + (own_b (own_lf (own_pick x2) (2 : Int32) a_))) + (own_b (own_lf (own_pick x3) (3 : Int32) a_))) + (own_b (own_lf (own_pick x4) (4 : Int32) a_)))), .val (.int (((((own_b (own_cr (own_pick x0) (0 : Int32) a_)) + (own_b (own_cr (own_pick x1) (1 : Int32) a_))) + (own_b (own_cr (own_pick x2) (2 : Int32) a_))) + (own_b (own_cr (own_pick x3) (3 : Int32) a_))) + (own_b (own_cr (own_pick x4) (4 : Int32) a_)))), .val (.int ((((own_b (own_pr (own_pick x0) (own_pick x1) (0 : Int32) a_)) + (own_b (own_pr (own_pick x1) (own_pick x2) (1 : Int32) a_))) + (own_b (own_pr (own_pick x2) (own_pick x3) (2 : Int32) a_))) + (own_b (own_pr (own_pick x3) (own_pick x4) (3 : Int32) a_)))), .unset] [(.int (((((own_b (own_lf (own_pick x0) (0 : Int32) a_)) + (own_b (own_lf (own_pick x1) (1 : Int32) a_))) + (own_b (own_lf (own_pick x2) (2 : Int32) a_))) + (own_b (own_lf (own_pick x3) (3 : Int32) a_))) + (own_b (own_lf (own_pick x4) (4 : Int32) a_)))), (.int (1 : Int32))]))
  refine own_st (fun t_ => XS.iadd (own_here Y143) hx rfl (hb hby at_216) rfl) ?_
  show own_Ends _ _ _ _ (T142.setTop (mkF m 217 #[.val (.int x0), .val (.int x1), .val (.int x2), .val (.int x3), .val (.int x4), .val (.int x5), .val (.int (own_pick x0)), .val (.int (own_pick x1)), .val (.int (own_pick x2)), .val (.int (own_pick x3)), .val (.int (own_pick x4)), .val (.ref b48), .val (.int a_), .val (.int (((((own_b (own_lf (own_pick x0) (0 : Int32) a_)) + (own_b (own_lf (own_pick x1) (1 : Int32) a_))) + (own_b (own_lf (own_pick x2) (2 : Int32) a_))) + (own_b (own_lf (own_pick x3) (3 : Int32) a_))) + (own_b (own_lf (own_pick x4) (4 : Int32) a_)))), .val (.int (((((own_b (own_cr (own_pick x0) (0 : Int32) a_)) + (own_b (own_cr (own_pick x1) (1 : Int32) a_))) + (own_b (own_cr (own_pick x2) (2 : Int32) a_))) + (own_b (own_cr (own_pick x3) (3 : Int32) a_))) + (own_b (own_cr (own_pick x4) (4 : Int32) a_)))), .val (.int ((((own_b (own_pr (own_pick x0) (own_pick x1) (0 : Int32) a_)) + (own_b (own_pr (own_pick x1) (own_pick x2) (1 : Int32) a_))) + (own_b (own_pr (own_pick x2) (own_pick x3) (2 : Int32) a_))) + (own_b (own_pr (own_pick x3) (own_pick x4) (3 : Int32) a_)))), .unset] [(.int ((1 : Int32) + (((((own_b (own_lf (own_pick x0) (0 : Int32) a_)) + (own_b (own_lf (own_pick x1) (1 : Int32) a_))) + (own_b (own_lf (own_pick x2) (2 : Int32) a_))) + (own_b (own_lf (own_pick x3) (3 : Int32) a_))) + (own_b (own_lf (own_pick x4) (4 : Int32) a_)))))]))
  refine own_st (fun t_ => XS.iload (own_here Y143) hx rfl (hb hby at_217) rfl) ?_
  show own_Ends _ _ _ _ (T142.setTop (mkF m 219 #[.val (.int x0), .val (.int x1), .val (.int x2), .val (.int x3), .val (.int x4), .val (.int x5), .val (.int (own_pick x0)), .val (.int (own_pick x1)), .val (.int (own_pick x2)), .val (.int (own_pick x3)), .val (.int (own_pick x4)), .val (.ref b48), .val (.int a_), .val (.int (((((own_b (own_lf (own_pick x0) (0 : Int32) a_)) + (own_b (own_lf (own_pick x1) (1 : Int32) a_))) + (own_b (own_lf (own_pick x2) (2 : Int32) a_))) + (own_b (own_lf (own_pick x3) (3 : Int32) a_))) + (own_b (own_lf (own_pick x4) (4 : Int32) a_)))), .val (.int (((((own_b (own_cr (own_pick x0) (0 : Int32) a_)) + (own_b (own_cr (own_pick x1) (1 : Int32) a_))) + (own_b (own_cr (own_pick x2) (2 : Int32) a_))) + (own_b (own_cr (own_pick x3) (3 : Int32) a_))) + (own_b (own_cr (own_pick x4) (4 : Int32) a_)))), .val (.int ((((own_b (own_pr (own_pick x0) (own_pick x1) (0 : Int32) a_)) + (own_b (own_pr (own_pick x1) (own_pick x2) (1 : Int32) a_))) + (own_b (own_pr (own_pick x2) (own_pick x3) (2 : Int32) a_))) + (own_b (own_pr (own_pick x3) (own_pick x4) (3 : Int32) a_)))), .unset] [(.int (((((own_b (own_cr (own_pick x0) (0 : Int32) a_)) + (own_b (own_cr (own_pick x1) (1 : Int32) a_))) + (own_b (own_cr (own_pick x2) (2 : Int32) a_))) + (own_b (own_cr (own_pick x3) (3 : Int32) a_))) + (own_b (own_cr (own_pick x4) (4 : Int32) a_)))), (.int ((1 : Int32) + (((((own_b (own_lf (own_pick x0) (0 : Int32) a_)) + (own_b (own_lf (own_pick x1) (1 : Int32) a_))) + (own_b (own_lf (own_pick x2) (2 : Int32) a_))) + (own_b (own_lf (own_pick x3) (3 : Int32) a_))) + (own_b (own_lf (own_pick x4) (4 : Int32) a_)))))]))
  refine own_st (fun t_ => XS.iadd (own_here Y143) hx rfl (hb hby at_219) rfl) ?_
  show own_Ends _ _ _ _ (T142.setTop (mkF m 220 #[.val (.int x0), .val (.int x1), .val (.int x2), .val (.int x3), .val (.int x4), .val (.int x5), .val (.int (own_pick x0)), .val (.int (own_pick x1)), .val (.int (own_pick x2)), .val (.int (own_pick x3)), .val (.int (own_pick x4)), .val (.ref b48), .val (.int a_), .val (.int (((((own_b (own_lf (own_pick x0) (0 : Int32) a_)) + (own_b (own_lf (own_pick x1) (1 : Int32) a_))) + (own_b (own_lf (own_pick x2) (2 : Int32) a_))) + (own_b (own_lf (own_pick x3) (3 : Int32) a_))) + (own_b (own_lf (own_pick x4) (4 : Int32) a_)))), .val (.int (((((own_b (own_cr (own_pick x0) (0 : Int32) a_)) + (own_b (own_cr (own_pick x1) (1 : Int32) a_))) + (own_b (own_cr (own_pick x2) (2 : Int32) a_))) + (own_b (own_cr (own_pick x3) (3 : Int32) a_))) + (own_b (own_cr (own_pick x4) (4 : Int32) a_)))), .val (.int ((((own_b (own_pr (own_pick x0) (own_pick x1) (0 : Int32) a_)) + (own_b (own_pr (own_pick x1) (own_pick x2) (1 : Int32) a_))) + (own_b (own_pr (own_pick x2) (own_pick x3) (2 : Int32) a_))) + (own_b (own_pr (own_pick x3) (own_pick x4) (3 : Int32) a_)))), .unset] [(.int (((1 : Int32) + (((((own_b (own_lf (own_pick x0) (0 : Int32) a_)) + (own_b (own_lf (own_pick x1) (1 : Int32) a_))) + (own_b (own_lf (own_pick x2) (2 : Int32) a_))) + (own_b (own_lf (own_pick x3) (3 : Int32) a_))) + (own_b (own_lf (own_pick x4) (4 : Int32) a_)))) + (((((own_b (own_cr (own_pick x0) (0 : Int32) a_)) + (own_b (own_cr (own_pick x1) (1 : Int32) a_))) + (own_b (own_cr (own_pick x2) (2 : Int32) a_))) + (own_b (own_cr (own_pick x3) (3 : Int32) a_))) + (own_b (own_cr (own_pick x4) (4 : Int32) a_)))))]))
  refine own_st (fun t_ => XS.iload (own_here Y143) hx rfl (hb hby at_220) rfl) ?_
  show own_Ends _ _ _ _ (T142.setTop (mkF m 222 #[.val (.int x0), .val (.int x1), .val (.int x2), .val (.int x3), .val (.int x4), .val (.int x5), .val (.int (own_pick x0)), .val (.int (own_pick x1)), .val (.int (own_pick x2)), .val (.int (own_pick x3)), .val (.int (own_pick x4)), .val (.ref b48), .val (.int a_), .val (.int (((((own_b (own_lf (own_pick x0) (0 : Int32) a_)) + (own_b (own_lf (own_pick x1) (1 : Int32) a_))) + (own_b (own_lf (own_pick x2) (2 : Int32) a_))) + (own_b (own_lf (own_pick x3) (3 : Int32) a_))) + (own_b (own_lf (own_pick x4) (4 : Int32) a_)))), .val (.int (((((own_b (own_cr (own_pick x0) (0 : Int32) a_)) + (own_b (own_cr (own_pick x1) (1 : Int32) a_))) + (own_b (own_cr (own_pick x2) (2 : Int32) a_))) + (own_b (own_cr (own_pick x3) (3 : Int32) a_))) + (own_b (own_cr (own_pick x4) (4 : Int32) a_)))), .val (.int ((((own_b (own_pr (own_pick x0) (own_pick x1) (0 : Int32) a_)) + (own_b (own_pr (own_pick x1) (own_pick x2) (1 : Int32) a_))) + (own_b (own_pr (own_pick x2) (own_pick x3) (2 : Int32) a_))) + (own_b (own_pr (own_pick x3) (own_pick x4) (3 : Int32) a_)))), .unset] [(.int ((((own_b (own_pr (own_pick x0) (own_pick x1) (0 : Int32) a_)) + (own_b (own_pr (own_pick x1) (own_pick x2) (1 : Int32) a_))) + (own_b (own_pr (own_pick x2) (own_pick x3) (2 : Int32) a_))) + (own_b (own_pr (own_pick x3) (own_pick x4) (3 : Int32) a_)))), (.int (((1 : Int32) + (((((own_b (own_lf (own_pick x0) (0 : Int32) a_)) + (own_b (own_lf (own_pick x1) (1 : Int32) a_))) + (own_b (own_lf (own_pick x2) (2 : Int32) a_))) + (own_b (own_lf (own_pick x3) (3 : Int32) a_))) + (own_b (own_lf (own_pick x4) (4 : Int32) a_)))) + (((((own_b (own_cr (own_pick x0) (0 : Int32) a_)) + (own_b (own_cr (own_pick x1) (1 : Int32) a_))) + (own_b (own_cr (own_pick x2) (2 : Int32) a_))) + (own_b (own_cr (own_pick x3) (3 : Int32) a_))) + (own_b (own_cr (own_pick x4) (4 : Int32) a_)))))]))
  refine own_st (fun t_ => XS.isub (own_here Y143) hx rfl (hb hby at_222) rfl) ?_
  show own_Ends _ _ _ _ (T142.setTop (mkF m 223 #[.val (.int x0), .val (.int x1), .val (.int x2), .val (.int x3), .val (.int x4), .val (.int x5), .val (.int (own_pick x0)), .val (.int (own_pick x1)), .val (.int (own_pick x2)), .val (.int (own_pick x3)), .val (.int (own_pick x4)), .val (.ref b48), .val (.int a_), .val (.int (((((own_b (own_lf (own_pick x0) (0 : Int32) a_)) + (own_b (own_lf (own_pick x1) (1 : Int32) a_))) + (own_b (own_lf (own_pick x2) (2 : Int32) a_))) + (own_b (own_lf (own_pick x3) (3 : Int32) a_))) + (own_b (own_lf (own_pick x4) (4 : Int32) a_)))), .val (.int (((((own_b (own_cr (own_pick x0) (0 : Int32) a_)) + (own_b (own_cr (own_pick x1) (1 : Int32) a_))) + (own_b (own_cr (own_pick x2) (2 : Int32) a_))) + (own_b (own_cr (own_pick x3) (3 : Int32) a_))) + (own_b (own_cr (own_pick x4) (4 : Int32) a_)))), .val (.int ((((own_b (own_pr (own_pick x0) (own_pick x1) (0 : Int32) a_)) + (own_b (own_pr (own_pick x1) (own_pick x2) (1 : Int32) a_))) + (own_b (own_pr (own_pick x2) (own_pick x3) (2 : Int32) a_))) + (own_b (own_pr (own_pick x3) (own_pick x4) (3 : Int32) a_)))), .unset] [(.int ((((1 : Int32) + (((((own_b (own_lf (own_pick x0) (0 : Int32) a_)) + (own_b (own_lf (own_pick x1) (1 : Int32) a_))) + (own_b (own_lf (own_pick x2) (2 : Int32) a_))) + (own_b (own_lf (own_pick x3) (3 : Int32) a_))) + (own_b (own_lf (own_pick x4) (4 : Int32) a_)))) + (((((own_b (own_cr (own_pick x0) (0 : Int32) a_)) + (own_b (own_cr (own_pick x1) (1 : Int32) a_))) + (own_b (own_cr (own_pick x2) (2 : Int32) a_))) + (own_b (own_cr (own_pick x3) (3 : Int32) a_))) + (own_b (own_cr (own_pick x4) (4 : Int32) a_)))) - ((((own_b (own_pr (own_pick x0) (own_pick x1) (0 : Int32) a_)) + (own_b (own_pr (own_pick x1) (own_pick x2) (1 : Int32) a_))) + (own_b (own_pr (own_pick x2) (own_pick x3) (2 : Int32) a_))) + (own_b (own_pr (own_pick x3) (own_pick x4) (3 : Int32) a_)))))]))
  refine own_st (fun t_ => XS.istore (own_here Y143) hx rfl (hb hby at_223) rfl (l' := #[.val (.int x0), .val (.int x1), .val (.int x2), .val (.int x3), .val (.int x4), .val (.int x5), .val (.int (own_pick x0)), .val (.int (own_pick x1)), .val (.int (own_pick x2)), .val (.int (own_pick x3)), .val (.int (own_pick x4)), .val (.ref b48), .val (.int a_), .val (.int (((((own_b (own_lf (own_pick x0) (0 : Int32) a_)) + (own_b (own_lf (own_pick x1) (1 : Int32) a_))) + (own_b (own_lf (own_pick x2) (2 : Int32) a_))) + (own_b (own_lf (own_pick x3) (3 : Int32) a_))) + (own_b (own_lf (own_pick x4) (4 : Int32) a_)))), .val (.int (((((own_b (own_cr (own_pick x0) (0 : Int32) a_)) + (own_b (own_cr (own_pick x1) (1 : Int32) a_))) + (own_b (own_cr (own_pick x2) (2 : Int32) a_))) + (own_b (own_cr (own_pick x3) (3 : Int32) a_))) + (own_b (own_cr (own_pick x4) (4 : Int32) a_)))), .val (.int ((((own_b (own_pr (own_pick x0) (own_pick x1) (0 : Int32) a_)) + (own_b (own_pr (own_pick x1) (own_pick x2) (1 : Int32) a_))) + (own_b (own_pr (own_pick x2) (own_pick x3) (2 : Int32) a_))) + (own_b (own_pr (own_pick x3) (own_pick x4) (3 : Int32) a_)))), .val (.int ((((1 : Int32) + (((((own_b (own_lf (own_pick x0) (0 : Int32) a_)) + (own_b (own_lf (own_pick x1) (1 : Int32) a_))) + (own_b (own_lf (own_pick x2) (2 : Int32) a_))) + (own_b (own_lf (own_pick x3) (3 : Int32) a_))) + (own_b (own_lf (own_pick x4) (4 : Int32) a_)))) + (((((own_b (own_cr (own_pick x0) (0 : Int32) a_)) + (own_b (own_cr (own_pick x1) (1 : Int32) a_))) + (own_b (own_cr (own_pick x2) (2 : Int32) a_))) + (own_b (own_cr (own_pick x3) (3 : Int32) a_))) + (own_b (own_cr (own_pick x4) (4 : Int32) a_)))) - ((((own_b (own_pr (own_pick x0) (own_pick x1) (0 : Int32) a_)) + (own_b (own_pr (own_pick x1) (own_pick x2) (1 : Int32) a_))) + (own_b (own_pr (own_pick x2) (own_pick x3) (2 : Int32) a_))) + (own_b (own_pr (own_pick x3) (own_pick x4) (3 : Int32) a_)))))]) rfl) ?_
  show own_Ends _ _ _ _ (T142.setTop (mkF m 225 #[.val (.int x0), .val (.int x1), .val (.int x2), .val (.int x3), .val (.int x4), .val (.int x5), .val (.int (own_pick x0)), .val (.int (own_pick x1)), .val (.int (own_pick x2)), .val (.int (own_pick x3)), .val (.int (own_pick x4)), .val (.ref b48), .val (.int a_), .val (.int (((((own_b (own_lf (own_pick x0) (0 : Int32) a_)) + (own_b (own_lf (own_pick x1) (1 : Int32) a_))) + (own_b (own_lf (own_pick x2) (2 : Int32) a_))) + (own_b (own_lf (own_pick x3) (3 : Int32) a_))) + (own_b (own_lf (own_pick x4) (4 : Int32) a_)))), .val (.int (((((own_b (own_cr (own_pick x0) (0 : Int32) a_)) + (own_b (own_cr (own_pick x1) (1 : Int32) a_))) + (own_b (own_cr (own_pick x2) (2 : Int32) a_))) + (own_b (own_cr (own_pick x3) (3 : Int32) a_))) + (own_b (own_cr (own_pick x4) (4 : Int32) a_)))), .val (.int ((((own_b (own_pr (own_pick x0) (own_pick x1) (0 : Int32) a_)) + (own_b (own_pr (own_pick x1) (own_pick x2) (1 : Int32) a_))) + (own_b (own_pr (own_pick x2) (own_pick x3) (2 : Int32) a_))) + (own_b (own_pr (own_pick x3) (own_pick x4) (3 : Int32) a_)))), .val (.int ((((1 : Int32) + (((((own_b (own_lf (own_pick x0) (0 : Int32) a_)) + (own_b (own_lf (own_pick x1) (1 : Int32) a_))) + (own_b (own_lf (own_pick x2) (2 : Int32) a_))) + (own_b (own_lf (own_pick x3) (3 : Int32) a_))) + (own_b (own_lf (own_pick x4) (4 : Int32) a_)))) + (((((own_b (own_cr (own_pick x0) (0 : Int32) a_)) + (own_b (own_cr (own_pick x1) (1 : Int32) a_))) + (own_b (own_cr (own_pick x2) (2 : Int32) a_))) + (own_b (own_cr (own_pick x3) (3 : Int32) a_))) + (own_b (own_cr (own_pick x4) (4 : Int32) a_)))) - ((((own_b (own_pr (own_pick x0) (own_pick x1) (0 : Int32) a_)) + (own_b (own_pr (own_pick x1) (own_pick x2) (1 : Int32) a_))) + (own_b (own_pr (own_pick x2) (own_pick x3) (2 : Int32) a_))) + (own_b (own_pr (own_pick x3) (own_pick x4) (3 : Int32) a_)))))] []))
  refine own_st (fun t_ => XS.aload (own_here Y143) hx rfl (hb hby at_225) rfl rfl) ?_
  show own_Ends _ _ _ _ (T142.setTop (mkF m 227 #[.val (.int x0), .val (.int x1), .val (.int x2), .val (.int x3), .val (.int x4), .val (.int x5), .val (.int (own_pick x0)), .val (.int (own_pick x1)), .val (.int (own_pick x2)), .val (.int (own_pick x3)), .val (.int (own_pick x4)), .val (.ref b48), .val (.int a_), .val (.int (((((own_b (own_lf (own_pick x0) (0 : Int32) a_)) + (own_b (own_lf (own_pick x1) (1 : Int32) a_))) + (own_b (own_lf (own_pick x2) (2 : Int32) a_))) + (own_b (own_lf (own_pick x3) (3 : Int32) a_))) + (own_b (own_lf (own_pick x4) (4 : Int32) a_)))), .val (.int (((((own_b (own_cr (own_pick x0) (0 : Int32) a_)) + (own_b (own_cr (own_pick x1) (1 : Int32) a_))) + (own_b (own_cr (own_pick x2) (2 : Int32) a_))) + (own_b (own_cr (own_pick x3) (3 : Int32) a_))) + (own_b (own_cr (own_pick x4) (4 : Int32) a_)))), .val (.int ((((own_b (own_pr (own_pick x0) (own_pick x1) (0 : Int32) a_)) + (own_b (own_pr (own_pick x1) (own_pick x2) (1 : Int32) a_))) + (own_b (own_pr (own_pick x2) (own_pick x3) (2 : Int32) a_))) + (own_b (own_pr (own_pick x3) (own_pick x4) (3 : Int32) a_)))), .val (.int ((((1 : Int32) + (((((own_b (own_lf (own_pick x0) (0 : Int32) a_)) + (own_b (own_lf (own_pick x1) (1 : Int32) a_))) + (own_b (own_lf (own_pick x2) (2 : Int32) a_))) + (own_b (own_lf (own_pick x3) (3 : Int32) a_))) + (own_b (own_lf (own_pick x4) (4 : Int32) a_)))) + (((((own_b (own_cr (own_pick x0) (0 : Int32) a_)) + (own_b (own_cr (own_pick x1) (1 : Int32) a_))) + (own_b (own_cr (own_pick x2) (2 : Int32) a_))) + (own_b (own_cr (own_pick x3) (3 : Int32) a_))) + (own_b (own_cr (own_pick x4) (4 : Int32) a_)))) - ((((own_b (own_pr (own_pick x0) (own_pick x1) (0 : Int32) a_)) + (own_b (own_pr (own_pick x1) (own_pick x2) (1 : Int32) a_))) + (own_b (own_pr (own_pick x2) (own_pick x3) (2 : Int32) a_))) + (own_b (own_pr (own_pick x3) (own_pick x4) (3 : Int32) a_)))))] [(.ref b48)]))
  refine own_st (fun t_ => XS.iload (own_here Y143) hx rfl (hb hby at_227) rfl) ?_
  show own_Ends _ _ _ _ (T142.setTop (mkF m 229 #[.val (.int x0), .val (.int x1), .val (.int x2), .val (.int x3), .val (.int x4), .val (.int x5), .val (.int (own_pick x0)), .val (.int (own_pick x1)), .val (.int (own_pick x2)), .val (.int (own_pick x3)), .val (.int (own_pick x4)), .val (.ref b48), .val (.int a_), .val (.int (((((own_b (own_lf (own_pick x0) (0 : Int32) a_)) + (own_b (own_lf (own_pick x1) (1 : Int32) a_))) + (own_b (own_lf (own_pick x2) (2 : Int32) a_))) + (own_b (own_lf (own_pick x3) (3 : Int32) a_))) + (own_b (own_lf (own_pick x4) (4 : Int32) a_)))), .val (.int (((((own_b (own_cr (own_pick x0) (0 : Int32) a_)) + (own_b (own_cr (own_pick x1) (1 : Int32) a_))) + (own_b (own_cr (own_pick x2) (2 : Int32) a_))) + (own_b (own_cr (own_pick x3) (3 : Int32) a_))) + (own_b (own_cr (own_pick x4) (4 : Int32) a_)))), .val (.int ((((own_b (own_pr (own_pick x0) (own_pick x1) (0 : Int32) a_)) + (own_b (own_pr (own_pick x1) (own_pick x2) (1 : Int32) a_))) + (own_b (own_pr (own_pick x2) (own_pick x3) (2 : Int32) a_))) + (own_b (own_pr (own_pick x3) (own_pick x4) (3 : Int32) a_)))), .val (.int ((((1 : Int32) + (((((own_b (own_lf (own_pick x0) (0 : Int32) a_)) + (own_b (own_lf (own_pick x1) (1 : Int32) a_))) + (own_b (own_lf (own_pick x2) (2 : Int32) a_))) + (own_b (own_lf (own_pick x3) (3 : Int32) a_))) + (own_b (own_lf (own_pick x4) (4 : Int32) a_)))) + (((((own_b (own_cr (own_pick x0) (0 : Int32) a_)) + (own_b (own_cr (own_pick x1) (1 : Int32) a_))) + (own_b (own_cr (own_pick x2) (2 : Int32) a_))) + (own_b (own_cr (own_pick x3) (3 : Int32) a_))) + (own_b (own_cr (own_pick x4) (4 : Int32) a_)))) - ((((own_b (own_pr (own_pick x0) (own_pick x1) (0 : Int32) a_)) + (own_b (own_pr (own_pick x1) (own_pick x2) (1 : Int32) a_))) + (own_b (own_pr (own_pick x2) (own_pick x3) (2 : Int32) a_))) + (own_b (own_pr (own_pick x3) (own_pick x4) (3 : Int32) a_)))))] [(.int a_), (.ref b48)]))
  refine own_callS Y143 hx hZ (y := (⟨"com/example/deft_wiring/deftwiring/context/XmlScanner", "lineAt", "([BI)I"⟩ : MethodName)) hown (hw _ (List.mem_of_getElem? (i := 15) rfl)) (hw _ (List.mem_of_getElem? (i := 16) rfl)) (hw _ (List.mem_of_getElem? (i := 17) rfl)) (hw _ (List.mem_of_getElem? (i := 18) rfl)) (by decide) (argsL := [(.ref b48), (.int a_)]) (rest := []) (own_rm5 l Z a0 hw [] b48 a_ [(own_pick x0), (own_pick x1), (own_pick x2), (own_pick x3), (own_pick x4)] t h73 n0  A76 ht (by simpa using ht5) (by omega)) (W := 0) (by decide) (by decide) (by decide) (by decide) rfl (by rw [hml]; rfl) (lenOf own_pd3 rfl) rfl (by show 2 * 0 + _ ≤ _; exact Nat.le_of_eq rfl) (hb hby at_229) (fun T147 h149 v150 Y148 q151 => ?_)
  obtain ⟨rfl, rfl⟩ := q151
  show own_Ends _ _ _ _ (T147.setTop (mkF m 232 #[.val (.int x0), .val (.int x1), .val (.int x2), .val (.int x3), .val (.int x4), .val (.int x5), .val (.int (own_pick x0)), .val (.int (own_pick x1)), .val (.int (own_pick x2)), .val (.int (own_pick x3)), .val (.int (own_pick x4)), .val (.ref b48), .val (.int a_), .val (.int (((((own_b (own_lf (own_pick x0) (0 : Int32) a_)) + (own_b (own_lf (own_pick x1) (1 : Int32) a_))) + (own_b (own_lf (own_pick x2) (2 : Int32) a_))) + (own_b (own_lf (own_pick x3) (3 : Int32) a_))) + (own_b (own_lf (own_pick x4) (4 : Int32) a_)))), .val (.int (((((own_b (own_cr (own_pick x0) (0 : Int32) a_)) + (own_b (own_cr (own_pick x1) (1 : Int32) a_))) + (own_b (own_cr (own_pick x2) (2 : Int32) a_))) + (own_b (own_cr (own_pick x3) (3 : Int32) a_))) + (own_b (own_cr (own_pick x4) (4 : Int32) a_)))), .val (.int ((((own_b (own_pr (own_pick x0) (own_pick x1) (0 : Int32) a_)) + (own_b (own_pr (own_pick x1) (own_pick x2) (1 : Int32) a_))) + (own_b (own_pr (own_pick x2) (own_pick x3) (2 : Int32) a_))) + (own_b (own_pr (own_pick x3) (own_pick x4) (3 : Int32) a_)))), .val (.int ((((1 : Int32) + (((((own_b (own_lf (own_pick x0) (0 : Int32) a_)) + (own_b (own_lf (own_pick x1) (1 : Int32) a_))) + (own_b (own_lf (own_pick x2) (2 : Int32) a_))) + (own_b (own_lf (own_pick x3) (3 : Int32) a_))) + (own_b (own_lf (own_pick x4) (4 : Int32) a_)))) + (((((own_b (own_cr (own_pick x0) (0 : Int32) a_)) + (own_b (own_cr (own_pick x1) (1 : Int32) a_))) + (own_b (own_cr (own_pick x2) (2 : Int32) a_))) + (own_b (own_cr (own_pick x3) (3 : Int32) a_))) + (own_b (own_cr (own_pick x4) (4 : Int32) a_)))) - ((((own_b (own_pr (own_pick x0) (own_pick x1) (0 : Int32) a_)) + (own_b (own_pr (own_pick x1) (own_pick x2) (1 : Int32) a_))) + (own_b (own_pr (own_pick x2) (own_pick x3) (2 : Int32) a_))) + (own_b (own_pr (own_pick x3) (own_pick x4) (3 : Int32) a_)))))] [(.int (own_acc [(own_pick x0), (own_pick x1), (own_pick x2), (own_pick x3), (own_pick x4)] t 0 t 1))]))
  refine own_st (fun t_ => XS.iload (own_here Y148) hx rfl (hb hby at_232) rfl) ?_
  show own_Ends _ _ _ _ (T147.setTop (mkF m 234 #[.val (.int x0), .val (.int x1), .val (.int x2), .val (.int x3), .val (.int x4), .val (.int x5), .val (.int (own_pick x0)), .val (.int (own_pick x1)), .val (.int (own_pick x2)), .val (.int (own_pick x3)), .val (.int (own_pick x4)), .val (.ref b48), .val (.int a_), .val (.int (((((own_b (own_lf (own_pick x0) (0 : Int32) a_)) + (own_b (own_lf (own_pick x1) (1 : Int32) a_))) + (own_b (own_lf (own_pick x2) (2 : Int32) a_))) + (own_b (own_lf (own_pick x3) (3 : Int32) a_))) + (own_b (own_lf (own_pick x4) (4 : Int32) a_)))), .val (.int (((((own_b (own_cr (own_pick x0) (0 : Int32) a_)) + (own_b (own_cr (own_pick x1) (1 : Int32) a_))) + (own_b (own_cr (own_pick x2) (2 : Int32) a_))) + (own_b (own_cr (own_pick x3) (3 : Int32) a_))) + (own_b (own_cr (own_pick x4) (4 : Int32) a_)))), .val (.int ((((own_b (own_pr (own_pick x0) (own_pick x1) (0 : Int32) a_)) + (own_b (own_pr (own_pick x1) (own_pick x2) (1 : Int32) a_))) + (own_b (own_pr (own_pick x2) (own_pick x3) (2 : Int32) a_))) + (own_b (own_pr (own_pick x3) (own_pick x4) (3 : Int32) a_)))), .val (.int ((((1 : Int32) + (((((own_b (own_lf (own_pick x0) (0 : Int32) a_)) + (own_b (own_lf (own_pick x1) (1 : Int32) a_))) + (own_b (own_lf (own_pick x2) (2 : Int32) a_))) + (own_b (own_lf (own_pick x3) (3 : Int32) a_))) + (own_b (own_lf (own_pick x4) (4 : Int32) a_)))) + (((((own_b (own_cr (own_pick x0) (0 : Int32) a_)) + (own_b (own_cr (own_pick x1) (1 : Int32) a_))) + (own_b (own_cr (own_pick x2) (2 : Int32) a_))) + (own_b (own_cr (own_pick x3) (3 : Int32) a_))) + (own_b (own_cr (own_pick x4) (4 : Int32) a_)))) - ((((own_b (own_pr (own_pick x0) (own_pick x1) (0 : Int32) a_)) + (own_b (own_pr (own_pick x1) (own_pick x2) (1 : Int32) a_))) + (own_b (own_pr (own_pick x2) (own_pick x3) (2 : Int32) a_))) + (own_b (own_pr (own_pick x3) (own_pick x4) (3 : Int32) a_)))))] [(.int ((((1 : Int32) + (((((own_b (own_lf (own_pick x0) (0 : Int32) a_)) + (own_b (own_lf (own_pick x1) (1 : Int32) a_))) + (own_b (own_lf (own_pick x2) (2 : Int32) a_))) + (own_b (own_lf (own_pick x3) (3 : Int32) a_))) + (own_b (own_lf (own_pick x4) (4 : Int32) a_)))) + (((((own_b (own_cr (own_pick x0) (0 : Int32) a_)) + (own_b (own_cr (own_pick x1) (1 : Int32) a_))) + (own_b (own_cr (own_pick x2) (2 : Int32) a_))) + (own_b (own_cr (own_pick x3) (3 : Int32) a_))) + (own_b (own_cr (own_pick x4) (4 : Int32) a_)))) - ((((own_b (own_pr (own_pick x0) (own_pick x1) (0 : Int32) a_)) + (own_b (own_pr (own_pick x1) (own_pick x2) (1 : Int32) a_))) + (own_b (own_pr (own_pick x2) (own_pick x3) (2 : Int32) a_))) + (own_b (own_pr (own_pick x3) (own_pick x4) (3 : Int32) a_))))), (.int (own_acc [(own_pick x0), (own_pick x1), (own_pick x2), (own_pick x3), (own_pick x4)] t 0 t 1))]))
  refine own_st (fun t_ => XS.icmpNo (own_here Y148) hx rfl (hb hby at_234) rfl (XT.ii_ne_f (own_law (own_pick x0) (own_pick x1) (own_pick x2) (own_pick x3) (own_pick x4) a_ t ht ht5))) ?_
  show own_Ends _ _ _ _ (T147.setTop (mkF m 237 #[.val (.int x0), .val (.int x1), .val (.int x2), .val (.int x3), .val (.int x4), .val (.int x5), .val (.int (own_pick x0)), .val (.int (own_pick x1)), .val (.int (own_pick x2)), .val (.int (own_pick x3)), .val (.int (own_pick x4)), .val (.ref b48), .val (.int a_), .val (.int (((((own_b (own_lf (own_pick x0) (0 : Int32) a_)) + (own_b (own_lf (own_pick x1) (1 : Int32) a_))) + (own_b (own_lf (own_pick x2) (2 : Int32) a_))) + (own_b (own_lf (own_pick x3) (3 : Int32) a_))) + (own_b (own_lf (own_pick x4) (4 : Int32) a_)))), .val (.int (((((own_b (own_cr (own_pick x0) (0 : Int32) a_)) + (own_b (own_cr (own_pick x1) (1 : Int32) a_))) + (own_b (own_cr (own_pick x2) (2 : Int32) a_))) + (own_b (own_cr (own_pick x3) (3 : Int32) a_))) + (own_b (own_cr (own_pick x4) (4 : Int32) a_)))), .val (.int ((((own_b (own_pr (own_pick x0) (own_pick x1) (0 : Int32) a_)) + (own_b (own_pr (own_pick x1) (own_pick x2) (1 : Int32) a_))) + (own_b (own_pr (own_pick x2) (own_pick x3) (2 : Int32) a_))) + (own_b (own_pr (own_pick x3) (own_pick x4) (3 : Int32) a_)))), .val (.int ((((1 : Int32) + (((((own_b (own_lf (own_pick x0) (0 : Int32) a_)) + (own_b (own_lf (own_pick x1) (1 : Int32) a_))) + (own_b (own_lf (own_pick x2) (2 : Int32) a_))) + (own_b (own_lf (own_pick x3) (3 : Int32) a_))) + (own_b (own_lf (own_pick x4) (4 : Int32) a_)))) + (((((own_b (own_cr (own_pick x0) (0 : Int32) a_)) + (own_b (own_cr (own_pick x1) (1 : Int32) a_))) + (own_b (own_cr (own_pick x2) (2 : Int32) a_))) + (own_b (own_cr (own_pick x3) (3 : Int32) a_))) + (own_b (own_cr (own_pick x4) (4 : Int32) a_)))) - ((((own_b (own_pr (own_pick x0) (own_pick x1) (0 : Int32) a_)) + (own_b (own_pr (own_pick x1) (own_pick x2) (1 : Int32) a_))) + (own_b (own_pr (own_pick x2) (own_pick x3) (2 : Int32) a_))) + (own_b (own_pr (own_pick x3) (own_pick x4) (3 : Int32) a_)))))] []))
  refine own_st (fun t_ => XS.iconst (own_here Y148) hx rfl (hb hby at_237) ) ?_
  show own_Ends _ _ _ _ (T147.setTop (mkF m 238 #[.val (.int x0), .val (.int x1), .val (.int x2), .val (.int x3), .val (.int x4), .val (.int x5), .val (.int (own_pick x0)), .val (.int (own_pick x1)), .val (.int (own_pick x2)), .val (.int (own_pick x3)), .val (.int (own_pick x4)), .val (.ref b48), .val (.int a_), .val (.int (((((own_b (own_lf (own_pick x0) (0 : Int32) a_)) + (own_b (own_lf (own_pick x1) (1 : Int32) a_))) + (own_b (own_lf (own_pick x2) (2 : Int32) a_))) + (own_b (own_lf (own_pick x3) (3 : Int32) a_))) + (own_b (own_lf (own_pick x4) (4 : Int32) a_)))), .val (.int (((((own_b (own_cr (own_pick x0) (0 : Int32) a_)) + (own_b (own_cr (own_pick x1) (1 : Int32) a_))) + (own_b (own_cr (own_pick x2) (2 : Int32) a_))) + (own_b (own_cr (own_pick x3) (3 : Int32) a_))) + (own_b (own_cr (own_pick x4) (4 : Int32) a_)))), .val (.int ((((own_b (own_pr (own_pick x0) (own_pick x1) (0 : Int32) a_)) + (own_b (own_pr (own_pick x1) (own_pick x2) (1 : Int32) a_))) + (own_b (own_pr (own_pick x2) (own_pick x3) (2 : Int32) a_))) + (own_b (own_pr (own_pick x3) (own_pick x4) (3 : Int32) a_)))), .val (.int ((((1 : Int32) + (((((own_b (own_lf (own_pick x0) (0 : Int32) a_)) + (own_b (own_lf (own_pick x1) (1 : Int32) a_))) + (own_b (own_lf (own_pick x2) (2 : Int32) a_))) + (own_b (own_lf (own_pick x3) (3 : Int32) a_))) + (own_b (own_lf (own_pick x4) (4 : Int32) a_)))) + (((((own_b (own_cr (own_pick x0) (0 : Int32) a_)) + (own_b (own_cr (own_pick x1) (1 : Int32) a_))) + (own_b (own_cr (own_pick x2) (2 : Int32) a_))) + (own_b (own_cr (own_pick x3) (3 : Int32) a_))) + (own_b (own_cr (own_pick x4) (4 : Int32) a_)))) - ((((own_b (own_pr (own_pick x0) (own_pick x1) (0 : Int32) a_)) + (own_b (own_pr (own_pick x1) (own_pick x2) (1 : Int32) a_))) + (own_b (own_pr (own_pick x2) (own_pick x3) (2 : Int32) a_))) + (own_b (own_pr (own_pick x3) (own_pick x4) (3 : Int32) a_)))))] [(.int (1 : Int32))]))
  refine own_st (fun t_ => XS.goto (own_here Y148) hx rfl (pc0 := 238) (pc' := 242) rfl (hb hby at_238) (by decide) (by decide)) ?_
  show own_Ends _ _ _ _ (T147.setTop (mkF m 242 #[.val (.int x0), .val (.int x1), .val (.int x2), .val (.int x3), .val (.int x4), .val (.int x5), .val (.int (own_pick x0)), .val (.int (own_pick x1)), .val (.int (own_pick x2)), .val (.int (own_pick x3)), .val (.int (own_pick x4)), .val (.ref b48), .val (.int a_), .val (.int (((((own_b (own_lf (own_pick x0) (0 : Int32) a_)) + (own_b (own_lf (own_pick x1) (1 : Int32) a_))) + (own_b (own_lf (own_pick x2) (2 : Int32) a_))) + (own_b (own_lf (own_pick x3) (3 : Int32) a_))) + (own_b (own_lf (own_pick x4) (4 : Int32) a_)))), .val (.int (((((own_b (own_cr (own_pick x0) (0 : Int32) a_)) + (own_b (own_cr (own_pick x1) (1 : Int32) a_))) + (own_b (own_cr (own_pick x2) (2 : Int32) a_))) + (own_b (own_cr (own_pick x3) (3 : Int32) a_))) + (own_b (own_cr (own_pick x4) (4 : Int32) a_)))), .val (.int ((((own_b (own_pr (own_pick x0) (own_pick x1) (0 : Int32) a_)) + (own_b (own_pr (own_pick x1) (own_pick x2) (1 : Int32) a_))) + (own_b (own_pr (own_pick x2) (own_pick x3) (2 : Int32) a_))) + (own_b (own_pr (own_pick x3) (own_pick x4) (3 : Int32) a_)))), .val (.int ((((1 : Int32) + (((((own_b (own_lf (own_pick x0) (0 : Int32) a_)) + (own_b (own_lf (own_pick x1) (1 : Int32) a_))) + (own_b (own_lf (own_pick x2) (2 : Int32) a_))) + (own_b (own_lf (own_pick x3) (3 : Int32) a_))) + (own_b (own_lf (own_pick x4) (4 : Int32) a_)))) + (((((own_b (own_cr (own_pick x0) (0 : Int32) a_)) + (own_b (own_cr (own_pick x1) (1 : Int32) a_))) + (own_b (own_cr (own_pick x2) (2 : Int32) a_))) + (own_b (own_cr (own_pick x3) (3 : Int32) a_))) + (own_b (own_cr (own_pick x4) (4 : Int32) a_)))) - ((((own_b (own_pr (own_pick x0) (own_pick x1) (0 : Int32) a_)) + (own_b (own_pr (own_pick x1) (own_pick x2) (1 : Int32) a_))) + (own_b (own_pr (own_pick x2) (own_pick x3) (2 : Int32) a_))) + (own_b (own_pr (own_pick x3) (own_pick x4) (3 : Int32) a_)))))] [(.int (1 : Int32))]))
  refine own_retN Y148 hx hlk (t := .boolean) hret (by simp) (hb hby at_242) (by decide) (by decide) ?_
  exact rfl
set_option maxRecDepth 65536 in
set_option maxHeartbeats 40000000 in
theorem own_comes_1 {Post : Tables → Env → Array Value → State → Outcome → State → Prop} (hpost : ∀ tb e args s v u, (limb_1_1.after args s (.returned v) u = true ∧ limb_1_2.after args s (.returned v) u = true ∧ True) → FrameEnd s (.returned v) u (Jvm.fieldLocs frame_1_writes args s ++ Jvm.arrayLocs frame_1_arrays args s ++ Jvm.staticLocs frame_1_statics s) 16 128 → Post tb e args s (.returned v) u) :
    ArmFor flags0 classFile x code maxLocals ret World_1 tables_1 room_1 Calls_1 rest_1 Pre_1 Post := by
  intro l hfl _ _ p e ha hc hk s m args below hf hA hF happ hP
  obtain ⟨hcalls, hrest, hpre⟩ := hP
  obtain ⟨-, -, -, hnamed, -, -, -, hat⟩ := (Spec.applies_iff hf).mp happ
  obtain ⟨hg, hn⟩ := and_e (Cond.before_iff.mp (show (Jvm.Cond.and given_1 narrow_1).before args s = true from hpre))
  obtain ⟨g1, g2⟩ := and_e hg
  obtain ⟨g3, g4⟩ := and_e g2
  obtain ⟨g5, g6⟩ := and_e g4
  obtain ⟨g7, g8⟩ := and_e g6
  obtain ⟨g9, g10⟩ := and_e g8
  obtain ⟨g11, g12⟩ := and_e g10
  obtain ⟨w0, w1, w2, w3, w4, w5, rfl⟩ : ∃ w0 w1 w2 w3 w4 w5 : Value, args = #[w0, w1, w2, w3, w4, w5] := by
    have hs : args.size = 6 := by simpa [Cond.value, given_1] using g1
    obtain ⟨L⟩ := args
    match L, hs with
    | [w0, w1, w2, w3, w4, w5], _ => exact ⟨w0, w1, w2, w3, w4, w5, rfl⟩
  have hw := fun d (hd : d ∈ tables_1) => atoms_spec (ws := Jvm.Cond.code x code maxLocals ret :: tables_1) hat d (List.mem_cons_of_mem _ hd)
  have hfit : Fit s := fun {y c} hc i hi => by
    obtain ⟨ha, rfl⟩ := Array.getElem?_eq_some_iff.mp hc
    have q := List.all_eq_true.mp ((Array.all_eq_true_iff_forall_mem.mp hF) _ (Array.getElem_mem ha)) i (List.mem_range.mpr hi)
    simpa [Array.getElem?_eq_getElem hi] using q
  obtain ⟨i0, ei0⟩ := is_v g3
  obtain rfl : w0 = (.int i0) := Option.some.inj ei0
  obtain ⟨i1, ei1⟩ := is_v g5
  obtain rfl : w1 = (.int i1) := Option.some.inj ei1
  obtain ⟨i2, ei2⟩ := is_v g7
  obtain rfl : w2 = (.int i2) := Option.some.inj ei2
  obtain ⟨i3, ei3⟩ := is_v g9
  obtain rfl : w3 = (.int i3) := Option.some.inj ei3
  obtain ⟨i4, ei4⟩ := is_v g11
  obtain rfl : w4 = (.int i4) := Option.some.inj ei4
  obtain ⟨i5, ei5⟩ := is_v g12
  obtain rfl : w5 = (.int i5) := Option.some.inj ei5
  obtain ⟨n, o, h1, h2, h3, _, L, rfl, ⟨N, rfl⟩, hq⟩ := own_rm0 l s _ hw tables_1 i0 i1 i2 i3 i4 i5  s.heap s.heap.size (Nat.le_refl _)  p e ha hc hk s m _ below hf ((Spec.applies_iff_loose hf).mp happ).1 ⟨rfl, State.Warmed39.refl s, rfl⟩ trivial
  refine ⟨n, _, h1, h2, h3, hpost _ _ _ _ _ _ ⟨Cond.after_iff.mpr rfl, Cond.after_iff.mpr (eq_i res_at (Term.int_eval (1)) rfl), trivial⟩ ⟨hq.1, hq.2.1, (hq.2.2.sift fun y hy => Or.inr (N y hy)).mono (by decide) (by decide)⟩⟩
theorem main_1_1 : Claimed_1_1 := own_comes_1 fun _ _ _ _ _ _ h hF => ⟨h.1, hF⟩
theorem main_1_2 : Claimed_1_2 := own_comes_1 fun _ _ _ _ _ _ h hF => ⟨h.2.1, hF⟩
end Jvm.Pilot.@@N@@
namespace Jvm.Pilot.@@N@@
open Jvm Jvm.ClassFile Sem Op Lib Jvm.Free Jvm.Stand Jvm.Pilot.@@N@@.Jvm.D
/-! MADE BY PROGRAM (witnessworld.py) out of the Statement's table words and the real class files: 9 classes; the members and pool entries that the words name. The judged class is class 1, her method 5. -/
namespace start1
open Jvm.ClassFile
def u (s : String) : CpInfo := .utf8 (stringToUtf16 s)
/-- a pool by its gaps: so many unusable entries, then the entry; so many at the end -/
def gap : Nat → List CpInfo → List CpInfo
  | 0, r => r
  | n + 1, r => .unusable :: gap n r
def poolList (es : List (Nat × CpInfo)) (last : Nat) : List CpInfo := es.foldr (fun e r => gap e.1 (e.2 :: r)) (gap last [])
def pool (es : List (Nat × CpInfo)) (last : Nat) : Array CpInfo := ⟨poolList es last⟩
def fileOf (pool : Array CpInfo) (this : Nat) (attrs : Array Attribute := #[]) (ms : Array MethodInfo := #[]) (fl : Nat := 33) (sup : Nat := 0) (ifs : Array Nat := #[]) (fds : Array FieldInfo := #[]) : ClassFile where
  minorVersion := 0
  majorVersion := 65
  constantPool := pool
  accessFlags := fl
  thisClass := this
  superClass := sup
  interfaces := ifs
  fields := fds
  methods := ms
  attributes := attrs
def plain (name : String) (sup : Option ClassId) : Class where
  name := name
  kind := .ordinary
  loader := none
  accessFlags := 33
  super := sup
  interfaces := #[]
  cf := none
  fields := #[]
  methods := #[]
  instanceTypes := #[]
  staticTypes := #[]
  resolved := #[]
  callSites := []
  init := .initialized
  statics := none
  mirror := none

def pool0 : Array CpInfo := pool [(5, u "<init>"), (0, u "()V"), (1, .class_ 10), (1, u "java/lang/Object")] 113

def k0m0 : Method := { name := "<init>", desc := "()V", sig := { parameters := [], returnType := none }, accessFlags := 1, code := none }
/-- java/lang/Object -/
def k0 : Class := { plain "java/lang/Object" none with
  accessFlags := 33
  interfaces := #[]
  cf := some (fileOf pool0 8 #[] #[{ accessFlags := 1, nameIndex := 5, descriptorIndex := 6, attributes := #[] }] 33 0 #[] #[])
  fields := #[]
  methods := #[k0m0]
  instanceTypes := #[]
  staticTypes := #[]
  resolved := Array.replicate 124 none
  statics := none }

def pool1 : Array CpInfo := pool [(2, .class_ 4), (1, u "java/lang/Object"), (0, u "<init>"), (0, u "()V"), (0, .methodref 8 9), (0, .class_ 10), (0, .nameAndType 11 12), (0, u "com/example/deft_wiring/deftwiring/context/XmlScannerLineAtPinLaw"), (0, u "pick"), (0, u "(I)B"), (0, .integer 2147483647), (0, .methodref 8 15), (0, .nameAndType 16 17), (0, u "lf"), (0, u "(BII)I"), (0, .methodref 8 19), (0, .nameAndType 20 17), (0, u "cr"), (0, .methodref 8 22), (0, .nameAndType 23 24), (0, u "pair"), (0, u "(BBII)I"), (0, .methodref 26 27), (0, .class_ 28), (0, .nameAndType 29 30), (0, u "com/example/deft_wiring/deftwiring/context/XmlScanner"), (0, u "lineAt"), (0, u "([BI)I"), (3, u "law"), (0, u "(IIIIII)Z")] 4

def k1m0 : Method := { name := "<init>", desc := "()V", sig := { parameters := [], returnType := none }, accessFlags := 1, code := none }
def k1c1 : Code := { maxStack := 2, maxLocals := 2, code := method_2_code, exceptionTable := #[], attributes := #[] }
def k1m1 : Method := { name := "pick", desc := "(I)B", sig := { parameters := [.int], returnType := some .byte }, accessFlags := 10, code := some k1c1 }
def k1c2 : Code := { maxStack := 2, maxLocals := 3, code := method_3_code, exceptionTable := #[], attributes := #[] }
def k1m2 : Method := { name := "lf", desc := "(BII)I", sig := { parameters := [.byte, .int, .int], returnType := some .int }, accessFlags := 10, code := some k1c2 }
def k1c3 : Code := { maxStack := 2, maxLocals := 3, code := method_4_code, exceptionTable := #[], attributes := #[] }
def k1m3 : Method := { name := "cr", desc := "(BII)I", sig := { parameters := [.byte, .int, .int], returnType := some .int }, accessFlags := 10, code := some k1c3 }
def k1c4 : Code := { maxStack := 2, maxLocals := 4, code := method_5_code, exceptionTable := #[], attributes := #[] }
def k1m4 : Method := { name := "pair", desc := "(BBII)I", sig := { parameters := [.byte, .byte, .int, .int], returnType := some .int }, accessFlags := 10, code := some k1c4 }
def k1c5 : Code := { maxStack := 5, maxLocals := 17, code := code, exceptionTable := #[], attributes := #[] }
def k1m5 : Method := { name := "law", desc := "(IIIIII)Z", sig := { parameters := [.int, .int, .int, .int, .int, .int], returnType := some .boolean }, accessFlags := 9, code := some k1c5 }
/-- com/example/deft_wiring/deftwiring/context/XmlScannerLineAtPinLaw -/
def k1 : Class := { plain "com/example/deft_wiring/deftwiring/context/XmlScannerLineAtPinLaw" (some 0) with
  accessFlags := 49
  interfaces := #[]
  cf := some (fileOf pool1 8 #[] #[{ accessFlags := 1, nameIndex := 5, descriptorIndex := 6, attributes := #[] }, { accessFlags := 10, nameIndex := 11, descriptorIndex := 12, attributes := #[] }, { accessFlags := 10, nameIndex := 16, descriptorIndex := 17, attributes := #[] }, { accessFlags := 10, nameIndex := 20, descriptorIndex := 17, attributes := #[] }, { accessFlags := 10, nameIndex := 23, descriptorIndex := 24, attributes := #[] }, { accessFlags := 9, nameIndex := 34, descriptorIndex := 35, attributes := #[] }] 49 2 #[] #[])
  fields := #[]
  methods := #[k1m0, k1m1, k1m2, k1m3, k1m4, k1m5]
  instanceTypes := #[]
  staticTypes := #[]
  resolved := Array.replicate 40 none
  statics := none }

def pool2 : Array CpInfo := pool [(1, .class_ 2), (0, u "com/example/deft_wiring/deftwiring/context/XmlScanner$Names"), (5, .class_ 10), (1, u "com/example/deft_wiring/deftwiring/context/XmlScanner"), (2, .class_ 14), (0, u "java/lang/Object"), (2, u "bytes"), (0, u "[B"), (2, u "end"), (0, u "I"), (2, u "document"), (2, u "referenceEnd"), (2, u "names"), (0, u "Lcom/example/deft_wiring/deftwiring/context/XmlScanner$Names;"), (2, u "pos"), (162, u "lineAt"), (0, u "([BI)I"), (14, u "ASCII_NAMES"), (47, u "NAMES_KEPT"), (2, u "NAME_START"), (0, u "B"), (1, u "NAME_PART")] 60

def k2c0 : Code := { maxStack := 3, maxLocals := 4, code := prog_76_method_26_code, exceptionTable := #[], attributes := #[] }
def k2m0 : Method := { name := "lineAt", desc := "([BI)I", sig := { parameters := [(.array .byte), .int], returnType := some .int }, accessFlags := 8, code := some k2c0 }
/-- com/example/deft_wiring/deftwiring/context/XmlScanner -/
def k2 : Class := { plain "com/example/deft_wiring/deftwiring/context/XmlScanner" (some 0) with
  accessFlags := 32
  interfaces := #[]
  cf := some (fileOf pool2 8 #[.nestMembers #[1]] #[{ accessFlags := 8, nameIndex := 198, descriptorIndex := 199, attributes := #[] }] 32 13 #[] #[{ accessFlags := 26, nameIndex := 262, descriptorIndex := 22, attributes := #[] }, { accessFlags := 26, nameIndex := 265, descriptorIndex := 266, attributes := #[] }, { accessFlags := 26, nameIndex := 268, descriptorIndex := 266, attributes := #[] }, { accessFlags := 26, nameIndex := 214, descriptorIndex := 18, attributes := #[] }, { accessFlags := 18, nameIndex := 17, descriptorIndex := 18, attributes := #[] }, { accessFlags := 18, nameIndex := 21, descriptorIndex := 22, attributes := #[] }, { accessFlags := 18, nameIndex := 25, descriptorIndex := 18, attributes := #[] }, { accessFlags := 18, nameIndex := 28, descriptorIndex := 22, attributes := #[] }, { accessFlags := 18, nameIndex := 31, descriptorIndex := 32, attributes := #[] }, { accessFlags := 2, nameIndex := 35, descriptorIndex := 22, attributes := #[] }])
  fields := #[{ name := "NAMES_KEPT", type := .int, accessFlags := 26, slot := 0, constantValue := 0 }, { name := "NAME_START", type := .byte, accessFlags := 26, slot := 1, constantValue := 0 }, { name := "NAME_PART", type := .byte, accessFlags := 26, slot := 2, constantValue := 0 }, { name := "ASCII_NAMES", type := (.array .byte), accessFlags := 26, slot := 3, constantValue := 0 }, { name := "bytes", type := (.array .byte), accessFlags := 18, slot := 0, constantValue := 0 }, { name := "end", type := .int, accessFlags := 18, slot := 1, constantValue := 0 }, { name := "document", type := (.array .byte), accessFlags := 18, slot := 2, constantValue := 0 }, { name := "referenceEnd", type := .int, accessFlags := 18, slot := 3, constantValue := 0 }, { name := "names", type := (.object "com/example/deft_wiring/deftwiring/context/XmlScanner$Names"), accessFlags := 18, slot := 4, constantValue := 0 }, { name := "pos", type := .int, accessFlags := 2, slot := 5, constantValue := 0 }]
  methods := #[k2m0]
  instanceTypes := #[(.array .byte), .int, (.array .byte), .int, (.object "com/example/deft_wiring/deftwiring/context/XmlScanner$Names"), .int]
  staticTypes := #[.int, .byte, .byte, (.array .byte)]
  resolved := Array.replicate 329 none
  statics := none }

def pool3 : Array CpInfo := pool [(1, u "java/lang/Cloneable"), (0, .class_ 1), (0, u "java/lang/Object"), (0, .class_ 3)] 3

/-- java/lang/Cloneable -/
def k3 : Class := { plain "java/lang/Cloneable" (some 0) with
  accessFlags := 1537
  interfaces := #[]
  cf := some (fileOf pool3 2 #[] #[] 1537 4 #[] #[])
  fields := #[]
  methods := #[]
  instanceTypes := #[]
  staticTypes := #[]
  resolved := Array.replicate 8 none
  statics := none }

def pool4 : Array CpInfo := pool [(1, u "java/io/Serializable"), (0, .class_ 1), (0, u "java/lang/Object"), (0, .class_ 3)] 3

/-- java/io/Serializable -/
def k4 : Class := { plain "java/io/Serializable" (some 0) with
  accessFlags := 1537
  interfaces := #[]
  cf := some (fileOf pool4 2 #[] #[] 1537 4 #[] #[])
  fields := #[]
  methods := #[]
  instanceTypes := #[]
  staticTypes := #[]
  resolved := Array.replicate 8 none
  statics := none }

/-- the primitive byte -/
def k5 : Class := { plain "byte" none with kind := .primitive 'B', accessFlags := 0x411 }
/-- [B -/
def k6 : Class := { plain "[B" (some 0) with kind := .array 5 .byte, interfaces := #[3, 4], accessFlags := 1041 }

/-- the primitive int -/
def k7 : Class := { plain "int" none with kind := .primitive 'I', accessFlags := 0x411 }
/-- [I -/
def k8 : Class := { plain "[I" (some 0) with kind := .array 7 .int, interfaces := #[3, 4], accessFlags := 1041 }

def heap : Heap := #[]
def classes : Array Class := #[k0, k1, k2, k3, k4, k5, k6, k7, k8]
def interned : List (Array UInt16 × Addr) := []
def slotsUsed : Nat := 0
def theMethod : MethodId := ⟨1, 5⟩
def args0 : Array Value := #[.int 10, .int 17, .int 24, .int 31, .int 38, .int 45]
def aboutOver (below : List Frame) : State where
  vm := { classes := classes, interned := interned.toArray }
  heap := heap
  slotsUsed := slotsUsed
  threads := #[{ frames := .invoking theMethod args0 :: below }]
def below0 : List Frame := [.native { method := ⟨0, 0⟩, args := #[] }]
def about1 : State := aboutOver below0
def p0 : Program := .bare "" "" ""
def e0 : Env := launch0.env 0 0 0
theorem w_frames : about1.frames = Frame.invoking theMethod args0 :: below0 := rfl
set_option maxRecDepth 65536 in
theorem w_args : argsFit about1.vm theMethod args0 = true := by decide +kernel
set_option maxRecDepth 65536 in
theorem w_heap : heapFits about1 = true := by decide +kernel
set_option maxRecDepth 65536 in
theorem w_runnable : about1.curStatus? = some .runnable := by decide +kernel
set_option maxRecDepth 65536 in
theorem w_alone : about1.alone = true := by decide +kernel
set_option maxRecDepth 65536 in
theorem w_named : about1.methodNamed? x = some theMethod := by decide +kernel
set_option maxRecDepth 65536 in
theorem w_hears : about1.hears theMethod below0 = true := by decide +kernel
set_option maxRecDepth 65536 in
theorem w_ripe : about1.ripe theMethod args0 below0 = true := by decide +kernel
theorem w_running : about1.status = .running := rfl
set_option maxRecDepth 65536 in
theorem w_room : about1.hasRoom e0.platform room_1 = true :=
  launch0.hasRoom_least _ room_1 (by decide +kernel) (by decide +kernel) (by decide +kernel) (by decide +kernel) (by decide +kernel) (by decide +kernel)
theorem allAtoms_all (ts : List Jvm.Cond) (a : Array Jvm.Value) (st : Jvm.State) : (allAtoms ts).before a st = ts.all (fun c => c.before a st) := by
  induction ts with
  | nil => rfl
  | cons c t ih =>
    show (Jvm.Cond.and c (allAtoms t)).before a st = _
    rw [Jvm.Cond.before_and, ih, List.all_cons]
def words1 : List Jvm.Cond := Jvm.Cond.code x code maxLocals ret :: tables_1
/-- a 'code' word, met by the world's own term for the bytes: nothing is compared byte by byte -/
theorem code_word {y : MethodName} {bytes : ByteArray} {mx : Nat} {rt : Option FieldType} {a : Array Value} {s : State} {m : MethodId} {meth : Method} {c : Code} (h1 : s.methodNamed? y = some m) (h2 : s.vm.method? m = some meth) (h3 : meth.code = some c) (h4 : c.code = bytes)
    (h5 : (c.maxLocals == mx && c.exceptionTable.isEmpty && decide (c.maxStack ≤ mostOperands) && decide (meth.sig.returnType = rt) && !meth.locks && decide (parseMethodDescriptor y.desc = some meth.sig)) = true) : (Jvm.Cond.code y bytes mx rt).before a s = true := by
  simp only [Bool.and_eq_true, beq_iff_eq, Bool.not_eq_true', decide_eq_true_eq] at h5
  obtain ⟨⟨⟨⟨⟨g1, g2⟩, g3⟩, g4⟩, g5⟩, g6⟩ := h5
  simp [Cond.before, Cond.holds, Cond.value, h1, h2, h3, h4, g1, g2, g3, g4, g5, g6]
def isCode : Jvm.Cond → Bool
  | .code _ _ _ _ => true
  | _ => false
theorem all_split {L : List Jvm.Cond} {P : Jvm.Cond → Bool} (h1 : L.all (fun c => isCode c || P c) = true) (h2 : ∀ c ∈ L.filter isCode, P c = true) : L.all P = true := by
  refine List.all_eq_true.mpr fun c hc => ?_
  have h := List.all_eq_true.mp h1 c hc
  rcases Bool.eq_false_or_eq_true (isCode c) with hi | hi
  · exact h2 c (List.mem_filter.mpr ⟨hc, hi⟩)
  · simpa [hi] using h
set_option maxRecDepth 65536 in
theorem w_c0 : (Jvm.Cond.code x code maxLocals ret).before args0 about1 = true := code_word (m := ⟨1, 5⟩) (meth := k1m5) (c := k1c5) (by decide +kernel) rfl rfl rfl (by decide +kernel)
set_option maxRecDepth 65536 in
theorem w_c1 : (Jvm.Cond.code ({ cls := "com/example/deft_wiring/deftwiring/context/XmlScannerLineAtPinLaw", name := "pick", desc := "(I)B" } : Jvm.MethodName) method_2_code (2 : Nat) (Option.some Jvm.ClassFile.FieldType.byte)).before args0 about1 = true := code_word (m := ⟨1, 1⟩) (meth := k1m1) (c := k1c1) (by decide +kernel) rfl rfl rfl (by decide +kernel)
set_option maxRecDepth 65536 in
theorem w_c2 : (Jvm.Cond.code ({ cls := "com/example/deft_wiring/deftwiring/context/XmlScannerLineAtPinLaw", name := "lf", desc := "(BII)I" } : Jvm.MethodName) method_3_code (3 : Nat) (Option.some Jvm.ClassFile.FieldType.int)).before args0 about1 = true := code_word (m := ⟨1, 2⟩) (meth := k1m2) (c := k1c2) (by decide +kernel) rfl rfl rfl (by decide +kernel)
set_option maxRecDepth 65536 in
theorem w_c3 : (Jvm.Cond.code ({ cls := "com/example/deft_wiring/deftwiring/context/XmlScannerLineAtPinLaw", name := "cr", desc := "(BII)I" } : Jvm.MethodName) method_4_code (3 : Nat) (Option.some Jvm.ClassFile.FieldType.int)).before args0 about1 = true := code_word (m := ⟨1, 3⟩) (meth := k1m3) (c := k1c3) (by decide +kernel) rfl rfl rfl (by decide +kernel)
set_option maxRecDepth 65536 in
theorem w_c4 : (Jvm.Cond.code ({ cls := "com/example/deft_wiring/deftwiring/context/XmlScannerLineAtPinLaw", name := "pair", desc := "(BBII)I" } : Jvm.MethodName) method_5_code (4 : Nat) (Option.some Jvm.ClassFile.FieldType.int)).before args0 about1 = true := code_word (m := ⟨1, 4⟩) (meth := k1m4) (c := k1c4) (by decide +kernel) rfl rfl rfl (by decide +kernel)
set_option maxRecDepth 65536 in
theorem w_c5 : (Jvm.Cond.code ({ cls := "com/example/deft_wiring/deftwiring/context/XmlScanner", name := "lineAt", desc := "([BI)I" } : Jvm.MethodName) prog_76_method_26_code (4 : Nat) (Option.some Jvm.ClassFile.FieldType.int)).before args0 about1 = true := code_word (m := ⟨2, 0⟩) (meth := k2m0) (c := k2c0) (by decide +kernel) rfl rfl rfl (by decide +kernel)
def codes1 : List Jvm.Cond := [Jvm.Cond.code x code maxLocals ret, Jvm.Cond.code ({ cls := "com/example/deft_wiring/deftwiring/context/XmlScannerLineAtPinLaw", name := "pick", desc := "(I)B" } : Jvm.MethodName) method_2_code (2 : Nat) (Option.some Jvm.ClassFile.FieldType.byte), Jvm.Cond.code ({ cls := "com/example/deft_wiring/deftwiring/context/XmlScannerLineAtPinLaw", name := "lf", desc := "(BII)I" } : Jvm.MethodName) method_3_code (3 : Nat) (Option.some Jvm.ClassFile.FieldType.int), Jvm.Cond.code ({ cls := "com/example/deft_wiring/deftwiring/context/XmlScannerLineAtPinLaw", name := "cr", desc := "(BII)I" } : Jvm.MethodName) method_4_code (3 : Nat) (Option.some Jvm.ClassFile.FieldType.int), Jvm.Cond.code ({ cls := "com/example/deft_wiring/deftwiring/context/XmlScannerLineAtPinLaw", name := "pair", desc := "(BBII)I" } : Jvm.MethodName) method_5_code (4 : Nat) (Option.some Jvm.ClassFile.FieldType.int), Jvm.Cond.code ({ cls := "com/example/deft_wiring/deftwiring/context/XmlScanner", name := "lineAt", desc := "([BI)I" } : Jvm.MethodName) prog_76_method_26_code (4 : Nat) (Option.some Jvm.ClassFile.FieldType.int)]
set_option maxRecDepth 65536 in
theorem codes_eq : words1.filter isCode = codes1 := rfl
theorem w_codes : ∀ c ∈ words1.filter isCode, c.before args0 about1 = true := by
  rw [codes_eq]
  intro c hc
  simp only [codes1, List.mem_cons, List.not_mem_nil, or_false] at hc
  rcases hc with rfl | rfl | rfl | rfl | rfl | rfl
  · exact w_c0
  · exact w_c1
  · exact w_c2
  · exact w_c3
  · exact w_c4
  · exact w_c5
set_option maxRecDepth 65536 in
theorem w_t1 : words1.all (fun c => isCode c || c.before args0 about1) = true := by decide +kernel
theorem w_tables : (allAtoms (Jvm.Cond.code x code maxLocals ret :: tables_1)).before args0 about1 = true := by
  rw [allAtoms_all]
  show words1.all (fun c => c.before args0 about1) = true
  refine all_split ?_ w_codes
  rw [w_t1]
set_option maxRecDepth 65536 in
theorem w_case : (Jvm.Cond.and given_1 narrow_1).before args0 about1 = true := by decide +kernel
theorem w_applies : (headSpec (Jvm.Cond.code x code maxLocals ret :: tables_1) room_1).applies x e0.platform about1 = true :=
  (Spec.applies_iff w_frames).mpr ⟨w_running, w_runnable, w_alone, w_named, w_hears, w_ripe, w_room, w_tables⟩
theorem atStart : AtStart classFile x code maxLocals ret World_1 tables_1 room_1 Calls_1 rest_1 Pre_1 launch0 p0 e0 about1 theMethod args0 below0 :=
  ⟨lists_1, trivial, launch0.admits_env _ _ _, launch0.least_env, fairChoices_fair.cas, fairChoices_fair.clock, w_frames, w_args, w_heap, w_applies, trivial, trivial, w_case⟩
end start1
theorem witness_1 : WitnessClaimed_1 := ⟨start1.p0, start1.e0, start1.about1, start1.theMethod, start1.args0, start1.below0, start1.atStart⟩
end Jvm.Pilot.@@N@@
