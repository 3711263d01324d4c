import JvmDerived
import JvmDerived.Pilot.@@N@@Statement
import JvmDerived.Pilot.@@N@@Code
set_option linter.unusedVariables false
set_option linter.unusedSimpArgs false
namespace Jvm.Pilot.@@N@@
open Jvm Jvm.ClassFile Sem Op Lib Jvm.Free Jvm.Stand Jvm.LawKit Jvm.RoadKit Bundle Jvm.Pilot.@@N@@.Jvm.D
section OwnLayer
/-- the run from A ends, and P holds of how it ends -/
def own_Ends (tb : Tables) (e : Env) (below : List Frame) (P : Outcome → State → Prop) (A : State) : Prop :=
  ∃ s₂ o, Steps tb e below A s₂ ∧ s₂.status = .running ∧ Ended s₂ below o ∧ P o s₂
theorem own_st {tb : Tables} {e : Env} {below : List Frame} {P : Outcome → State → Prop} {A B : State} (h : ∀ t, Steps tb e below B t → Steps tb e below A t) (k : own_Ends tb e below P B) : own_Ends tb e below P A := by
  obtain ⟨s2, o, h1, h2⟩ := k
  exact ⟨s2, o, h _ h1, h2⟩
/-- where the walk stands: the state T, its heap h, k cells and n slots made, nothing below n0 written -/
def own_S (p : Program) (l : Launch) (e : Env) (R : Room) (s : State) (m : MethodId) (args : Array Value) (below : List Frame) (meth : Method) (c : Code) (n0 : Nat) (T : State) (h : Heap) (k n : Nat) : Prop :=
  ∃ locs, Stand p l e R s m args below meth c T locs k n ∧ T.heap = h ∧ Fr n0 locs
def own_P (s : State) (n0 : Nat) (Qf : Option Value → Heap → Prop) (C S : Nat) (o : Outcome) (U' : State) : Prop := ∃ v L, o = .returned v ∧ (Fr n0 L ∧ Qf v U'.heap) ∧ FrameEnd s o U' L C S
/-- a body's contract: called with 'as' at the heap h0 it returns, and Qf holds of what it returns and of the heap -/
def own_Con (l : Launch) (Z : State) (y : MethodName) (bytes : ByteArray) (maxL : Nat) (ret : Option FieldType) (ws : List Jvm.Cond) (rm : Room) (as' : Array Value) (h0 : Heap) (n0 : Nat) (Qf : Option Value → Heap → Prop) : Prop :=
  MetFree l y (head1 (Jvm.Cond.code y bytes maxL ret :: ws) rm) (fun a U => a = as' ∧ Z.Warmed39 U.vm ∧ U.heap = h0) (fun _ _ _ _ _ => True) (fun _ U o U' => ∃ v L, o = .returned v ∧ (Fr n0 L ∧ Qf v U'.heap) ∧ FrameEnd U o U' L rm.cells rm.slots)
variable {p : Program} {l : Launch} {e : Env} {R : Room} {s : State} {m : MethodId} {args : Array Value} {below : List Frame} {meth : Method} {c : Code} {n0 : Nat} {T : State} {h : Heap} {k n : Nat} {Z : State} {a0 : Array Value} {P : Outcome → State → Prop}
theorem own_here (Y : own_S p l e R s m args below meth c n0 T h k n) : At T m c below := by
  obtain ⟨_, X, -⟩ := Y
  exact X.here
theorem own_body {y : MethodName} {bytes : ByteArray} {maxL : Nat} {ret : Option FieldType} {ws : List Jvm.Cond} {rm : Room} {as' : Array Value} {h0 : Heap} {Qf : Option Value → Heap → Prop} (hpn : plainFor y = true)
    (hbody : ∀ (p : Program) (e : Env) (s : State) (m : MethodId) (below : List Frame) (meth : Method) (c : Code) (T : State), p.tables.exec = Jvm.exec → Z.Warmed39 s.vm → c.code = bytes → c.maxLocals = maxL → s.vm.findClass y.cls = some m.cls → meth.name = y.name → meth.sig.returnType = ret → meth.locks = false →
      own_S p l e rm s m as' below meth c n0 T h0 0 0 → own_Ends p.tables e below (own_P s n0 Qf rm.cells rm.slots) (T.setTop (entryFrame m as' maxL))) : own_Con l Z y bytes maxL ret ws rm as' h0 n0 Qf := by
  refine MetFree.of_bodySF hpn hisR ?_
  intro p e s m args below meth c s₁ Bd hml0 hP hK
  obtain ⟨rfl, hZ, hh⟩ := hP
  have hown : s.vm.findClass y.cls = some m.cls := findClass_of_methodNamed Bd.named
  have hnm := (name_of_methodNamed Bd.named Bd.method).1
  exact hbody p e s m below meth c s₁ Bd.exec hZ Bd.bytes hml0 hown hnm Bd.returns Bd.notSynchronized ⟨[], Stand.of_body Bd, by rw [← hh, Bd.state]; rfl, Fr.nil n0⟩
theorem own_leave (Y : own_S p l e R s m args below meth c n0 T h k n) (hlk : meth.locks = false) {v : Option Value} (hv : meth.sig.returnType = none → v = none) {Qf : Option Value → Heap → Prop} {C S : Nat} (hk : k ≤ C) (hn : n ≤ S) (hQ : Qf v h) {A : State}
    (st : ∀ (locs : List Loc) (fs : List Frame), Stand p l e R s m args below meth c T locs k n → (∀ (f : JFrame) (acts : List Action), f.method = m → f.locked = none → f.entered = [] → (doReturn e (T.setTop f) acts v).1 = T.setFrames fs) → Steps p.tables e below A (T.setFrames fs)) : own_Ends p.tables e below (own_P s n0 Qf C S) A := by
  obtain ⟨locs, X, e1, N⟩ := Y
  obtain ⟨fs, hr, hrun, hended, hW, hsame⟩ := X.leave hv hlk
  refine ⟨_, _, st locs fs X hr, hrun, hended, v, locs, rfl, ⟨N, ?_⟩, ⟨_, rfl⟩, hW, hsame.mono hk hn⟩
  show Qf v T.heap
  rw [e1]; exact hQ
theorem own_ret (Y : own_S p l e R s m args below meth c n0 T h k n) (hx : p.tables.exec = Jvm.exec) (hlk : meth.locks = false) {pc : Nat} {Ls : Array Slot} {w : Value} {t : FieldType} {i : Instr} {rest : List Value} (hret : meth.sig.returnType = some t) (hd : decode c.code pc = .ok (i, 1)) (hn : narrow t w = w)
    (hi : (i = .ireturn ∧ (t = .int ∨ t = .boolean ∨ t = .byte ∨ t = .char ∨ t = .short) ∧ ∃ z, w = .int z) ∨ (i = .lreturn ∧ t = .long ∧ ∃ z, w = .long z) ∨ (i = .dreturn ∧ t = .double ∧ ∃ z, w = .double z) ∨ (i = .freturn ∧ t = .float ∧ ∃ z, w = .float z) ∨ (i = .areturn ∧ t.isReference = true ∧ w.isRef = true))
    {Qf : Option Value → Heap → Prop} {C S : Nat} (hk : k ≤ C) (hs : n ≤ S) (hQ : Qf (some w) h) : own_Ends p.tables e below (own_P s n0 Qf C S) (T.setTop (mkF m pc Ls (w :: rest))) :=
  own_leave Y hlk (fun q => by rw [hret] at q; cases q) hk hs hQ fun _ _ X hr => retOut X hx hret hn hi hd hr
theorem own_retI (Y : own_S p l e R s m args below meth c n0 T h k n) (hx : p.tables.exec = Jvm.exec) (hlk : meth.locks = false) {pc : Nat} {Ls : Array Slot} {z : Int32} {rest : List Value} (hret : meth.sig.returnType = some .int) (hd : decode c.code pc = .ok (.ireturn, 1))
    {Qf : Option Value → Heap → Prop} {C S : Nat} (hk : k ≤ C) (hs : n ≤ S) (hQ : Qf (some (.int z)) h) : own_Ends p.tables e below (own_P s n0 Qf C S) (T.setTop (mkF m pc Ls (.int z :: rest))) :=
  own_ret Y hx hlk hret hd rfl (Or.inl ⟨rfl, Or.inl rfl, _, rfl⟩) hk hs hQ
theorem own_retN (Y : own_S p l e R s m args below meth c n0 T h k n) (hx : p.tables.exec = Jvm.exec) (hlk : meth.locks = false) {pc : Nat} {Ls : Array Slot} {z : Int32} {t : FieldType} {rest : List Value} (hret : meth.sig.returnType = some t) (ht : t = .boolean ∨ t = .byte ∨ t = .char ∨ t = .short) (hd : decode c.code pc = .ok (.ireturn, 1))
    {Qf : Option Value → Heap → Prop} {C S : Nat} (hk : k ≤ C) (hs : n ≤ S) (hQ : Qf (some (.int (nar t z))) h) : own_Ends p.tables e below (own_P s n0 Qf C S) (T.setTop (mkF m pc Ls (.int z :: rest))) :=
  own_leave Y hlk (fun q => by rw [hret] at q; cases q) hk hs hQ fun _ _ X hr => retN X hx hret ht hd hr
theorem own_retJ (Y : own_S p l e R s m args below meth c n0 T h k n) (hx : p.tables.exec = Jvm.exec) (hlk : meth.locks = false) {pc : Nat} {Ls : Array Slot} {z : Int64} {rest : List Value} (hret : meth.sig.returnType = some .long) (hd : decode c.code pc = .ok (.lreturn, 1))
    {Qf : Option Value → Heap → Prop} {C S : Nat} (hk : k ≤ C) (hs : n ≤ S) (hQ : Qf (some (.long z)) h) : own_Ends p.tables e below (own_P s n0 Qf C S) (T.setTop (mkF m pc Ls (.long z :: rest))) :=
  own_ret Y hx hlk hret hd rfl (Or.inr (Or.inl ⟨rfl, rfl, _, rfl⟩)) hk hs hQ
theorem own_retA (Y : own_S p l e R s m args below meth c n0 T h k n) (hx : p.tables.exec = Jvm.exec) (hlk : meth.locks = false) {pc : Nat} {Ls : Array Slot} {w : Value} {t : FieldType} {rest : List Value} (hret : meth.sig.returnType = some t) (ht : t.isReference = true) (hw : w.isRef = true) (hn : narrow t w = w) (hd : decode c.code pc = .ok (.areturn, 1))
    {Qf : Option Value → Heap → Prop} {C S : Nat} (hk : k ≤ C) (hs : n ≤ S) (hQ : Qf (some w) h) : own_Ends p.tables e below (own_P s n0 Qf C S) (T.setTop (mkF m pc Ls (w :: rest))) :=
  own_ret Y hx hlk hret hd hn (Or.inr (Or.inr (Or.inr (Or.inr ⟨rfl, ht, hw⟩)))) hk hs hQ
theorem own_retV (Y : own_S p l e R s m args below meth c n0 T h k n) (hx : p.tables.exec = Jvm.exec) (hlk : meth.locks = false) {pc : Nat} {Ls : Array Slot} (hret : meth.sig.returnType = none) (hd : decode c.code pc = .ok (.return_, 1))
    {Qf : Option Value → Heap → Prop} {C S : Nat} (hk : k ≤ C) (hs : n ≤ S) (hQ : Qf none h) : own_Ends p.tables e below (own_P s n0 Qf C S) (T.setTop (mkF m pc Ls [])) :=
  own_leave Y hlk (fun _ => rfl) hk hs hQ fun _ _ X hr => X.returnOut hx hret hd hr
/-! fields -/
theorem own_getF (Y : own_S p l e R s m args below meth c n0 T h k n) (hx : p.tables.exec = Jvm.exec) (hZ : Z.Warmed39 s.vm) {own R0 O f d host : String} {index : Nat} (hown : s.vm.findClass own = some m.cls) (w : (Jvm.Cond.fieldLink own index R0 f d).before a0 Z = true ∨ (Jvm.Cond.fieldLinkNest own index R0 f d host).before a0 Z = true) (via : Via Z R0 O f d) {a : Addr} {v : Value} (F : Fld Z h a O f d v)
    {g : JFrame} (hg : g.method = m) {rest : List Value} (hs : g.stack = .ref a :: rest) (hd : decode c.code g.pc = .ok (.getfield index, 3)) (K : ∀ T', own_S p l e R s m args below meth c n0 T' h k n → own_Ends p.tables e below P (T'.setTop { g with pc := g.pc + 3, stack := v :: rest })) : own_Ends p.tables e below P (T.setTop g) := by
  obtain ⟨locs, X, e1, N⟩ := Y
  obtain ⟨T', X', e', st⟩ := getF X hx hZ hown w via e1 F hg hs hd
  exact own_st st (K T' ⟨locs, X', e', N⟩)
theorem own_putF (Y : own_S p l e R s m args below meth c n0 T h k n) (hx : p.tables.exec = Jvm.exec) (hZ : Z.Warmed39 s.vm) {own R0 O f d host C : String} {index kk : Nat} {ty : FieldType} (hown : s.vm.findClass own = some m.cls) (w : (Jvm.Cond.fieldLink own index R0 f d).before a0 Z = true ∨ (Jvm.Cond.fieldLinkNest own index R0 f d host).before a0 Z = true) (via : Via Z R0 O f d) {a : Addr} {v old : Value} (F : Fld Z h a O f d old) (E : Exa Z h a C)
    (L : (Jvm.Cond.lays C O f d).before a0 Z = true ∨ ((Jvm.Cond.laysFinal C O f d).before a0 Z = true ∧ own = O ∧ meth.name = "<init>")) (wi : (Jvm.Cond.instantiable C kk).before a0 Z = true) (ha : n0 ≤ a) (hty : parseFieldDescriptor d = some ty) (hn : narrow ty v = v) (hf : fits ty v = true) {g : JFrame} (hg : g.method = m) {rest : List Value} (hs : g.stack = v :: .ref a :: rest) (hd : decode c.code g.pc = .ok (.putfield index, 3))
    (K : ∀ T' h', own_S p l e R s m args below meth c n0 T' h' k n → Wr h h' a (Jvm.RoadKit.slotOf Z O f d) v → Fld Z h' a O f d v → own_Ends p.tables e below P (T'.setTop { g with pc := g.pc + 3, stack := rest })) : own_Ends p.tables e below P (T.setTop g) := by
  obtain ⟨locs, X, e1, N⟩ := Y
  obtain ⟨T', h', X', e', W, st⟩ := putF X hx hZ hown w via e1 F E L wi hty hn hf hg hs hd
  exact own_st st (K T' h' ⟨_, X', e', Fr.snoc X' N ha⟩ W (F.same W))
theorem own_putFN (Y : own_S p l e R s m args below meth c n0 T h k n) (hx : p.tables.exec = Jvm.exec) (hZ : Z.Warmed39 s.vm) {own R0 O f d C : String} {index kk : Nat} {ty : FieldType} (hown : s.vm.findClass own = some m.cls) (w : (Jvm.Cond.fieldLink own index R0 f d).before a0 Z = true) (via : Via Z R0 O f d) {a : Addr} {v v' old : Value} (F : Fld Z h a O f d old) (E : Exa Z h a C)
    (L : (Jvm.Cond.lays C O f d).before a0 Z = true ∨ ((Jvm.Cond.laysFinal C O f d).before a0 Z = true ∧ own = O ∧ meth.name = "<init>")) (wi : (Jvm.Cond.instantiable C kk).before a0 Z = true) (ha : n0 ≤ a) (hty : parseFieldDescriptor d = some ty) (hn : narrow ty v = v') (hf : fits ty v' = true) {g : JFrame} (hg : g.method = m) {rest : List Value} (hs : g.stack = v :: .ref a :: rest) (hd : decode c.code g.pc = .ok (.putfield index, 3))
    (K : ∀ T' h', own_S p l e R s m args below meth c n0 T' h' k n → Wr h h' a (Jvm.RoadKit.slotOf Z O f d) v' → Fld Z h' a O f d v' → own_Ends p.tables e below P (T'.setTop { g with pc := g.pc + 3, stack := rest })) : own_Ends p.tables e below P (T.setTop g) := by
  obtain ⟨locs, X, e1, N⟩ := Y
  obtain ⟨T', h', X', e', W, st⟩ := putFN X hx hZ hown w via e1 F E L wi hty hn hf hg hs hd
  exact own_st st (K T' h' ⟨_, X', e', Fr.snoc X' N ha⟩ W (F.same W))
theorem own_getS (Y : own_S p l e R s m args below meth c n0 T h k n) (hx : p.tables.exec = Jvm.exec) (hZ : Z.Warmed39 s.vm) {own R0 O f d host : String} {index : Nat} (hown : s.vm.findClass own = some m.cls) (w : (Jvm.Cond.fieldLink own index R0 f d).before a0 Z = true ∨ (Jvm.Cond.fieldLinkNest own index R0 f d host).before a0 Z = true) (via : Via Z R0 O f d) {v : Value} (F : Sta Z h O f d v)
    {g : JFrame} (hg : g.method = m) (hd : decode c.code g.pc = .ok (.getstatic index, 3)) (K : ∀ T', own_S p l e R s m args below meth c n0 T' h k n → own_Ends p.tables e below P (T'.setTop { g with pc := g.pc + 3, stack := v :: g.stack })) : own_Ends p.tables e below P (T.setTop g) := by
  obtain ⟨locs, X, e1, N⟩ := Y
  obtain ⟨T', X', e', st⟩ := getS2 X hx hZ hown w via e1 F hg hd
  exact own_st st (K T' ⟨locs, X', e', N⟩)
/-! new objects -/
theorem own_new (Y : own_S p l e R s m args below meth c n0 T h k n) (hx : p.tables.exec = Jvm.exec) (hZ : Z.Warmed39 s.vm) {own C : String} {index nn : Nat} (hown : s.vm.findClass own = some m.cls) (w : (Jvm.Cond.classLink own index C).before a0 Z = true) (wi : (Jvm.Cond.instantiable C nn).before a0 Z = true) (wz : (Jvm.Cond.initialized C).before a0 Z = true)
    {g : JFrame} (hg : g.method = m) (hd : decode c.code g.pc = .ok (.new index, 3)) (hc : k + 1 ≤ R.cells) (hl : n + nn ≤ R.slots)
    (K : ∀ T' h' b, b = h.size → own_S p l e R s m args below meth c n0 T' h' (k + 1) (n + nn) → Ext h h' → Exa Z h' b C → (∀ (O nm d : String) (ty : FieldType), Laid Z a0 C O nm d → parseFieldDescriptor d = some ty → Fld Z h' b O nm d (defaultValue ty)) →
      own_Ends p.tables e below P (T'.setTop { g with pc := g.pc + 3, stack := .ref b :: g.stack })) : own_Ends p.tables e below P (T.setTop g) := by
  obtain ⟨locs, X, e1, N⟩ := Y
  obtain ⟨T', h', X', e', E, A, D, -, st⟩ := newO X hx hZ hown w wi wz e1 hg hd hc hl
  exact own_st st (K T' h' _ rfl ⟨locs, X', e', N⟩ E A (fun _ _ _ _ q r => D q r))
theorem own_initO (Y : own_S p l e R s m args below meth c n0 T h k n) (hx : p.tables.exec = Jvm.exec) (hZ : Z.Warmed39 s.vm) {own : String} {idx : Nat} (hown : s.vm.findClass own = some m.cls) (w1 : (Jvm.Cond.methodLink own idx Lib.objectInit).before a0 Z = true) (w2 : (Jvm.Cond.instanceMethod Lib.objectInit).before a0 Z = true) (w3 : (Jvm.Cond.code Lib.objectInit ⟨#[0xb1]⟩ 1 none).before a0 Z = true)
    {g : JFrame} (hg : g.method = m) (hsize : g.locals.size = c.maxLocals) {a : Addr} {rest : List Value} (hs : g.stack = .ref a :: rest) (hd : decode c.code g.pc = .ok (.invokespecial idx, 3)) (hf : 1 ≤ R.frames) {W : Nat} (hW : 2 * g.monitorRoom + (rest.map fun v => v.category).sum ≤ W) (hl : W + 12 ≤ R.locals)
    (K : ∀ T', own_S p l e R s m args below meth c n0 T' h k n → own_Ends p.tables e below P (T'.setTop { g with pc := g.pc + 3, stack := rest })) : own_Ends p.tables e below P (T.setTop g) := by
  obtain ⟨locs, X, e1, N⟩ := Y
  obtain ⟨T', X', e', st⟩ := initO X hx hZ hown w1 w2 w3 e1 hg hsize hs hd hf hW hl
  exact own_st st (K T' ⟨locs, X', e', N⟩)
/-! arrays: the cell's slots are the list vs -/
def own_A (Z : State) (h : Heap) (a : Addr) (ty : FieldType) (vs : List Value) : Prop := ∃ c : Cell, Arr Z h a c ty ∧ c.slots.toList = vs ∧ vs.length < 2 ^ 31
theorem own_A.lt {a : Addr} {ty : FieldType} {vs : List Value} (A : own_A Z h a ty vs) : a < h.size := by obtain ⟨c, A, -⟩ := A; exact A.lt
theorem own_A.ext {h' : Heap} {a : Addr} {ty : FieldType} {vs : List Value} (A : own_A Z h a ty vs) (E : Ext h h') : own_A Z h' a ty vs := by obtain ⟨c, A, r⟩ := A; exact ⟨c, A.ext E, r⟩
theorem own_A.other {h' : Heap} {a b : Addr} {sl : Nat} {v : Value} {ty : FieldType} {vs : List Value} (A : own_A Z h a ty vs) (W : Wr h h' b sl v) (q : a ≠ b) : own_A Z h' a ty vs := by obtain ⟨c, A, r⟩ := A; exact ⟨c, A.other W q, r⟩
theorem own_A.keep {h' : Heap} {a : Addr} {ws : List Addr} {ty : FieldType} {vs : List Value} (A : own_A Z h a ty vs) (K : Keep h h' ws) (q : a ∉ ws) : own_A Z h' a ty vs := by obtain ⟨c, A, r⟩ := A; exact ⟨c, ⟨K.2.1 a c A.1 q, A.2⟩, r⟩
theorem own_sz {c : Cell} {vs : List Value} (q : c.slots.toList = vs) : c.slots.size = vs.length := by rw [← q]; simp
theorem own_in {c : Cell} {vs : List Value} {j : Int32} {i : Nat} (q : c.slots.toList = vs) (hj : ¬ j < 0) (hi : j.toNatClampNeg = i) (hl : i < vs.length) : ¬ (j < 0 ∨ c.slots.size ≤ j.toNatClampNeg) := by
  rw [own_sz q, hi]; intro z; rcases z with z | z
  · exact hj z
  · omega
theorem own_get {c : Cell} {vs : List Value} {j : Int32} {i : Nat} {v : Value} (q : c.slots.toList = vs) (hi : j.toNatClampNeg = i) (hv : vs[i]? = some v) : c.slots[j.toNatClampNeg]? = some v := by
  rw [hi, ← Array.getElem?_toList, q, hv]
theorem own_A.set {h' : Heap} {a : Addr} {ty : FieldType} {vs : List Value} {cl : Cell} {i : Nat} {v : Value} (A : Arr Z h a cl ty) (q : cl.slots.toList = vs) (hl : vs.length < 2 ^ 31) (W : Wr h h' a i v) : own_A Z h' a ty (vs.set i v) :=
  ⟨_, A.same W, by simp [Cell.setSlot, q], by simpa using hl⟩
theorem own_newP (Y : own_S p l e R s m args below meth c n0 T h k n) (hx : p.tables.exec = Jvm.exec) (hZ : Z.Warmed39 s.vm) {aty : ArrayType} (w : (Jvm.Cond.arrayClass (newarray.typeOf aty)).before a0 Z = true) {g : JFrame} (hg : g.method = m) (hd : decode c.code g.pc = .ok (.newarray aty, 2)) {z : Int32} {rest : List Value} (hs : g.stack = .int z :: rest)
    (hz : ¬ z < 0) {nz cap : Nat} (hn : z.toNatClampNeg = nz) (hcap : nz ≤ cap) (hb : cap * 8 ≤ 536870912) (hc : k + 1 ≤ R.cells) (hl : n + cap ≤ R.slots) {ty : FieldType} (hty : newarray.typeOf aty = ty)
    (K : ∀ T' h' b, b = h.size → own_S p l e R s m args below meth c n0 T' h' (k + 1) (n + cap) → Ext h h' → own_A Z h' b ty (List.replicate nz (defaultValue ty)) → own_Ends p.tables e below P (T'.setTop { g with pc := g.pc + 2, stack := .ref b :: rest })) : own_Ends p.tables e below P (T.setTop g) := by
  obtain ⟨locs, X, e1, N⟩ := Y
  subst hty
  obtain ⟨T', h', cA, X', e', E, A, st⟩ := newP X hx hZ w e1 hg hd hs hz (cap := cap) (by rw [hn]; exact hcap) hb hc hl
  refine own_st st (K T' h' _ rfl ⟨locs, X', e', N⟩ E ⟨_, A, ?_, ?_⟩)
  · simp [newA, hn]
  · simp; omega
theorem own_newR (Y : own_S p l e R s m args below meth c n0 T h k n) (hx : p.tables.exec = Jvm.exec) (hZ : Z.Warmed39 s.vm) {own C : String} {index : Nat} (hown : s.vm.findClass own = some m.cls) (w1 : (Jvm.Cond.classLink own index C).before a0 Z = true) (w2 : (Jvm.Cond.arrayOver (.object C)).before a0 Z = true) {g : JFrame} (hg : g.method = m) (hd : decode c.code g.pc = .ok (.anewarray index, 3)) {z : Int32} {rest : List Value} (hs : g.stack = .int z :: rest)
    (hz : ¬ z < 0) {nz cap : Nat} (hn : z.toNatClampNeg = nz) (hcap : nz ≤ cap) (hb : cap * 8 ≤ 536870912) (hc : k + 1 ≤ R.cells) (hl : n + cap ≤ R.slots)
    (K : ∀ T' h' b, b = h.size → own_S p l e R s m args below meth c n0 T' h' (k + 1) (n + cap) → Ext h h' → own_A Z h' b (.object C) (List.replicate nz .null) → own_Ends p.tables e below P (T'.setTop { g with pc := g.pc + 3, stack := .ref b :: rest })) : own_Ends p.tables e below P (T.setTop g) := by
  obtain ⟨locs, X, e1, N⟩ := Y
  obtain ⟨T', h', cA, X', e', E, A, O, st⟩ := newR X hx hZ hown w1 w2 e1 hg hd hs hz (cap := cap) (by rw [hn]; exact hcap) hb hc hl
  refine own_st st (K T' h' _ rfl ⟨locs, X', e', N⟩ E ⟨_, A, ?_, ?_⟩)
  · simp [newA, hn, defaultValue]
  · simp; omega
theorem own_mono (Y : own_S p l e R s m args below meth c n0 T h k n) {k' n' : Nat} (hk : k ≤ k') (hn : n ≤ n') : own_S p l e R s m args below meth c n0 T h k' n' := by
  obtain ⟨locs, X, r⟩ := Y
  exact ⟨locs, { X with same := X.same.mono hk hn }, r⟩
theorem own_stI (Y : own_S p l e R s m args below meth c n0 T h k n) (hx : p.tables.exec = Jvm.exec) (hZ : Z.Warmed39 s.vm) {a : Addr} {vs : List Value} (A : own_A Z h a .int vs) (ha : n0 ≤ a) {j x : Int32} {i : Nat} (hj : ¬ j < 0) (hi : j.toNatClampNeg = i) (hl : i < vs.length) {g : JFrame} (hg : g.method = m) {rest : List Value} (hs : g.stack = .int x :: .int j :: .ref a :: rest) (hd : decode c.code g.pc = .ok (.iastore, 1))
    (K : ∀ T' h', own_S p l e R s m args below meth c n0 T' h' k n → Wr h h' a i (.int x) → own_A Z h' a .int (vs.set i (.int x)) → own_Ends p.tables e below P (T'.setTop { g with pc := g.pc + 1, stack := rest })) : own_Ends p.tables e below P (T.setTop g) := by
  obtain ⟨locs, X, e1, N⟩ := Y
  obtain ⟨cl, A, q, r⟩ := A
  obtain ⟨T', h', X', e', W, st⟩ := stI X hx hZ e1 A (own_in q hj hi hl) hg hs hd
  have W' := W; rw [hi] at W'
  exact own_st st (K T' h' ⟨_, X', e', Fr.snoc X' N ha⟩ W' (own_A.set A q r W'))
theorem own_stJ (Y : own_S p l e R s m args below meth c n0 T h k n) (hx : p.tables.exec = Jvm.exec) (hZ : Z.Warmed39 s.vm) {a : Addr} {vs : List Value} (A : own_A Z h a .long vs) (ha : n0 ≤ a) {j : Int32} {x : Int64} {i : Nat} (hj : ¬ j < 0) (hi : j.toNatClampNeg = i) (hl : i < vs.length) {g : JFrame} (hg : g.method = m) {rest : List Value} (hs : g.stack = .long x :: .int j :: .ref a :: rest) (hd : decode c.code g.pc = .ok (.lastore, 1))
    (K : ∀ T' h', own_S p l e R s m args below meth c n0 T' h' k n → Wr h h' a i (.long x) → own_A Z h' a .long (vs.set i (.long x)) → own_Ends p.tables e below P (T'.setTop { g with pc := g.pc + 1, stack := rest })) : own_Ends p.tables e below P (T.setTop g) := by
  obtain ⟨locs, X, e1, N⟩ := Y
  obtain ⟨cl, A, q, r⟩ := A
  obtain ⟨T', h', X', e', W, st⟩ := stJ X hx hZ e1 A (own_in q hj hi hl) hg hs hd
  have W' := W; rw [hi] at W'
  exact own_st st (K T' h' ⟨_, X', e', Fr.snoc X' N ha⟩ W' (own_A.set A q r W'))
theorem own_stB (Y : own_S p l e R s m args below meth c n0 T h k n) (hx : p.tables.exec = Jvm.exec) (hZ : Z.Warmed39 s.vm) {a : Addr} {vs : List Value} (A : own_A Z h a .byte vs) (ha : n0 ≤ a) {j x : Int32} {i : Nat} (hj : ¬ j < 0) (hi : j.toNatClampNeg = i) (hl : i < vs.length) {g : JFrame} (hg : g.method = m) {rest : List Value} (hs : g.stack = .int x :: .int j :: .ref a :: rest) (hd : decode c.code g.pc = .ok (.bastore, 1))
    (K : ∀ T' h', own_S p l e R s m args below meth c n0 T' h' k n → Wr h h' a i (.int x.toInt8.toInt32) → own_A Z h' a .byte (vs.set i (.int x.toInt8.toInt32)) → own_Ends p.tables e below P (T'.setTop { g with pc := g.pc + 1, stack := rest })) : own_Ends p.tables e below P (T.setTop g) := by
  obtain ⟨locs, X, e1, N⟩ := Y
  obtain ⟨cl, A, q, r⟩ := A
  obtain ⟨T', h', X', e', W, st⟩ := stB X hx hZ e1 A (own_in q hj hi hl) hg hs hd
  have W' := W; rw [hi] at W'
  exact own_st st (K T' h' ⟨_, X', e', Fr.snoc X' N ha⟩ W' (own_A.set A q r W'))
theorem own_stC (Y : own_S p l e R s m args below meth c n0 T h k n) (hx : p.tables.exec = Jvm.exec) (hZ : Z.Warmed39 s.vm) {a : Addr} {vs : List Value} (A : own_A Z h a .char vs) (ha : n0 ≤ a) {j x : Int32} {i : Nat} (hj : ¬ j < 0) (hi : j.toNatClampNeg = i) (hl : i < vs.length) {g : JFrame} (hg : g.method = m) {rest : List Value} (hs : g.stack = .int x :: .int j :: .ref a :: rest) (hd : decode c.code g.pc = .ok (.castore, 1))
    (K : ∀ T' h', own_S p l e R s m args below meth c n0 T' h' k n → Wr h h' a i (.int x.toUInt32.toUInt16.toUInt32.toInt32) → own_A Z h' a .char (vs.set i (.int x.toUInt32.toUInt16.toUInt32.toInt32)) → own_Ends p.tables e below P (T'.setTop { g with pc := g.pc + 1, stack := rest })) : own_Ends p.tables e below P (T.setTop g) := by
  obtain ⟨locs, X, e1, N⟩ := Y
  obtain ⟨cl, A, q, r⟩ := A
  obtain ⟨T', h', X', e', W, st⟩ := stC X hx hZ e1 A (own_in q hj hi hl) hg hs hd
  have W' := W; rw [hi] at W'
  exact own_st st (K T' h' ⟨_, X', e', Fr.snoc X' N ha⟩ W' (own_A.set A q r W'))
theorem own_len (Y : own_S p l e R s m args below meth c n0 T h k n) (hx : p.tables.exec = Jvm.exec) (hZ : Z.Warmed39 s.vm) {a : Addr} {ty : FieldType} {vs : List Value} (A : own_A Z h a ty vs) {z : Int32} (hz : vs.length.toInt32 = z) {g : JFrame} (hg : g.method = m) {rest : List Value} (hs : g.stack = .ref a :: rest) (hd : decode c.code g.pc = .ok (.arraylength, 1))
    (K : own_Ends p.tables e below P (T.setTop { g with pc := g.pc + 1, stack := .int z :: rest })) : own_Ends p.tables e below P (T.setTop g) := by
  obtain ⟨locs, X, e1, N⟩ := Y
  obtain ⟨cl, A, q, r⟩ := A
  refine own_st (fun t => X.arraylength hx (by rw [e1]; exact A.1) (State.isArrayOf_alike hZ.alike A.2.1) hg hs hd t) ?_
  rw [own_sz q, hz]; exact K
theorem own_ldI (Y : own_S p l e R s m args below meth c n0 T h k n) (hx : p.tables.exec = Jvm.exec) (hZ : Z.Warmed39 s.vm) {a : Addr} {vs : List Value} (A : own_A Z h a .int vs) {j : Int32} {i : Nat} (hj : ¬ j < 0) (hi : j.toNatClampNeg = i) (hl : i < vs.length) {v : Value} (hv : vs[i]? = some v) {g : JFrame} (hg : g.method = m) {rest : List Value} (hs : g.stack = .int j :: .ref a :: rest) (hd : decode c.code g.pc = .ok (.iaload, 1))
    (K : own_Ends p.tables e below P (T.setTop { g with pc := g.pc + 1, stack := v :: rest })) : own_Ends p.tables e below P (T.setTop g) := by
  obtain ⟨locs, X, e1, N⟩ := Y
  obtain ⟨cl, A, q, r⟩ := A
  exact own_st (fun t => X.iaload hx (by rw [e1]; exact A.1) (State.isArrayOf_alike hZ.alike A.2.1) A.2.2 (own_in q hj hi hl) (own_get q hi hv) hg hs hd t) K
theorem own_ldB (Y : own_S p l e R s m args below meth c n0 T h k n) (hx : p.tables.exec = Jvm.exec) (hZ : Z.Warmed39 s.vm) {a : Addr} {vs : List Value} (A : own_A Z h a .byte vs) {j : Int32} {i : Nat} (hj : ¬ j < 0) (hi : j.toNatClampNeg = i) (hl : i < vs.length) {v : Value} (hv : vs[i]? = some v) {g : JFrame} (hg : g.method = m) {rest : List Value} (hs : g.stack = .int j :: .ref a :: rest) (hd : decode c.code g.pc = .ok (.baload, 1))
    (K : own_Ends p.tables e below P (T.setTop { g with pc := g.pc + 1, stack := v :: rest })) : own_Ends p.tables e below P (T.setTop g) := by
  obtain ⟨locs, X, e1, N⟩ := Y
  obtain ⟨cl, A, q, r⟩ := A
  exact own_st (fun t => X.baloadBytes hx (by rw [e1]; exact A.1) (State.isArrayOf_alike hZ.alike A.2.1) A.2.2 (own_in q hj hi hl) (own_get q hi hv) hg hs hd t) K
theorem own_ldC (Y : own_S p l e R s m args below meth c n0 T h k n) (hx : p.tables.exec = Jvm.exec) (hZ : Z.Warmed39 s.vm) {a : Addr} {vs : List Value} (A : own_A Z h a .char vs) {j : Int32} {i : Nat} (hj : ¬ j < 0) (hi : j.toNatClampNeg = i) (hl : i < vs.length) {v : Value} (hv : vs[i]? = some v) {g : JFrame} (hg : g.method = m) {rest : List Value} (hs : g.stack = .int j :: .ref a :: rest) (hd : decode c.code g.pc = .ok (.caload, 1))
    (K : own_Ends p.tables e below P (T.setTop { g with pc := g.pc + 1, stack := v :: rest })) : own_Ends p.tables e below P (T.setTop g) := by
  obtain ⟨locs, X, e1, N⟩ := Y
  obtain ⟨cl, A, q, r⟩ := A
  exact own_st (fun t => X.caload hx (by rw [e1]; exact A.1) (State.isArrayOf_alike hZ.alike A.2.1) A.2.2 (own_in q hj hi hl) (own_get q hi hv) hg hs hd t) K
theorem own_ldJ (Y : own_S p l e R s m args below meth c n0 T h k n) (hx : p.tables.exec = Jvm.exec) (hZ : Z.Warmed39 s.vm) {a : Addr} {vs : List Value} (A : own_A Z h a .long vs) {j : Int32} {i : Nat} (hj : ¬ j < 0) (hi : j.toNatClampNeg = i) (hl : i < vs.length) {v : Value} (hv : vs[i]? = some v) {g : JFrame} (hg : g.method = m) {rest : List Value} (hs : g.stack = .int j :: .ref a :: rest) (hd : decode c.code g.pc = .ok (.laload, 1))
    (K : own_Ends p.tables e below P (T.setTop { g with pc := g.pc + 1, stack := v :: rest })) : own_Ends p.tables e below P (T.setTop g) := by
  obtain ⟨locs, X, e1, N⟩ := Y
  obtain ⟨cl, A, q, r⟩ := A
  exact own_st (fun t => X.laload hx (by rw [e1]; exact A.1) (State.isArrayOf_alike hZ.alike A.2.1) A.2.2 (own_in q hj hi hl) (own_get q hi hv) hg hs hd t) K
/-! constants -/
theorem own_ldcI (Y : own_S p l e R s m args below meth c n0 T h k n) (hx : p.tables.exec = Jvm.exec) (hZ : Z.Warmed39 s.vm) {own : String} {index : Nat} {v : Int32} (hown : s.vm.findClass own = some m.cls) (w : (Jvm.Cond.constant own index v).before a0 Z = true) {g : JFrame} (hg : g.method = m) (hd : decode c.code g.pc = .ok (.ldc index, 2))
    (K : own_Ends p.tables e below P (T.setTop { g with pc := g.pc + 2, stack := .int v :: g.stack })) : own_Ends p.tables e below P (T.setTop g) := by
  obtain ⟨locs, X, e1, N⟩ := Y
  exact own_st (X.ldcInt hx hown (mvT hZ w) hg hd) K
theorem own_ldcJ (Y : own_S p l e R s m args below meth c n0 T h k n) (hx : p.tables.exec = Jvm.exec) (hZ : Z.Warmed39 s.vm) {own : String} {index : Nat} {v : Int64} (hown : s.vm.findClass own = some m.cls) (w : (Jvm.Cond.constantLong own index v).before a0 Z = true) {g : JFrame} (hg : g.method = m) (hd : decode c.code g.pc = .ok (.ldc2_w index, 3))
    (K : own_Ends p.tables e below P (T.setTop { g with pc := g.pc + 3, stack := .long v :: g.stack })) : own_Ends p.tables e below P (T.setTop g) := by
  obtain ⟨locs, X, e1, N⟩ := Y
  exact own_st (X.ldc2Long hx hown (mvT hZ w) hg hd) K
theorem own_irem (Y : own_S p l e R s m args below meth c n0 T h k n) (hx : p.tables.exec = Jvm.exec) {g : JFrame} (hg : g.method = m) {x y : Int32} {rest : List Value} (hd : decode c.code g.pc = .ok (.irem, 1)) (hs : g.stack = .int y :: .int x :: rest) (hy : y ≠ 0)
    (K : own_Ends p.tables e below P (T.setTop { g with pc := g.pc + 1, stack := .int (x % y) :: rest })) : own_Ends p.tables e below P (T.setTop g) := by
  obtain ⟨locs, X, e1, N⟩ := Y
  exact own_st (fun t => iremM X hx hg hd hs hy) K
/-! calls by contract -/
theorem own_callS (Y : own_S p l e R s m args below meth c n0 T h k n) (hx : p.tables.exec = Jvm.exec) (hZ : Z.Warmed39 s.vm) {own : String} {index : Nat} {y : MethodName} {bytes : ByteArray} {maxL : Nat} {ret : Option FieldType} (hown : s.vm.findClass own = some m.cls) (wl : (Jvm.Cond.methodLink own index y).before a0 Z = true) (wst : (Jvm.Cond.static y).before a0 Z = true) (wi : (Jvm.Cond.initialized y.cls).before a0 Z = true) (wc : (Jvm.Cond.code y bytes maxL ret).before a0 Z = true)
    (hy : y.cls ≠ "java/lang/invoke/MethodHandle" ∧ y.cls ≠ "java/lang/invoke/VarHandle") {rm : Room} {argsL rest : List Value} {Qf : Option Value → Heap → Prop} (hM : own_Con l Z y bytes maxL ret [] rm argsL.toArray h n0 Qf) {W : Nat} (hfr : rm.frames + 1 ≤ R.frames) (hlo : W + (maxL + 11) + rm.locals ≤ R.locals) (hc : k + rm.cells ≤ R.cells) (hsl : n + rm.slots ≤ R.slots)
    {g : JFrame} (hg : g.method = m) (hsize : g.locals.size = c.maxLocals) (hlen : ∀ sig, parseMethodDescriptor y.desc = some sig → argsL.length = sig.parameters.length) (hs : g.stack = argsL.reverse ++ rest) (hW : 2 * g.monitorRoom + (rest.map fun v => v.category).sum ≤ W) (hd : decode c.code g.pc = .ok (.invokestatic index, 3))
    (K : ∀ T' h' v, own_S p l e R s m args below meth c n0 T' h' (k + rm.cells) (n + rm.slots) → Qf v h' → own_Ends p.tables e below P (T'.setTop { g with pc := g.pc + 3, stack := v.toList ++ rest })) : own_Ends p.tables e below P (T.setTop g) := by
  obtain ⟨locs, X, e1, N⟩ := Y
  obtain ⟨v, vm1, ⟨T', L', k', n'⟩, -, X', ⟨L, hQ, l1, y1, z1⟩, st⟩ := Jvm.LawKit.callS X hx hown (mvT hZ wl) (mvT hZ wst) (mvT hZ wi) (mvT hZ wc) hy (backOf (W := W) (Q := fun v h L => Fr n0 L ∧ Qf v h) hM hZ wc wi hfr hlo) hg hsize hlen hs hW hd (fun _ _ => ⟨rfl, e1, hc, hsl⟩)
  dsimp only [Pt.U, Pt.locs, Pt.cells, Pt.slots] at X' l1 y1 z1 st hQ
  subst l1 y1 z1
  exact own_st st (K T' _ v ⟨_, X', rfl, Fr.app N hQ.1⟩ hQ.2)
theorem own_callN (Y : own_S p l e R s m args below meth c n0 T h k n) (hx : p.tables.exec = Jvm.exec) (hZ : Z.Warmed39 s.vm) {own : String} {index : Nat} {y : MethodName} {bytes : ByteArray} {maxL : Nat} (hy1 : y.name = "<init>") (hown : s.vm.findClass own = some m.cls) (wl : (Jvm.Cond.methodLink own index y).before a0 Z = true) (win : (Jvm.Cond.instanceMethod y).before a0 Z = true) (wi : (Jvm.Cond.initialized y.cls).before a0 Z = true) (wc : (Jvm.Cond.code y bytes maxL none).before a0 Z = true)
    (hy : y.cls ≠ "java/lang/invoke/MethodHandle" ∧ y.cls ≠ "java/lang/invoke/VarHandle") {rm : Room} {a : Addr} {argsL rest : List Value} {Qf : Option Value → Heap → Prop} (hM : own_Con l Z y bytes maxL none [] rm (.ref a :: argsL).toArray h n0 Qf) {W : Nat} (hfr : rm.frames + 1 ≤ R.frames) (hlo : W + (maxL + 11) + rm.locals ≤ R.locals) (hc : k + rm.cells ≤ R.cells) (hsl : n + rm.slots ≤ R.slots)
    {g : JFrame} (hg : g.method = m) (hsize : g.locals.size = c.maxLocals) (hlen : ∀ sig, parseMethodDescriptor y.desc = some sig → argsL.length = sig.parameters.length) (hs : g.stack = argsL.reverse ++ .ref a :: rest) (hW : 2 * g.monitorRoom + (rest.map fun v => v.category).sum ≤ W) (hd : decode c.code g.pc = .ok (.invokespecial index, 3))
    (K : ∀ T' h' v, own_S p l e R s m args below meth c n0 T' h' (k + rm.cells) (n + rm.slots) → Qf v h' → own_Ends p.tables e below P (T'.setTop { g with pc := g.pc + 3, stack := v.toList ++ rest })) : own_Ends p.tables e below P (T.setTop g) := by
  obtain ⟨locs, X, e1, N⟩ := Y
  obtain ⟨v, vm1, ⟨T', L', k', n'⟩, -, X', ⟨L, hQ, l1, y1, z1⟩, st⟩ := X.specialBack hx hy1 hown (mvT hZ wl) (mvT hZ win) (mvT hZ wc) hy (backOf (W := W) (Q := fun v h L => Fr n0 L ∧ Qf v h) hM hZ wc wi hfr hlo) hg hsize (Steps.refl _) hlen hs hW hd (fun _ _ => ⟨rfl, e1, hc, hsl⟩)
  dsimp only [Pt.U, Pt.locs, Pt.cells, Pt.slots] at X' l1 y1 z1 st hQ
  subst l1 y1 z1
  exact own_st (fun t q => st.trans q) (K T' _ v ⟨_, X', rfl, Fr.app N hQ.1⟩ hQ.2)
theorem own_callV (Y : own_S p l e R s m args below meth c n0 T h k n) (hx : p.tables.exec = Jvm.exec) (hZ : Z.Warmed39 s.vm) {own C : String} {index : Nat} {y z : MethodName} {bytes : ByteArray} {maxL : Nat} {ret : Option FieldType} (hown : s.vm.findClass own = some m.cls) (wl : (Jvm.Cond.methodLink own index y).before a0 Z = true) (wd : (Jvm.Cond.declares y).before a0 Z = true) (hnf : NotFace s y) (wse : (Jvm.Cond.selects C y z).before a0 Z = true) (win : (Jvm.Cond.instanceMethod z).before a0 Z = true) (wi : (Jvm.Cond.initialized z.cls).before a0 Z = true) (wc : (Jvm.Cond.code z bytes maxL ret).before a0 Z = true)
    (hy : y.cls ≠ "java/lang/invoke/MethodHandle" ∧ y.cls ≠ "java/lang/invoke/VarHandle") {rm : Room} {a : Addr} (E : Exa Z h a C) {argsL rest : List Value} {Qf : Option Value → Heap → Prop} (hM : own_Con l Z z bytes maxL ret [] rm (.ref a :: argsL).toArray h n0 Qf) {W : Nat} (hfr : rm.frames + 1 ≤ R.frames) (hlo : W + (maxL + 11) + rm.locals ≤ R.locals) (hc : k + rm.cells ≤ R.cells) (hsl : n + rm.slots ≤ R.slots)
    {g : JFrame} (hg : g.method = m) (hsize : g.locals.size = c.maxLocals) (hlen : ∀ sig, parseMethodDescriptor y.desc = some sig → argsL.length = sig.parameters.length) (hs : g.stack = argsL.reverse ++ .ref a :: rest) (hW : 2 * g.monitorRoom + (rest.map fun v => v.category).sum ≤ W) (hd : decode c.code g.pc = .ok (.invokevirtual index, 3))
    (K : ∀ T' h' v, own_S p l e R s m args below meth c n0 T' h' (k + rm.cells) (n + rm.slots) → Qf v h' → own_Ends p.tables e below P (T'.setTop { g with pc := g.pc + 3, stack := v.toList ++ rest })) : own_Ends p.tables e below P (T.setTop g) := by
  obtain ⟨locs, X, e1, N⟩ := Y
  obtain ⟨cq, kq, qa, qb, qc⟩ := isOf hZ e1 E
  obtain ⟨v, vm1, ⟨T', L', k', n'⟩, -, X', ⟨L, hQ, l1, y1, z1⟩, st⟩ := X.virtualBack hx hown (mvT hZ wl) (mvT hZ wd) hnf (mvT hZ wse) (mvT hZ win) hy (backOf (W := W) (Q := fun v h L => Fr n0 L ∧ Qf v h) hM hZ wc wi hfr hlo) qa qc hg hsize (Steps.refl _) hlen hs hW hd (fun _ _ => ⟨rfl, e1, hc, hsl⟩)
  dsimp only [Pt.U, Pt.locs, Pt.cells, Pt.slots] at X' l1 y1 z1 st hQ
  subst l1 y1 z1
  exact own_st (fun t q => st.trans q) (K T' _ v ⟨_, X', rfl, Fr.app N hQ.1⟩ hQ.2)
theorem own_callU (Y : own_S p l e R s m args below meth c n0 T h k n) (hx : p.tables.exec = Jvm.exec) (hZ : Z.Warmed39 s.vm) {own C owner : String} {index : Nat} {y z : MethodName} {bytes : ByteArray} {maxL : Nat} {ret : Option FieldType} (hown : s.vm.findClass own = some m.cls) (wl : (Jvm.Cond.methodLink own index y).before a0 Z = true) (wsm : (Jvm.Cond.sameMethod y.cls owner y.name y.desc).before a0 Z = true) (wd : (Jvm.Cond.declares ⟨owner, y.name, y.desc⟩).before a0 Z = true) (wse : (Jvm.Cond.selects C y z).before a0 Z = true) (win : (Jvm.Cond.instanceMethod z).before a0 Z = true) (wi : (Jvm.Cond.initialized z.cls).before a0 Z = true) (wc : (Jvm.Cond.code z bytes maxL ret).before a0 Z = true)
    (hy : owner ≠ "java/lang/invoke/MethodHandle" ∧ owner ≠ "java/lang/invoke/VarHandle") {rm : Room} {a : Addr} (E : Exa Z h a C) {argsL rest : List Value} {Qf : Option Value → Heap → Prop} (hM : own_Con l Z z bytes maxL ret [] rm (.ref a :: argsL).toArray h n0 Qf) {W : Nat} (hfr : rm.frames + 1 ≤ R.frames) (hlo : W + (maxL + 11) + rm.locals ≤ R.locals) (hc : k + rm.cells ≤ R.cells) (hsl : n + rm.slots ≤ R.slots)
    {g : JFrame} (hg : g.method = m) (hsize : g.locals.size = c.maxLocals) (hlen : ∀ sig, parseMethodDescriptor y.desc = some sig → argsL.length = sig.parameters.length) (hs : g.stack = argsL.reverse ++ .ref a :: rest) (hW : 2 * g.monitorRoom + (rest.map fun v => v.category).sum ≤ W) (hd : decode c.code g.pc = .ok (.invokevirtual index, 3))
    (K : ∀ T' h' v, own_S p l e R s m args below meth c n0 T' h' (k + rm.cells) (n + rm.slots) → Qf v h' → own_Ends p.tables e below P (T'.setTop { g with pc := g.pc + 3, stack := v.toList ++ rest })) : own_Ends p.tables e below P (T.setTop g) := by
  obtain ⟨locs, X, e1, N⟩ := Y
  obtain ⟨cq, kq, qa, qb, qc⟩ := isOf hZ e1 E
  obtain ⟨v, vm1, ⟨T', L', k', n'⟩, -, X', ⟨L, hQ, l1, y1, z1⟩, st⟩ := X.virtualBackUp hx hown (mvT hZ wl) (mvT hZ wsm) (mvT hZ wd) hy (mvT hZ wse) (mvT hZ win) (backOf (W := W) (Q := fun v h L => Fr n0 L ∧ Qf v h) hM hZ wc wi hfr hlo) qa qc hg hsize (Steps.refl _) hlen hs hW hd (fun _ _ => ⟨rfl, e1, hc, hsl⟩)
  dsimp only [Pt.U, Pt.locs, Pt.cells, Pt.slots] at X' l1 y1 z1 st hQ
  subst l1 y1 z1
  exact own_st (fun t q => st.trans q) (K T' _ v ⟨_, X', rfl, Fr.app N hQ.1⟩ hQ.2)
theorem own_callP (Y : own_S p l e R s m args below meth c n0 T h k n) (hx : p.tables.exec = Jvm.exec) (hZ : Z.Warmed39 s.vm) {own C : String} {index : Nat} {y : MethodName} {bytes : ByteArray} {maxL : Nat} {ret : Option FieldType} (hown : s.vm.findClass own = some m.cls) (wl : (Jvm.Cond.methodLink own index y).before a0 Z = true) {nn : Nat} (win : (Jvm.Cond.instanceMethod y).before a0 Z = true) (wn : (Jvm.Cond.instantiable y.cls nn).before a0 Z = true) (wp : (Jvm.Cond.privateMethod y).before a0 Z = true) (wi : (Jvm.Cond.initialized y.cls).before a0 Z = true) (wc : (Jvm.Cond.code y bytes maxL ret).before a0 Z = true)
    (hy : y.cls ≠ "java/lang/invoke/MethodHandle" ∧ y.cls ≠ "java/lang/invoke/VarHandle") {rm : Room} {a : Addr} (E : Exa Z h a C) {argsL rest : List Value} {Qf : Option Value → Heap → Prop} (hM : own_Con l Z y bytes maxL ret [] rm (.ref a :: argsL).toArray h n0 Qf) {W : Nat} (hfr : rm.frames + 1 ≤ R.frames) (hlo : W + (maxL + 11) + rm.locals ≤ R.locals) (hc : k + rm.cells ≤ R.cells) (hsl : n + rm.slots ≤ R.slots)
    {g : JFrame} (hg : g.method = m) (hsize : g.locals.size = c.maxLocals) (hlen : ∀ sig, parseMethodDescriptor y.desc = some sig → argsL.length = sig.parameters.length) (hs : g.stack = argsL.reverse ++ .ref a :: rest) (hW : 2 * g.monitorRoom + (rest.map fun v => v.category).sum ≤ W) (hd : decode c.code g.pc = .ok (.invokevirtual index, 3))
    (K : ∀ T' h' v, own_S p l e R s m args below meth c n0 T' h' (k + rm.cells) (n + rm.slots) → Qf v h' → own_Ends p.tables e below P (T'.setTop { g with pc := g.pc + 3, stack := v.toList ++ rest })) : own_Ends p.tables e below P (T.setTop g) := by
  obtain ⟨locs, X, e1, N⟩ := Y
  obtain ⟨cell, q, q'⟩ := E.cell
  have wn' : (Jvm.Cond.instantiable y.cls nn).before #[] s = true := mvT hZ wn
  obtain ⟨ci, ki, hi1, hi2, -, hi4, -⟩ := Cond.instantiable_spec wn'
  have wse : (Jvm.Cond.selects y.cls y y).before args s = true := selects_self_of_private hi1 hi2 (by simpa using (Bool.or_eq_false_iff.mp hi4).1) (Cond.privateMethod_at (mvP hZ wp (args := #[]))) (mvT hZ win) hy
  obtain ⟨v, vm1, ⟨T', L', k', n'⟩, -, X', ⟨L, hQ, l1, y1, z1⟩, st⟩ := X.privateBack hx hown (mvT hZ wl) (mvT hZ win) wse (Cond.privateMethod_at (mvP hZ wp (args := #[]))) (mvT hZ wc) hy (backOf (W := W) (Q := fun v h L => Fr n0 L ∧ Qf v h) hM hZ wc wi hfr hlo) hg hsize (Steps.refl _) (by rw [e1]; exact q) q' hlen hs hW hd (fun _ _ => ⟨rfl, e1, hc, hsl⟩)
  dsimp only [Pt.U, Pt.locs, Pt.cells, Pt.slots] at X' l1 y1 z1 st hQ
  subst l1 y1 z1
  exact own_st (fun t q => st.trans q) (K T' _ v ⟨_, X', rfl, Fr.app N hQ.1⟩ hQ.2)
end OwnLayer
section OwnNums
def own_b (b : Bool) : Int32 := if b then 1 else 0
theorem own_b_t {b : Bool} (h : b = true) : own_b b = 1 := by subst h; rfl
theorem own_b_f {b : Bool} (h : b = false) : own_b b = 0 := by subst h; rfl
theorem own_b_0 (b : Bool) : own_b b = 0 ↔ b = false := by cases b <;> simp [own_b]
theorem own_b_n (b : Bool) : nar .boolean (own_b b) = own_b b := by cases b <;> rfl
theorem own_b_inj {a b : Bool} : own_b a = own_b b ↔ a = b := by cases a <;> cases b <;> simp [own_b]
theorem own_idx {j : Int32} {n : Nat} (h0 : 0 ≤ j.toInt) (h1 : j.toInt < (n : Int)) : ¬ j < 0 ∧ j.toNatClampNeg < n := by
  refine ⟨?_, ?_⟩
  · rw [Int32.lt_iff_toInt_lt]; show ¬ j.toInt < 0; omega
  · show j.toInt.toNat < n; omega
theorem own_ints {xs : List Int32} {i : Nat} (h : i < xs.length) : ∃ d, (xs.map Value.int)[i]? = some (.int d) ∧ d = xs[i] := ⟨xs[i], by simp [h], rfl⟩
theorem own_longs {xs : List Int64} {i : Nat} (h : i < xs.length) : ∃ d, (xs.map Value.long)[i]? = some (.long d) ∧ d = xs[i] := ⟨xs[i], by simp [h], rfl⟩
/-- p i, p (i + 1), .., k of them, all hold -/
def own_all (p : Nat → Bool) : Nat → Nat → Bool
  | _, 0 => true
  | i, k + 1 => p i && own_all p (i + 1) k
def own_g (xs : List Int32) (i : Nat) : Int32 := xs.getD i 0
theorem own_mget {xs : List Int32} {i : Nat} (h : i < (xs.map Value.int).length) : (xs.map Value.int)[i]? = some (.int (own_g xs i)) := by
  have h' : i < xs.length := by simpa using h
  simp [h', own_g]
theorem own_mlen {xs : List Int32} {i : Nat} (h : i < xs.length) : i < (xs.map Value.int).length := by simpa using h
theorem own_nat {j : Int32} {i : Nat} (h : j.toInt = (i : Int)) : ¬ j < 0 ∧ j.toNatClampNeg = i := by
  refine ⟨?_, ?_⟩
  · rw [Int32.lt_iff_toInt_lt]; show ¬ j.toInt < 0; omega
  · show j.toInt.toNat = i; omega
theorem own_inc {j : Int32} {i : Nat} (h : j.toInt = (i : Int)) (hi : i + 1 < 2147483648) : (j + 1).toInt = ((i + 1 : Nat) : Int) := by
  have := c_iadd j 1
  have h1 : (1 : Int32).toInt = 1 := rfl
  have := rng32 (j + 1)
  omega
theorem own_lt {x y : Int32} : x < y ↔ x.toInt < y.toInt := Int32.lt_iff_toInt_lt
theorem own_eq {x y : Int32} : x = y ↔ x.toInt = y.toInt := Int32.toInt_inj.symm
theorem own_tolen {ys : List Int32} {z : Int32} (h : z.toInt = (ys.length : Int)) : (ys.map Value.int).length.toInt32 = z := by
  have q := rng32 z
  have e : (ys.map Value.int).length = ys.length := by simp
  rw [own_eq, len_toInt (by rw [e]; omega), e, h]
theorem own_add {x y : Int32} {a b : Nat} (h1 : x.toInt = (a : Int)) (h2 : y.toInt = (b : Int)) (hi : a + b < 2147483648) : (x + y).toInt = ((a + b : Nat) : Int) := by
  have := c_iadd x y
  have := rng32 (x + y)
  omega
theorem own_sub {x y : Int32} {a b : Nat} (h1 : x.toInt = (a : Int)) (h2 : y.toInt = (b : Int)) : (x - y).toInt = (a : Int) - (b : Int) := by
  have := c_isub x y
  have := rng32 (x - y)
  have := rng32 x
  have := rng32 y
  omega
end OwnNums
section OwnStart
theorem own_fldI {args : Array Value} {s : State} {t : Term} {C f d : String} {z : Int32} {a : Addr} (ev : t.eval args s none [] s = some (.ref a)) (h : (Jvm.Cond.eq (Jvm.Term.field t C f d) (Jvm.Term.int z)).value args s none s [] = some true) : Fld s s.heap a C f d (.int z) := by
  obtain ⟨x, y, h1, h2, -, -⟩ := cmp_v (Or.inl h)
  have e1 : (Term.field t C f d).eval args s none [] s = s.fieldOf? a C f d := fld_at ev
  have h3 : s.fieldOf? a C f d = some x := e1.symm.trans h1
  have hy : y = .int z := (Option.some.inj h2).symm
  subst hy
  cases x <;> simp [Cond.value, h1, h2] at h
  subst h
  exact Fld.start h3
theorem own_static {args : Array Value} {s : State} {C f d K : String} (h : (Jvm.Cond.exactly (Jvm.Term.static C f d) K).value args s none s [] = some true) (w1 : (Jvm.Cond.initialized C).before args s = true) (w2 : (Jvm.Cond.laysStatic C f d).before args s = true) : ∃ a, (Jvm.Term.static C f d).eval args s none [] s = some (.ref a) ∧ Sta s s.heap C f d (.ref a) ∧ Exa s s.heap a K := by
  obtain ⟨a, ev⟩ := exa_v h
  exact ⟨a, ev, Sta.start ev (Or.inr ⟨w1, w2⟩), Exa.start ev h⟩
end OwnStart
theorem own_pn0 : plainName "java/lang/Enum" = true := by first | (simp [plainName, overriddenIn]; done) | decide +kernel
theorem own_d2_0 : decode jdk_37_method_2_code 0 = .ok (.aload_n 0, 1) := by decide +kernel
theorem own_d2_1 : decode jdk_37_method_2_code 1 = .ok (.getfield 7, 3) := by decide +kernel
theorem own_d2_4 : decode jdk_37_method_2_code 4 = .ok (.ireturn, 1) := by decide +kernel
theorem own_ef_own_rm2 (m : MethodId) (r0 : Addr) : entryFrame m #[(.ref r0)] 1 = mkF m 0 #[.val (.ref r0)] [] := by first | (simp [entryFrame, mkF, argsToLocals, Value.category]; done) | rfl
def own_Q_own_rm2 (Z : State) (w : Int32) (h0 : Heap) (n0 : Nat) (v : Option Value) (h : Heap) : Prop := v = some (.int w) ∧ h0 = h
set_option maxRecDepth 65536 in
set_option maxHeartbeats 40000000 in
theorem own_rm2 (l : Launch) (Z : State) (a0 : Array Value) (hw : ∀ d ∈ tables_1, d.before a0 Z = true) (ws : List Jvm.Cond) (r0 : Addr) (w : Int32) (h0 : Heap) (n0 : Nat)  (F : Fld Z h0 r0 "java/lang/Enum" "ordinal" "I" (.int w)) :
    own_Con l Z (⟨"java/lang/Enum", "ordinal", "()I"⟩ : MethodName) jdk_37_method_2_code 1 (some .int) ws ({ frames := 0, cells := 0, slots := 0, locals := 0 } : Room) #[(.ref r0)] h0 n0 (own_Q_own_rm2 Z w h0 n0) := by
  refine own_body (plainFor_of_name own_pn0) ?_
  intro p e s m below meth c T0 hx hZ hby hml hown hnm hret hlk Y0
  replace hown : s.vm.findClass "java/lang/Enum" = some m.cls := hown
  replace hnm : meth.name = "ordinal" := hnm
  rw [own_ef_own_rm2 m r0]
  show own_Ends _ _ _ _ (T0.setTop (mkF m 0 #[.val (.ref r0)] []))
  refine own_st (fun t_ => XS.aloadN (own_here Y0) hx rfl (hb hby own_d2_0) rfl rfl) ?_
  show own_Ends _ _ _ _ (T0.setTop (mkF m 1 #[.val (.ref r0)] [(.ref r0)]))
  refine own_getF Y0 hx hZ hown (host := "") (Or.inl (hw _ (List.mem_of_getElem? (i := 15) rfl))) Via.refl F rfl rfl (hb hby own_d2_1) (fun T1 Y2 => ?_)
  show own_Ends _ _ _ _ (T1.setTop (mkF m 4 #[.val (.ref r0)] [(.int w)]))
  refine own_retI Y2 hx hlk hret (hb hby own_d2_4) (by decide) (by decide) ?_
  exact ⟨rfl, rfl⟩
theorem own_pn1 : plainName "com/example/poset/poset/core/Formula$Relation" = true := by first | (simp [plainName, overriddenIn]; done) | decide +kernel
theorem own_pd0 : parseMethodDescriptor "()I" = some ⟨[], some .int⟩ := by decide +kernel
theorem own_d1_0 : decode prog_38_method_5_code 0 = .ok (.aload_n 0, 1) := by decide +kernel
theorem own_d1_1 : decode prog_38_method_5_code 1 = .ok (.invokevirtual 45, 3) := by decide +kernel
theorem own_d1_4 : decode prog_38_method_5_code 4 = .ok (.tableswitch 40 0 5 #[50, 62, 74, 86, 98, 110], 40) := by decide +kernel
theorem own_d1_54 : decode prog_38_method_5_code 54 = .ok (.iload_n 1, 1) := by decide +kernel
theorem own_d1_55 : decode prog_38_method_5_code 55 = .ok (.ifCond .ge 7, 3) := by decide +kernel
theorem own_d1_58 : decode prog_38_method_5_code 58 = .ok (.iconst 1, 1) := by decide +kernel
theorem own_d1_59 : decode prog_38_method_5_code 59 = .ok (.goto 64, 3) := by decide +kernel
theorem own_d1_123 : decode prog_38_method_5_code 123 = .ok (.ireturn, 1) := by decide +kernel
theorem own_d1_62 : decode prog_38_method_5_code 62 = .ok (.iconst 0, 1) := by decide +kernel
theorem own_d1_63 : decode prog_38_method_5_code 63 = .ok (.goto 60, 3) := by decide +kernel
theorem own_ef_own_rm1_0 (m : MethodId) (r0 : Addr) (x1 : Int32) : entryFrame m #[(.ref r0), (.int x1)] 2 = mkF m 0 #[.val (.ref r0), .val (.int x1)] [] := by first | (simp [entryFrame, mkF, argsToLocals, Value.category]; done) | rfl
def own_Q_own_rm1_0 (Z : State) (r0 : Addr) (x1 : Int32) (h0 : Heap) (n0 : Nat) (v : Option Value) (h : Heap) : Prop := v = some (.int (own_b (decide (x1 < 0)))) ∧ h0 = h
set_option maxRecDepth 65536 in
set_option maxHeartbeats 40000000 in
theorem own_rm1_0 (l : Launch) (Z : State) (a0 : Array Value) (hw : ∀ d ∈ tables_1, d.before a0 Z = true) (ws : List Jvm.Cond) (r0 : Addr) (x1 : Int32)  (h0 : Heap) (n0 : Nat)  (E : Exa Z h0 r0 "com/example/poset/poset/core/Formula$Relation") (F : Fld Z h0 r0 "java/lang/Enum" "ordinal" "I" (.int 0)) :
    own_Con l Z (⟨"com/example/poset/poset/core/Formula$Relation", "holds", "(I)Z"⟩ : MethodName) prog_38_method_5_code 2 (some .boolean) ws ({ frames := 1, cells := 0, slots := 0, locals := 12 } : Room) #[(.ref r0), (.int x1)] h0 n0 (own_Q_own_rm1_0 Z r0 x1 h0 n0) := by
  refine own_body (plainFor_of_name own_pn1) ?_
  intro p e s m below meth c T0 hx hZ hby hml hown hnm hret hlk Y0
  replace hown : s.vm.findClass "com/example/poset/poset/core/Formula$Relation" = some m.cls := hown
  replace hnm : meth.name = "holds" := hnm
  rw [own_ef_own_rm1_0 m r0 x1]
  show own_Ends _ _ _ _ (T0.setTop (mkF m 0 #[.val (.ref r0), .val (.int x1)] []))
  refine own_st (fun t_ => XS.aloadN (own_here Y0) hx rfl (hb hby own_d1_0) rfl rfl) ?_
  show own_Ends _ _ _ _ (T0.setTop (mkF m 1 #[.val (.ref r0), .val (.int x1)] [(.ref r0)]))
  refine own_callU Y0 hx hZ (owner := "java/lang/Enum") (y := (⟨"com/example/poset/poset/core/Formula$Relation", "ordinal", "()I"⟩ : MethodName)) (z := (⟨"java/lang/Enum", "ordinal", "()I"⟩ : MethodName)) hown (hw _ (List.mem_of_getElem? (i := 8) rfl)) (hw _ (List.mem_of_getElem? (i := 9) rfl)) (hw _ (List.mem_of_getElem? (i := 10) rfl)) (hw _ (List.mem_of_getElem? (i := 12) rfl)) (hw _ (List.mem_of_getElem? (i := 11) rfl)) (hw _ (List.mem_of_getElem? (i := 13) rfl)) (hw _ (List.mem_of_getElem? (i := 14) rfl)) (by decide) (a := r0) E (argsL := []) (rest := []) (own_rm2 l Z a0 hw [] r0 (0 : Int32) h0 n0  F) (W := 0) (by decide) (by decide) (by decide) (by decide) rfl (by rw [hml]; rfl) (lenOf own_pd0 rfl) rfl (by show 2 * 0 + _ ≤ _; exact Nat.le_of_eq rfl) (hb hby own_d1_1) (fun T3 h5 v6 Y4 q7 => ?_)
  obtain ⟨rfl, rfl⟩ := q7
  show own_Ends _ _ _ _ (T3.setTop (mkF m 4 #[.val (.ref r0), .val (.int x1)] [(.int (0 : Int32))]))
  refine own_st (fun t_ hr => XS.tswIn (own_here Y4) hx rfl (i := (0 : Int32)) (o := 50) (pc0 := 4) (pc' := 54) rfl (hb hby own_d1_4) rfl (by decide) (by decide) (by decide) (by decide) hr) ?_
  show own_Ends _ _ _ _ (T3.setTop (mkF m 54 #[.val (.ref r0), .val (.int x1)] []))
  refine own_st (fun t_ => XS.iloadN (own_here Y4) hx rfl (hb hby own_d1_54) rfl) ?_
  show own_Ends _ _ _ _ (T3.setTop (mkF m 55 #[.val (.ref r0), .val (.int x1)] [(.int x1)]))
  by_cases c55_8 : x1 < (0 : Int32)
  ·
   refine own_st (fun t_ => XS.ifNo (own_here Y4) hx rfl (hb hby own_d1_55) rfl (XT.i0_ge_f c55_8)) ?_
   show own_Ends _ _ _ _ (T3.setTop (mkF m 58 #[.val (.ref r0), .val (.int x1)] []))
   refine own_st (fun t_ => XS.iconst (own_here Y4) hx rfl (hb hby own_d1_58) ) ?_
   show own_Ends _ _ _ _ (T3.setTop (mkF m 59 #[.val (.ref r0), .val (.int x1)] [(.int (1 : Int32))]))
   refine own_st (fun t_ => XS.goto (own_here Y4) hx rfl (pc0 := 59) (pc' := 123) rfl (hb hby own_d1_59) (by decide) (by decide)) ?_
   show own_Ends _ _ _ _ (T3.setTop (mkF m 123 #[.val (.ref r0), .val (.int x1)] [(.int (1 : Int32))]))
   refine own_retN Y4 hx hlk (t := .boolean) hret (by simp) (hb hby own_d1_123) (by decide) (by decide) ?_
   exact ⟨by simp [nar, own_b, c55_8], rfl⟩
  ·
   refine own_st (fun t_ => XS.ifYes (own_here Y4) hx rfl (pc0 := 55) (pc' := 62) rfl (hb hby own_d1_55) rfl (XT.i0_ge_t c55_8) (by decide) (by decide)) ?_
   show own_Ends _ _ _ _ (T3.setTop (mkF m 62 #[.val (.ref r0), .val (.int x1)] []))
   refine own_st (fun t_ => XS.iconst (own_here Y4) hx rfl (hb hby own_d1_62) ) ?_
   show own_Ends _ _ _ _ (T3.setTop (mkF m 63 #[.val (.ref r0), .val (.int x1)] [(.int (0 : Int32))]))
   refine own_st (fun t_ => XS.goto (own_here Y4) hx rfl (pc0 := 63) (pc' := 123) rfl (hb hby own_d1_63) (by decide) (by decide)) ?_
   show own_Ends _ _ _ _ (T3.setTop (mkF m 123 #[.val (.ref r0), .val (.int x1)] [(.int (0 : Int32))]))
   refine own_retN Y4 hx hlk (t := .boolean) hret (by simp) (hb hby own_d1_123) (by decide) (by decide) ?_
   exact ⟨by simp [nar, own_b, c55_8], rfl⟩
theorem own_d1_66 : decode prog_38_method_5_code 66 = .ok (.iload_n 1, 1) := by decide +kernel
theorem own_d1_67 : decode prog_38_method_5_code 67 = .ok (.ifCond .gt 7, 3) := by decide +kernel
theorem own_d1_74 : decode prog_38_method_5_code 74 = .ok (.iconst 0, 1) := by decide +kernel
theorem own_d1_75 : decode prog_38_method_5_code 75 = .ok (.goto 48, 3) := by decide +kernel
theorem own_d1_70 : decode prog_38_method_5_code 70 = .ok (.iconst 1, 1) := by decide +kernel
theorem own_d1_71 : decode prog_38_method_5_code 71 = .ok (.goto 52, 3) := by decide +kernel
theorem own_ef_own_rm1_1 (m : MethodId) (r0 : Addr) (x1 : Int32) : entryFrame m #[(.ref r0), (.int x1)] 2 = mkF m 0 #[.val (.ref r0), .val (.int x1)] [] := by first | (simp [entryFrame, mkF, argsToLocals, Value.category]; done) | rfl
def own_Q_own_rm1_1 (Z : State) (r0 : Addr) (x1 : Int32) (h0 : Heap) (n0 : Nat) (v : Option Value) (h : Heap) : Prop := v = some (.int (own_b (!decide (0 < x1)))) ∧ h0 = h
set_option maxRecDepth 65536 in
set_option maxHeartbeats 40000000 in
theorem own_rm1_1 (l : Launch) (Z : State) (a0 : Array Value) (hw : ∀ d ∈ tables_1, d.before a0 Z = true) (ws : List Jvm.Cond) (r0 : Addr) (x1 : Int32)  (h0 : Heap) (n0 : Nat)  (E : Exa Z h0 r0 "com/example/poset/poset/core/Formula$Relation") (F : Fld Z h0 r0 "java/lang/Enum" "ordinal" "I" (.int 1)) :
    own_Con l Z (⟨"com/example/poset/poset/core/Formula$Relation", "holds", "(I)Z"⟩ : MethodName) prog_38_method_5_code 2 (some .boolean) ws ({ frames := 1, cells := 0, slots := 0, locals := 12 } : Room) #[(.ref r0), (.int x1)] h0 n0 (own_Q_own_rm1_1 Z r0 x1 h0 n0) := by
  refine own_body (plainFor_of_name own_pn1) ?_
  intro p e s m below meth c T0 hx hZ hby hml hown hnm hret hlk Y0
  replace hown : s.vm.findClass "com/example/poset/poset/core/Formula$Relation" = some m.cls := hown
  replace hnm : meth.name = "holds" := hnm
  rw [own_ef_own_rm1_1 m r0 x1]
  show own_Ends _ _ _ _ (T0.setTop (mkF m 0 #[.val (.ref r0), .val (.int x1)] []))
  refine own_st (fun t_ => XS.aloadN (own_here Y0) hx rfl (hb hby own_d1_0) rfl rfl) ?_
  show own_Ends _ _ _ _ (T0.setTop (mkF m 1 #[.val (.ref r0), .val (.int x1)] [(.ref r0)]))
  refine own_callU Y0 hx hZ (owner := "java/lang/Enum") (y := (⟨"com/example/poset/poset/core/Formula$Relation", "ordinal", "()I"⟩ : MethodName)) (z := (⟨"java/lang/Enum", "ordinal", "()I"⟩ : MethodName)) hown (hw _ (List.mem_of_getElem? (i := 8) rfl)) (hw _ (List.mem_of_getElem? (i := 9) rfl)) (hw _ (List.mem_of_getElem? (i := 10) rfl)) (hw _ (List.mem_of_getElem? (i := 12) rfl)) (hw _ (List.mem_of_getElem? (i := 11) rfl)) (hw _ (List.mem_of_getElem? (i := 13) rfl)) (hw _ (List.mem_of_getElem? (i := 14) rfl)) (by decide) (a := r0) E (argsL := []) (rest := []) (own_rm2 l Z a0 hw [] r0 (1 : Int32) h0 n0  F) (W := 0) (by decide) (by decide) (by decide) (by decide) rfl (by rw [hml]; rfl) (lenOf own_pd0 rfl) rfl (by show 2 * 0 + _ ≤ _; exact Nat.le_of_eq rfl) (hb hby own_d1_1) (fun T9 h11 v12 Y10 q13 => ?_)
  obtain ⟨rfl, rfl⟩ := q13
  show own_Ends _ _ _ _ (T9.setTop (mkF m 4 #[.val (.ref r0), .val (.int x1)] [(.int (1 : Int32))]))
  refine own_st (fun t_ hr => XS.tswIn (own_here Y10) hx rfl (i := (1 : Int32)) (o := 62) (pc0 := 4) (pc' := 66) rfl (hb hby own_d1_4) rfl (by decide) (by decide) (by decide) (by decide) hr) ?_
  show own_Ends _ _ _ _ (T9.setTop (mkF m 66 #[.val (.ref r0), .val (.int x1)] []))
  refine own_st (fun t_ => XS.iloadN (own_here Y10) hx rfl (hb hby own_d1_66) rfl) ?_
  show own_Ends _ _ _ _ (T9.setTop (mkF m 67 #[.val (.ref r0), .val (.int x1)] [(.int x1)]))
  by_cases c67_14 : (0 : Int32) < x1
  ·
   refine own_st (fun t_ => XS.ifYes (own_here Y10) hx rfl (pc0 := 67) (pc' := 74) rfl (hb hby own_d1_67) rfl (XT.i0_gt_t c67_14) (by decide) (by decide)) ?_
   show own_Ends _ _ _ _ (T9.setTop (mkF m 74 #[.val (.ref r0), .val (.int x1)] []))
   refine own_st (fun t_ => XS.iconst (own_here Y10) hx rfl (hb hby own_d1_74) ) ?_
   show own_Ends _ _ _ _ (T9.setTop (mkF m 75 #[.val (.ref r0), .val (.int x1)] [(.int (0 : Int32))]))
   refine own_st (fun t_ => XS.goto (own_here Y10) hx rfl (pc0 := 75) (pc' := 123) rfl (hb hby own_d1_75) (by decide) (by decide)) ?_
   show own_Ends _ _ _ _ (T9.setTop (mkF m 123 #[.val (.ref r0), .val (.int x1)] [(.int (0 : Int32))]))
   refine own_retN Y10 hx hlk (t := .boolean) hret (by simp) (hb hby own_d1_123) (by decide) (by decide) ?_
   exact ⟨by simp [nar, own_b, c67_14], rfl⟩
  ·
   refine own_st (fun t_ => XS.ifNo (own_here Y10) hx rfl (hb hby own_d1_67) rfl (XT.i0_gt_f c67_14)) ?_
   show own_Ends _ _ _ _ (T9.setTop (mkF m 70 #[.val (.ref r0), .val (.int x1)] []))
   refine own_st (fun t_ => XS.iconst (own_here Y10) hx rfl (hb hby own_d1_70) ) ?_
   show own_Ends _ _ _ _ (T9.setTop (mkF m 71 #[.val (.ref r0), .val (.int x1)] [(.int (1 : Int32))]))
   refine own_st (fun t_ => XS.goto (own_here Y10) hx rfl (pc0 := 71) (pc' := 123) rfl (hb hby own_d1_71) (by decide) (by decide)) ?_
   show own_Ends _ _ _ _ (T9.setTop (mkF m 123 #[.val (.ref r0), .val (.int x1)] [(.int (1 : Int32))]))
   refine own_retN Y10 hx hlk (t := .boolean) hret (by simp) (hb hby own_d1_123) (by decide) (by decide) ?_
   exact ⟨by simp [nar, own_b, c67_14], rfl⟩
theorem own_d1_78 : decode prog_38_method_5_code 78 = .ok (.iload_n 1, 1) := by decide +kernel
theorem own_d1_79 : decode prog_38_method_5_code 79 = .ok (.ifCond .le 7, 3) := by decide +kernel
theorem own_d1_82 : decode prog_38_method_5_code 82 = .ok (.iconst 1, 1) := by decide +kernel
theorem own_d1_83 : decode prog_38_method_5_code 83 = .ok (.goto 40, 3) := by decide +kernel
theorem own_d1_86 : decode prog_38_method_5_code 86 = .ok (.iconst 0, 1) := by decide +kernel
theorem own_d1_87 : decode prog_38_method_5_code 87 = .ok (.goto 36, 3) := by decide +kernel
theorem own_ef_own_rm1_2 (m : MethodId) (r0 : Addr) (x1 : Int32) : entryFrame m #[(.ref r0), (.int x1)] 2 = mkF m 0 #[.val (.ref r0), .val (.int x1)] [] := by first | (simp [entryFrame, mkF, argsToLocals, Value.category]; done) | rfl
def own_Q_own_rm1_2 (Z : State) (r0 : Addr) (x1 : Int32) (h0 : Heap) (n0 : Nat) (v : Option Value) (h : Heap) : Prop := v = some (.int (own_b (decide (0 < x1)))) ∧ h0 = h
set_option maxRecDepth 65536 in
set_option maxHeartbeats 40000000 in
theorem own_rm1_2 (l : Launch) (Z : State) (a0 : Array Value) (hw : ∀ d ∈ tables_1, d.before a0 Z = true) (ws : List Jvm.Cond) (r0 : Addr) (x1 : Int32)  (h0 : Heap) (n0 : Nat)  (E : Exa Z h0 r0 "com/example/poset/poset/core/Formula$Relation") (F : Fld Z h0 r0 "java/lang/Enum" "ordinal" "I" (.int 2)) :
    own_Con l Z (⟨"com/example/poset/poset/core/Formula$Relation", "holds", "(I)Z"⟩ : MethodName) prog_38_method_5_code 2 (some .boolean) ws ({ frames := 1, cells := 0, slots := 0, locals := 12 } : Room) #[(.ref r0), (.int x1)] h0 n0 (own_Q_own_rm1_2 Z r0 x1 h0 n0) := by
  refine own_body (plainFor_of_name own_pn1) ?_
  intro p e s m below meth c T0 hx hZ hby hml hown hnm hret hlk Y0
  replace hown : s.vm.findClass "com/example/poset/poset/core/Formula$Relation" = some m.cls := hown
  replace hnm : meth.name = "holds" := hnm
  rw [own_ef_own_rm1_2 m r0 x1]
  show own_Ends _ _ _ _ (T0.setTop (mkF m 0 #[.val (.ref r0), .val (.int x1)] []))
  refine own_st (fun t_ => XS.aloadN (own_here Y0) hx rfl (hb hby own_d1_0) rfl rfl) ?_
  show own_Ends _ _ _ _ (T0.setTop (mkF m 1 #[.val (.ref r0), .val (.int x1)] [(.ref r0)]))
  refine own_callU Y0 hx hZ (owner := "java/lang/Enum") (y := (⟨"com/example/poset/poset/core/Formula$Relation", "ordinal", "()I"⟩ : MethodName)) (z := (⟨"java/lang/Enum", "ordinal", "()I"⟩ : MethodName)) hown (hw _ (List.mem_of_getElem? (i := 8) rfl)) (hw _ (List.mem_of_getElem? (i := 9) rfl)) (hw _ (List.mem_of_getElem? (i := 10) rfl)) (hw _ (List.mem_of_getElem? (i := 12) rfl)) (hw _ (List.mem_of_getElem? (i := 11) rfl)) (hw _ (List.mem_of_getElem? (i := 13) rfl)) (hw _ (List.mem_of_getElem? (i := 14) rfl)) (by decide) (a := r0) E (argsL := []) (rest := []) (own_rm2 l Z a0 hw [] r0 (2 : Int32) h0 n0  F) (W := 0) (by decide) (by decide) (by decide) (by decide) rfl (by rw [hml]; rfl) (lenOf own_pd0 rfl) rfl (by show 2 * 0 + _ ≤ _; exact Nat.le_of_eq rfl) (hb hby own_d1_1) (fun T15 h17 v18 Y16 q19 => ?_)
  obtain ⟨rfl, rfl⟩ := q19
  show own_Ends _ _ _ _ (T15.setTop (mkF m 4 #[.val (.ref r0), .val (.int x1)] [(.int (2 : Int32))]))
  refine own_st (fun t_ hr => XS.tswIn (own_here Y16) hx rfl (i := (2 : Int32)) (o := 74) (pc0 := 4) (pc' := 78) rfl (hb hby own_d1_4) rfl (by decide) (by decide) (by decide) (by decide) hr) ?_
  show own_Ends _ _ _ _ (T15.setTop (mkF m 78 #[.val (.ref r0), .val (.int x1)] []))
  refine own_st (fun t_ => XS.iloadN (own_here Y16) hx rfl (hb hby own_d1_78) rfl) ?_
  show own_Ends _ _ _ _ (T15.setTop (mkF m 79 #[.val (.ref r0), .val (.int x1)] [(.int x1)]))
  by_cases c79_20 : (0 : Int32) < x1
  ·
   refine own_st (fun t_ => XS.ifNo (own_here Y16) hx rfl (hb hby own_d1_79) rfl (XT.i0_le_f c79_20)) ?_
   show own_Ends _ _ _ _ (T15.setTop (mkF m 82 #[.val (.ref r0), .val (.int x1)] []))
   refine own_st (fun t_ => XS.iconst (own_here Y16) hx rfl (hb hby own_d1_82) ) ?_
   show own_Ends _ _ _ _ (T15.setTop (mkF m 83 #[.val (.ref r0), .val (.int x1)] [(.int (1 : Int32))]))
   refine own_st (fun t_ => XS.goto (own_here Y16) hx rfl (pc0 := 83) (pc' := 123) rfl (hb hby own_d1_83) (by decide) (by decide)) ?_
   show own_Ends _ _ _ _ (T15.setTop (mkF m 123 #[.val (.ref r0), .val (.int x1)] [(.int (1 : Int32))]))
   refine own_retN Y16 hx hlk (t := .boolean) hret (by simp) (hb hby own_d1_123) (by decide) (by decide) ?_
   exact ⟨by simp [nar, own_b, c79_20], rfl⟩
  ·
   refine own_st (fun t_ => XS.ifYes (own_here Y16) hx rfl (pc0 := 79) (pc' := 86) rfl (hb hby own_d1_79) rfl (XT.i0_le_t c79_20) (by decide) (by decide)) ?_
   show own_Ends _ _ _ _ (T15.setTop (mkF m 86 #[.val (.ref r0), .val (.int x1)] []))
   refine own_st (fun t_ => XS.iconst (own_here Y16) hx rfl (hb hby own_d1_86) ) ?_
   show own_Ends _ _ _ _ (T15.setTop (mkF m 87 #[.val (.ref r0), .val (.int x1)] [(.int (0 : Int32))]))
   refine own_st (fun t_ => XS.goto (own_here Y16) hx rfl (pc0 := 87) (pc' := 123) rfl (hb hby own_d1_87) (by decide) (by decide)) ?_
   show own_Ends _ _ _ _ (T15.setTop (mkF m 123 #[.val (.ref r0), .val (.int x1)] [(.int (0 : Int32))]))
   refine own_retN Y16 hx hlk (t := .boolean) hret (by simp) (hb hby own_d1_123) (by decide) (by decide) ?_
   exact ⟨by simp [nar, own_b, c79_20], rfl⟩
theorem own_d1_90 : decode prog_38_method_5_code 90 = .ok (.iload_n 1, 1) := by decide +kernel
theorem own_d1_91 : decode prog_38_method_5_code 91 = .ok (.ifCond .lt 7, 3) := by decide +kernel
theorem own_d1_98 : decode prog_38_method_5_code 98 = .ok (.iconst 0, 1) := by decide +kernel
theorem own_d1_99 : decode prog_38_method_5_code 99 = .ok (.goto 24, 3) := by decide +kernel
theorem own_d1_94 : decode prog_38_method_5_code 94 = .ok (.iconst 1, 1) := by decide +kernel
theorem own_d1_95 : decode prog_38_method_5_code 95 = .ok (.goto 28, 3) := by decide +kernel
theorem own_ef_own_rm1_3 (m : MethodId) (r0 : Addr) (x1 : Int32) : entryFrame m #[(.ref r0), (.int x1)] 2 = mkF m 0 #[.val (.ref r0), .val (.int x1)] [] := by first | (simp [entryFrame, mkF, argsToLocals, Value.category]; done) | rfl
def own_Q_own_rm1_3 (Z : State) (r0 : Addr) (x1 : Int32) (h0 : Heap) (n0 : Nat) (v : Option Value) (h : Heap) : Prop := v = some (.int (own_b (!decide (x1 < 0)))) ∧ h0 = h
set_option maxRecDepth 65536 in
set_option maxHeartbeats 40000000 in
theorem own_rm1_3 (l : Launch) (Z : State) (a0 : Array Value) (hw : ∀ d ∈ tables_1, d.before a0 Z = true) (ws : List Jvm.Cond) (r0 : Addr) (x1 : Int32)  (h0 : Heap) (n0 : Nat)  (E : Exa Z h0 r0 "com/example/poset/poset/core/Formula$Relation") (F : Fld Z h0 r0 "java/lang/Enum" "ordinal" "I" (.int 3)) :
    own_Con l Z (⟨"com/example/poset/poset/core/Formula$Relation", "holds", "(I)Z"⟩ : MethodName) prog_38_method_5_code 2 (some .boolean) ws ({ frames := 1, cells := 0, slots := 0, locals := 12 } : Room) #[(.ref r0), (.int x1)] h0 n0 (own_Q_own_rm1_3 Z r0 x1 h0 n0) := by
  refine own_body (plainFor_of_name own_pn1) ?_
  intro p e s m below meth c T0 hx hZ hby hml hown hnm hret hlk Y0
  replace hown : s.vm.findClass "com/example/poset/poset/core/Formula$Relation" = some m.cls := hown
  replace hnm : meth.name = "holds" := hnm
  rw [own_ef_own_rm1_3 m r0 x1]
  show own_Ends _ _ _ _ (T0.setTop (mkF m 0 #[.val (.ref r0), .val (.int x1)] []))
  refine own_st (fun t_ => XS.aloadN (own_here Y0) hx rfl (hb hby own_d1_0) rfl rfl) ?_
  show own_Ends _ _ _ _ (T0.setTop (mkF m 1 #[.val (.ref r0), .val (.int x1)] [(.ref r0)]))
  refine own_callU Y0 hx hZ (owner := "java/lang/Enum") (y := (⟨"com/example/poset/poset/core/Formula$Relation", "ordinal", "()I"⟩ : MethodName)) (z := (⟨"java/lang/Enum", "ordinal", "()I"⟩ : MethodName)) hown (hw _ (List.mem_of_getElem? (i := 8) rfl)) (hw _ (List.mem_of_getElem? (i := 9) rfl)) (hw _ (List.mem_of_getElem? (i := 10) rfl)) (hw _ (List.mem_of_getElem? (i := 12) rfl)) (hw _ (List.mem_of_getElem? (i := 11) rfl)) (hw _ (List.mem_of_getElem? (i := 13) rfl)) (hw _ (List.mem_of_getElem? (i := 14) rfl)) (by decide) (a := r0) E (argsL := []) (rest := []) (own_rm2 l Z a0 hw [] r0 (3 : Int32) h0 n0  F) (W := 0) (by decide) (by decide) (by decide) (by decide) rfl (by rw [hml]; rfl) (lenOf own_pd0 rfl) rfl (by show 2 * 0 + _ ≤ _; exact Nat.le_of_eq rfl) (hb hby own_d1_1) (fun T21 h23 v24 Y22 q25 => ?_)
  obtain ⟨rfl, rfl⟩ := q25
  show own_Ends _ _ _ _ (T21.setTop (mkF m 4 #[.val (.ref r0), .val (.int x1)] [(.int (3 : Int32))]))
  refine own_st (fun t_ hr => XS.tswIn (own_here Y22) hx rfl (i := (3 : Int32)) (o := 86) (pc0 := 4) (pc' := 90) rfl (hb hby own_d1_4) rfl (by decide) (by decide) (by decide) (by decide) hr) ?_
  show own_Ends _ _ _ _ (T21.setTop (mkF m 90 #[.val (.ref r0), .val (.int x1)] []))
  refine own_st (fun t_ => XS.iloadN (own_here Y22) hx rfl (hb hby own_d1_90) rfl) ?_
  show own_Ends _ _ _ _ (T21.setTop (mkF m 91 #[.val (.ref r0), .val (.int x1)] [(.int x1)]))
  by_cases c91_26 : x1 < (0 : Int32)
  ·
   refine own_st (fun t_ => XS.ifYes (own_here Y22) hx rfl (pc0 := 91) (pc' := 98) rfl (hb hby own_d1_91) rfl (XT.i0_lt_t c91_26) (by decide) (by decide)) ?_
   show own_Ends _ _ _ _ (T21.setTop (mkF m 98 #[.val (.ref r0), .val (.int x1)] []))
   refine own_st (fun t_ => XS.iconst (own_here Y22) hx rfl (hb hby own_d1_98) ) ?_
   show own_Ends _ _ _ _ (T21.setTop (mkF m 99 #[.val (.ref r0), .val (.int x1)] [(.int (0 : Int32))]))
   refine own_st (fun t_ => XS.goto (own_here Y22) hx rfl (pc0 := 99) (pc' := 123) rfl (hb hby own_d1_99) (by decide) (by decide)) ?_
   show own_Ends _ _ _ _ (T21.setTop (mkF m 123 #[.val (.ref r0), .val (.int x1)] [(.int (0 : Int32))]))
   refine own_retN Y22 hx hlk (t := .boolean) hret (by simp) (hb hby own_d1_123) (by decide) (by decide) ?_
   exact ⟨by simp [nar, own_b, c91_26], rfl⟩
  ·
   refine own_st (fun t_ => XS.ifNo (own_here Y22) hx rfl (hb hby own_d1_91) rfl (XT.i0_lt_f c91_26)) ?_
   show own_Ends _ _ _ _ (T21.setTop (mkF m 94 #[.val (.ref r0), .val (.int x1)] []))
   refine own_st (fun t_ => XS.iconst (own_here Y22) hx rfl (hb hby own_d1_94) ) ?_
   show own_Ends _ _ _ _ (T21.setTop (mkF m 95 #[.val (.ref r0), .val (.int x1)] [(.int (1 : Int32))]))
   refine own_st (fun t_ => XS.goto (own_here Y22) hx rfl (pc0 := 95) (pc' := 123) rfl (hb hby own_d1_95) (by decide) (by decide)) ?_
   show own_Ends _ _ _ _ (T21.setTop (mkF m 123 #[.val (.ref r0), .val (.int x1)] [(.int (1 : Int32))]))
   refine own_retN Y22 hx hlk (t := .boolean) hret (by simp) (hb hby own_d1_123) (by decide) (by decide) ?_
   exact ⟨by simp [nar, own_b, c91_26], rfl⟩
theorem own_d1_102 : decode prog_38_method_5_code 102 = .ok (.iload_n 1, 1) := by decide +kernel
theorem own_d1_103 : decode prog_38_method_5_code 103 = .ok (.ifCond .ne 7, 3) := by decide +kernel
theorem own_d1_106 : decode prog_38_method_5_code 106 = .ok (.iconst 1, 1) := by decide +kernel
theorem own_d1_107 : decode prog_38_method_5_code 107 = .ok (.goto 16, 3) := by decide +kernel
theorem own_d1_110 : decode prog_38_method_5_code 110 = .ok (.iconst 0, 1) := by decide +kernel
theorem own_d1_111 : decode prog_38_method_5_code 111 = .ok (.goto 12, 3) := by decide +kernel
theorem own_ef_own_rm1_4 (m : MethodId) (r0 : Addr) (x1 : Int32) : entryFrame m #[(.ref r0), (.int x1)] 2 = mkF m 0 #[.val (.ref r0), .val (.int x1)] [] := by first | (simp [entryFrame, mkF, argsToLocals, Value.category]; done) | rfl
def own_Q_own_rm1_4 (Z : State) (r0 : Addr) (x1 : Int32) (h0 : Heap) (n0 : Nat) (v : Option Value) (h : Heap) : Prop := v = some (.int (own_b (decide (x1 = 0)))) ∧ h0 = h
set_option maxRecDepth 65536 in
set_option maxHeartbeats 40000000 in
theorem own_rm1_4 (l : Launch) (Z : State) (a0 : Array Value) (hw : ∀ d ∈ tables_1, d.before a0 Z = true) (ws : List Jvm.Cond) (r0 : Addr) (x1 : Int32)  (h0 : Heap) (n0 : Nat)  (E : Exa Z h0 r0 "com/example/poset/poset/core/Formula$Relation") (F : Fld Z h0 r0 "java/lang/Enum" "ordinal" "I" (.int 4)) :
    own_Con l Z (⟨"com/example/poset/poset/core/Formula$Relation", "holds", "(I)Z"⟩ : MethodName) prog_38_method_5_code 2 (some .boolean) ws ({ frames := 1, cells := 0, slots := 0, locals := 12 } : Room) #[(.ref r0), (.int x1)] h0 n0 (own_Q_own_rm1_4 Z r0 x1 h0 n0) := by
  refine own_body (plainFor_of_name own_pn1) ?_
  intro p e s m below meth c T0 hx hZ hby hml hown hnm hret hlk Y0
  replace hown : s.vm.findClass "com/example/poset/poset/core/Formula$Relation" = some m.cls := hown
  replace hnm : meth.name = "holds" := hnm
  rw [own_ef_own_rm1_4 m r0 x1]
  show own_Ends _ _ _ _ (T0.setTop (mkF m 0 #[.val (.ref r0), .val (.int x1)] []))
  refine own_st (fun t_ => XS.aloadN (own_here Y0) hx rfl (hb hby own_d1_0) rfl rfl) ?_
  show own_Ends _ _ _ _ (T0.setTop (mkF m 1 #[.val (.ref r0), .val (.int x1)] [(.ref r0)]))
  refine own_callU Y0 hx hZ (owner := "java/lang/Enum") (y := (⟨"com/example/poset/poset/core/Formula$Relation", "ordinal", "()I"⟩ : MethodName)) (z := (⟨"java/lang/Enum", "ordinal", "()I"⟩ : MethodName)) hown (hw _ (List.mem_of_getElem? (i := 8) rfl)) (hw _ (List.mem_of_getElem? (i := 9) rfl)) (hw _ (List.mem_of_getElem? (i := 10) rfl)) (hw _ (List.mem_of_getElem? (i := 12) rfl)) (hw _ (List.mem_of_getElem? (i := 11) rfl)) (hw _ (List.mem_of_getElem? (i := 13) rfl)) (hw _ (List.mem_of_getElem? (i := 14) rfl)) (by decide) (a := r0) E (argsL := []) (rest := []) (own_rm2 l Z a0 hw [] r0 (4 : Int32) h0 n0  F) (W := 0) (by decide) (by decide) (by decide) (by decide) rfl (by rw [hml]; rfl) (lenOf own_pd0 rfl) rfl (by show 2 * 0 + _ ≤ _; exact Nat.le_of_eq rfl) (hb hby own_d1_1) (fun T27 h29 v30 Y28 q31 => ?_)
  obtain ⟨rfl, rfl⟩ := q31
  show own_Ends _ _ _ _ (T27.setTop (mkF m 4 #[.val (.ref r0), .val (.int x1)] [(.int (4 : Int32))]))
  refine own_st (fun t_ hr => XS.tswIn (own_here Y28) hx rfl (i := (4 : Int32)) (o := 98) (pc0 := 4) (pc' := 102) rfl (hb hby own_d1_4) rfl (by decide) (by decide) (by decide) (by decide) hr) ?_
  show own_Ends _ _ _ _ (T27.setTop (mkF m 102 #[.val (.ref r0), .val (.int x1)] []))
  refine own_st (fun t_ => XS.iloadN (own_here Y28) hx rfl (hb hby own_d1_102) rfl) ?_
  show own_Ends _ _ _ _ (T27.setTop (mkF m 103 #[.val (.ref r0), .val (.int x1)] [(.int x1)]))
  by_cases c103_32 : x1 = (0 : Int32)
  ·
   refine own_st (fun t_ => XS.ifNo (own_here Y28) hx rfl (hb hby own_d1_103) rfl (XT.i0_ne_f c103_32)) ?_
   show own_Ends _ _ _ _ (T27.setTop (mkF m 106 #[.val (.ref r0), .val (.int x1)] []))
   refine own_st (fun t_ => XS.iconst (own_here Y28) hx rfl (hb hby own_d1_106) ) ?_
   show own_Ends _ _ _ _ (T27.setTop (mkF m 107 #[.val (.ref r0), .val (.int x1)] [(.int (1 : Int32))]))
   refine own_st (fun t_ => XS.goto (own_here Y28) hx rfl (pc0 := 107) (pc' := 123) rfl (hb hby own_d1_107) (by decide) (by decide)) ?_
   show own_Ends _ _ _ _ (T27.setTop (mkF m 123 #[.val (.ref r0), .val (.int x1)] [(.int (1 : Int32))]))
   refine own_retN Y28 hx hlk (t := .boolean) hret (by simp) (hb hby own_d1_123) (by decide) (by decide) ?_
   exact ⟨by simp [nar, own_b, c103_32], rfl⟩
  ·
   refine own_st (fun t_ => XS.ifYes (own_here Y28) hx rfl (pc0 := 103) (pc' := 110) rfl (hb hby own_d1_103) rfl (XT.i0_ne_t c103_32) (by decide) (by decide)) ?_
   show own_Ends _ _ _ _ (T27.setTop (mkF m 110 #[.val (.ref r0), .val (.int x1)] []))
   refine own_st (fun t_ => XS.iconst (own_here Y28) hx rfl (hb hby own_d1_110) ) ?_
   show own_Ends _ _ _ _ (T27.setTop (mkF m 111 #[.val (.ref r0), .val (.int x1)] [(.int (0 : Int32))]))
   refine own_st (fun t_ => XS.goto (own_here Y28) hx rfl (pc0 := 111) (pc' := 123) rfl (hb hby own_d1_111) (by decide) (by decide)) ?_
   show own_Ends _ _ _ _ (T27.setTop (mkF m 123 #[.val (.ref r0), .val (.int x1)] [(.int (0 : Int32))]))
   refine own_retN Y28 hx hlk (t := .boolean) hret (by simp) (hb hby own_d1_123) (by decide) (by decide) ?_
   exact ⟨by simp [nar, own_b, c103_32], rfl⟩
theorem own_d1_114 : decode prog_38_method_5_code 114 = .ok (.iload_n 1, 1) := by decide +kernel
theorem own_d1_115 : decode prog_38_method_5_code 115 = .ok (.ifCond .eq 7, 3) := by decide +kernel
theorem own_d1_122 : decode prog_38_method_5_code 122 = .ok (.iconst 0, 1) := by decide +kernel
theorem own_d1_118 : decode prog_38_method_5_code 118 = .ok (.iconst 1, 1) := by decide +kernel
theorem own_d1_119 : decode prog_38_method_5_code 119 = .ok (.goto 4, 3) := by decide +kernel
theorem own_ef_own_rm1_5 (m : MethodId) (r0 : Addr) (x1 : Int32) : entryFrame m #[(.ref r0), (.int x1)] 2 = mkF m 0 #[.val (.ref r0), .val (.int x1)] [] := by first | (simp [entryFrame, mkF, argsToLocals, Value.category]; done) | rfl
def own_Q_own_rm1_5 (Z : State) (r0 : Addr) (x1 : Int32) (h0 : Heap) (n0 : Nat) (v : Option Value) (h : Heap) : Prop := v = some (.int (own_b (!decide (x1 = 0)))) ∧ h0 = h
set_option maxRecDepth 65536 in
set_option maxHeartbeats 40000000 in
theorem own_rm1_5 (l : Launch) (Z : State) (a0 : Array Value) (hw : ∀ d ∈ tables_1, d.before a0 Z = true) (ws : List Jvm.Cond) (r0 : Addr) (x1 : Int32)  (h0 : Heap) (n0 : Nat)  (E : Exa Z h0 r0 "com/example/poset/poset/core/Formula$Relation") (F : Fld Z h0 r0 "java/lang/Enum" "ordinal" "I" (.int 5)) :
    own_Con l Z (⟨"com/example/poset/poset/core/Formula$Relation", "holds", "(I)Z"⟩ : MethodName) prog_38_method_5_code 2 (some .boolean) ws ({ frames := 1, cells := 0, slots := 0, locals := 12 } : Room) #[(.ref r0), (.int x1)] h0 n0 (own_Q_own_rm1_5 Z r0 x1 h0 n0) := by
  refine own_body (plainFor_of_name own_pn1) ?_
  intro p e s m below meth c T0 hx hZ hby hml hown hnm hret hlk Y0
  replace hown : s.vm.findClass "com/example/poset/poset/core/Formula$Relation" = some m.cls := hown
  replace hnm : meth.name = "holds" := hnm
  rw [own_ef_own_rm1_5 m r0 x1]
  show own_Ends _ _ _ _ (T0.setTop (mkF m 0 #[.val (.ref r0), .val (.int x1)] []))
  refine own_st (fun t_ => XS.aloadN (own_here Y0) hx rfl (hb hby own_d1_0) rfl rfl) ?_
  show own_Ends _ _ _ _ (T0.setTop (mkF m 1 #[.val (.ref r0), .val (.int x1)] [(.ref r0)]))
  refine own_callU Y0 hx hZ (owner := "java/lang/Enum") (y := (⟨"com/example/poset/poset/core/Formula$Relation", "ordinal", "()I"⟩ : MethodName)) (z := (⟨"java/lang/Enum", "ordinal", "()I"⟩ : MethodName)) hown (hw _ (List.mem_of_getElem? (i := 8) rfl)) (hw _ (List.mem_of_getElem? (i := 9) rfl)) (hw _ (List.mem_of_getElem? (i := 10) rfl)) (hw _ (List.mem_of_getElem? (i := 12) rfl)) (hw _ (List.mem_of_getElem? (i := 11) rfl)) (hw _ (List.mem_of_getElem? (i := 13) rfl)) (hw _ (List.mem_of_getElem? (i := 14) rfl)) (by decide) (a := r0) E (argsL := []) (rest := []) (own_rm2 l Z a0 hw [] r0 (5 : Int32) h0 n0  F) (W := 0) (by decide) (by decide) (by decide) (by decide) rfl (by rw [hml]; rfl) (lenOf own_pd0 rfl) rfl (by show 2 * 0 + _ ≤ _; exact Nat.le_of_eq rfl) (hb hby own_d1_1) (fun T33 h35 v36 Y34 q37 => ?_)
  obtain ⟨rfl, rfl⟩ := q37
  show own_Ends _ _ _ _ (T33.setTop (mkF m 4 #[.val (.ref r0), .val (.int x1)] [(.int (5 : Int32))]))
  refine own_st (fun t_ hr => XS.tswIn (own_here Y34) hx rfl (i := (5 : Int32)) (o := 110) (pc0 := 4) (pc' := 114) rfl (hb hby own_d1_4) rfl (by decide) (by decide) (by decide) (by decide) hr) ?_
  show own_Ends _ _ _ _ (T33.setTop (mkF m 114 #[.val (.ref r0), .val (.int x1)] []))
  refine own_st (fun t_ => XS.iloadN (own_here Y34) hx rfl (hb hby own_d1_114) rfl) ?_
  show own_Ends _ _ _ _ (T33.setTop (mkF m 115 #[.val (.ref r0), .val (.int x1)] [(.int x1)]))
  by_cases c115_38 : x1 = (0 : Int32)
  ·
   refine own_st (fun t_ => XS.ifYes (own_here Y34) hx rfl (pc0 := 115) (pc' := 122) rfl (hb hby own_d1_115) rfl (XT.i0_eq_t c115_38) (by decide) (by decide)) ?_
   show own_Ends _ _ _ _ (T33.setTop (mkF m 122 #[.val (.ref r0), .val (.int x1)] []))
   refine own_st (fun t_ => XS.iconst (own_here Y34) hx rfl (hb hby own_d1_122) ) ?_
   show own_Ends _ _ _ _ (T33.setTop (mkF m 123 #[.val (.ref r0), .val (.int x1)] [(.int (0 : Int32))]))
   refine own_retN Y34 hx hlk (t := .boolean) hret (by simp) (hb hby own_d1_123) (by decide) (by decide) ?_
   exact ⟨by simp [nar, own_b, c115_38], rfl⟩
  ·
   refine own_st (fun t_ => XS.ifNo (own_here Y34) hx rfl (hb hby own_d1_115) rfl (XT.i0_eq_f c115_38)) ?_
   show own_Ends _ _ _ _ (T33.setTop (mkF m 118 #[.val (.ref r0), .val (.int x1)] []))
   refine own_st (fun t_ => XS.iconst (own_here Y34) hx rfl (hb hby own_d1_118) ) ?_
   show own_Ends _ _ _ _ (T33.setTop (mkF m 119 #[.val (.ref r0), .val (.int x1)] [(.int (1 : Int32))]))
   refine own_st (fun t_ => XS.goto (own_here Y34) hx rfl (pc0 := 119) (pc' := 123) rfl (hb hby own_d1_119) (by decide) (by decide)) ?_
   show own_Ends _ _ _ _ (T33.setTop (mkF m 123 #[.val (.ref r0), .val (.int x1)] [(.int (1 : Int32))]))
   refine own_retN Y34 hx hlk (t := .boolean) hret (by simp) (hb hby own_d1_123) (by decide) (by decide) ?_
   exact ⟨by simp [nar, own_b, c115_38], rfl⟩
theorem own_pn2 : plainName "com/example/poset/poset/core/RelationHoldsPinLaw" = true := by first | (simp [plainName, overriddenIn]; done) | decide +kernel
theorem own_pd1 : parseMethodDescriptor "(I)Z" = some ⟨[.int], some .boolean⟩ := by decide +kernel
theorem own_ef_own_rm0 (m : MethodId) (x0 : Int32) (x1 : Int32) : entryFrame m #[(.int x0), (.int x1)] maxLocals = mkF m 0 #[.val (.int x0), .val (.int x1), .unset, .unset, .unset, .unset, .unset] [] := by first | (simp [entryFrame, mkF, argsToLocals, Value.category, maxLocals]; done) | rfl
def own_Q_own_rm0 (Z : State) (x0 : Int32) (x1 : Int32) (h0 : Heap) (n0 : Nat) (v : Option Value) (h : Heap) : Prop := v = some (.int 1)
set_option maxRecDepth 65536 in
set_option maxHeartbeats 40000000 in
theorem own_rm0 (l : Launch) (Z : State) (a0 : Array Value) (hw : ∀ d ∈ tables_1, d.before a0 Z = true) (ws : List Jvm.Cond) (x0 : Int32) (x1 : Int32) (rLESS rAT_MOST rGREATER rAT_LEAST rEQUAL rNOT_EQUAL : Addr) (h0 : Heap) (n0 : Nat) (Z0 : n0 ≤ h0.size) (SLESS : Sta Z h0 "com/example/poset/poset/core/Formula$Relation" "LESS" "Lcom/example/poset/poset/core/Formula$Relation;" (.ref rLESS)) (ELESS : Exa Z h0 rLESS "com/example/poset/poset/core/Formula$Relation") (FLESS : Fld Z h0 rLESS "java/lang/Enum" "ordinal" "I" (.int 0)) (SAT_MOST : Sta Z h0 "com/example/poset/poset/core/Formula$Relation" "AT_MOST" "Lcom/example/poset/poset/core/Formula$Relation;" (.ref rAT_MOST)) (EAT_MOST : Exa Z h0 rAT_MOST "com/example/poset/poset/core/Formula$Relation") (FAT_MOST : Fld Z h0 rAT_MOST "java/lang/Enum" "ordinal" "I" (.int 1)) (SGREATER : Sta Z h0 "com/example/poset/poset/core/Formula$Relation" "GREATER" "Lcom/example/poset/poset/core/Formula$Relation;" (.ref rGREATER)) (EGREATER : Exa Z h0 rGREATER "com/example/poset/poset/core/Formula$Relation") (FGREATER : Fld Z h0 rGREATER "java/lang/Enum" "ordinal" "I" (.int 2)) (SAT_LEAST : Sta Z h0 "com/example/poset/poset/core/Formula$Relation" "AT_LEAST" "Lcom/example/poset/poset/core/Formula$Relation;" (.ref rAT_LEAST)) (EAT_LEAST : Exa Z h0 rAT_LEAST "com/example/poset/poset/core/Formula$Relation") (FAT_LEAST : Fld Z h0 rAT_LEAST "java/lang/Enum" "ordinal" "I" (.int 3)) (SEQUAL : Sta Z h0 "com/example/poset/poset/core/Formula$Relation" "EQUAL" "Lcom/example/poset/poset/core/Formula$Relation;" (.ref rEQUAL)) (EEQUAL : Exa Z h0 rEQUAL "com/example/poset/poset/core/Formula$Relation") (FEQUAL : Fld Z h0 rEQUAL "java/lang/Enum" "ordinal" "I" (.int 4)) (SNOT_EQUAL : Sta Z h0 "com/example/poset/poset/core/Formula$Relation" "NOT_EQUAL" "Lcom/example/poset/poset/core/Formula$Relation;" (.ref rNOT_EQUAL)) (ENOT_EQUAL : Exa Z h0 rNOT_EQUAL "com/example/poset/poset/core/Formula$Relation") (FNOT_EQUAL : Fld Z h0 rNOT_EQUAL "java/lang/Enum" "ordinal" "I" (.int 5)) :
    own_Con l Z x code maxLocals ret ws room_1 #[(.int x0), (.int x1)] h0 n0 (own_Q_own_rm0 Z x0 x1 h0 n0) := by
  refine own_body (plainFor_of_name own_pn2) ?_
  intro p e s m below meth c T0 hx hZ hby hml hown hnm hret hlk Y0
  replace hown : s.vm.findClass "com/example/poset/poset/core/RelationHoldsPinLaw" = some m.cls := hown
  replace hml : c.maxLocals = 7 := hml
  replace hret : meth.sig.returnType = some .boolean := hret
  rw [own_ef_own_rm0 m x0 x1]
  show own_Ends _ _ _ _ (T0.setTop (mkF m 0 #[.val (.int x0), .val (.int x1), .unset, .unset, .unset, .unset, .unset] []))
  refine own_st (fun t_ => XS.iloadN (own_here Y0) hx rfl (hb hby at_0) rfl) ?_
  show own_Ends _ _ _ _ (T0.setTop (mkF m 1 #[.val (.int x0), .val (.int x1), .unset, .unset, .unset, .unset, .unset] [(.int x0)]))
  refine own_st (fun t_ => XS.bipush (own_here Y0) hx rfl (hb hby at_1) ) ?_
  show own_Ends _ _ _ _ (T0.setTop (mkF m 3 #[.val (.int x0), .val (.int x1), .unset, .unset, .unset, .unset, .unset] [(.int (7 : Int32)), (.int x0)]))
  refine own_st (fun t_ => XS.iand (own_here Y0) hx rfl (hb hby at_3) rfl) ?_
  show own_Ends _ _ _ _ (T0.setTop (mkF m 4 #[.val (.int x0), .val (.int x1), .unset, .unset, .unset, .unset, .unset] [(.int (x0 &&& (7 : Int32)))]))
  refine own_st (fun t_ => XS.bipush (own_here Y0) hx rfl (hb hby at_4) ) ?_
  show own_Ends _ _ _ _ (T0.setTop (mkF m 6 #[.val (.int x0), .val (.int x1), .unset, .unset, .unset, .unset, .unset] [(.int (6 : Int32)), (.int (x0 &&& (7 : Int32)))]))
  refine own_irem Y0 hx rfl (hb hby at_6) rfl (by decide) ?_
  show own_Ends _ _ _ _ (T0.setTop (mkF m 7 #[.val (.int x0), .val (.int x1), .unset, .unset, .unset, .unset, .unset] [(.int ((x0 &&& (7 : Int32)) % (6 : Int32)))]))
  refine own_st (fun t_ => XS.istoreN (own_here Y0) hx rfl (hb hby at_7) rfl (l' := #[.val (.int x0), .val (.int x1), .val (.int ((x0 &&& (7 : Int32)) % (6 : Int32))), .unset, .unset, .unset, .unset]) rfl) ?_
  show own_Ends _ _ _ _ (T0.setTop (mkF m 8 #[.val (.int x0), .val (.int x1), .val (.int ((x0 &&& (7 : Int32)) % (6 : Int32))), .unset, .unset, .unset, .unset] []))
  generalize ha : ((x0 &&& (7 : Int32)) % (6 : Int32)) = a
  have ha5 : a = 0 ∨ a = 1 ∨ a = 2 ∨ a = 3 ∨ a = 4 ∨ a = 5 := by
    have q := c_mask x0 7 3 (by decide) (by decide)
    have q2 : ((2 ^ 3 : Nat) : Int) = 8 := by decide
    rw [q2] at q
    have r := (c_irem (x0 &&& 7) 6 6 rfl).1 (by rw [q]; exact Int.emod_nonneg _ (by decide))
    rw [ha] at r
    have : a.toInt = 0 ∨ a.toInt = 1 ∨ a.toInt = 2 ∨ a.toInt = 3 ∨ a.toInt = 4 ∨ a.toInt = 5 := by omega
    simp only [own_eq]; exact this
  rcases ha5 with rfl | rfl | rfl | rfl | rfl | rfl
  ·
   show own_Ends _ _ _ _ (T0.setTop (mkF m 8 #[.val (.int x0), .val (.int x1), .val (.int (0 : Int32)), .unset, .unset, .unset, .unset] []))
   refine own_st (fun t_ => XS.iloadN (own_here Y0) hx rfl (hb hby at_8) rfl) ?_
   show own_Ends _ _ _ _ (T0.setTop (mkF m 9 #[.val (.int x0), .val (.int x1), .val (.int (0 : Int32)), .unset, .unset, .unset, .unset] [(.int (0 : Int32))]))
   refine own_st (fun t_ => XS.ifNo (own_here Y0) hx rfl (hb hby at_9) rfl (XT.i0_ne_f (by decide))) ?_
   show own_Ends _ _ _ _ (T0.setTop (mkF m 12 #[.val (.int x0), .val (.int x1), .val (.int (0 : Int32)), .unset, .unset, .unset, .unset] []))
   refine own_getS Y0 hx hZ hown (host := "") (Or.inl (hw _ (List.mem_of_getElem? (i := 0) rfl))) Via.refl SLESS rfl (hb hby at_12) (fun T39 Y40 => ?_)
   show own_Ends _ _ _ _ (T39.setTop (mkF m 15 #[.val (.int x0), .val (.int x1), .val (.int (0 : Int32)), .unset, .unset, .unset, .unset] [(.ref rLESS)]))
   refine own_st (fun t_ => XS.astoreN (own_here Y40) hx rfl (hb hby at_15) rfl rfl (l' := #[.val (.int x0), .val (.int x1), .val (.int (0 : Int32)), .val (.ref rLESS), .unset, .unset, .unset]) rfl) ?_
   show own_Ends _ _ _ _ (T39.setTop (mkF m 16 #[.val (.int x0), .val (.int x1), .val (.int (0 : Int32)), .val (.ref rLESS), .unset, .unset, .unset] []))
   refine own_st (fun t_ => XS.iconst (own_here Y40) hx rfl (hb hby at_16) ) ?_
   show own_Ends _ _ _ _ (T39.setTop (mkF m 17 #[.val (.int x0), .val (.int x1), .val (.int (0 : Int32)), .val (.ref rLESS), .unset, .unset, .unset] [(.int (1 : Int32))]))
   refine own_st (fun t_ => XS.istore (own_here Y40) hx rfl (hb hby at_17) rfl (l' := #[.val (.int x0), .val (.int x1), .val (.int (0 : Int32)), .val (.ref rLESS), .val (.int (1 : Int32)), .unset, .unset]) rfl) ?_
   show own_Ends _ _ _ _ (T39.setTop (mkF m 19 #[.val (.int x0), .val (.int x1), .val (.int (0 : Int32)), .val (.ref rLESS), .val (.int (1 : Int32)), .unset, .unset] []))
   refine own_st (fun t_ => XS.goto (own_here Y40) hx rfl (pc0 := 19) (pc' := 90) rfl (hb hby at_19) (by decide) (by decide)) ?_
   show own_Ends _ _ _ _ (T39.setTop (mkF m 90 #[.val (.int x0), .val (.int x1), .val (.int (0 : Int32)), .val (.ref rLESS), .val (.int (1 : Int32)), .unset, .unset] []))
   refine own_st (fun t_ => XS.iloadN (own_here Y40) hx rfl (hb hby at_90) rfl) ?_
   show own_Ends _ _ _ _ (T39.setTop (mkF m 91 #[.val (.int x0), .val (.int x1), .val (.int (0 : Int32)), .val (.ref rLESS), .val (.int (1 : Int32)), .unset, .unset] [(.int x1)]))
   by_cases c91_41 : x1 < (0 : Int32)
   ·
    refine own_st (fun t_ => XS.ifNo (own_here Y40) hx rfl (hb hby at_91) rfl (XT.i0_ge_f c91_41)) ?_
    show own_Ends _ _ _ _ (T39.setTop (mkF m 94 #[.val (.int x0), .val (.int x1), .val (.int (0 : Int32)), .val (.ref rLESS), .val (.int (1 : Int32)), .unset, .unset] []))
    refine own_st (fun t_ => XS.iconst (own_here Y40) hx rfl (hb hby at_94) ) ?_
    show own_Ends _ _ _ _ (T39.setTop (mkF m 95 #[.val (.int x0), .val (.int x1), .val (.int (0 : Int32)), .val (.ref rLESS), .val (.int (1 : Int32)), .unset, .unset] [(.int (0 : Int32))]))
    refine own_st (fun t_ => XS.istore (own_here Y40) hx rfl (hb hby at_95) rfl (l' := #[.val (.int x0), .val (.int x1), .val (.int (0 : Int32)), .val (.ref rLESS), .val (.int (1 : Int32)), .val (.int (0 : Int32)), .unset]) rfl) ?_
    show own_Ends _ _ _ _ (T39.setTop (mkF m 97 #[.val (.int x0), .val (.int x1), .val (.int (0 : Int32)), .val (.ref rLESS), .val (.int (1 : Int32)), .val (.int (0 : Int32)), .unset] []))
    refine own_st (fun t_ => XS.goto (own_here Y40) hx rfl (pc0 := 97) (pc' := 113) rfl (hb hby at_97) (by decide) (by decide)) ?_
    show own_Ends _ _ _ _ (T39.setTop (mkF m 113 #[.val (.int x0), .val (.int x1), .val (.int (0 : Int32)), .val (.ref rLESS), .val (.int (1 : Int32)), .val (.int (0 : Int32)), .unset] []))
    refine own_st (fun t_ => XS.iload (own_here Y40) hx rfl (hb hby at_113) rfl) ?_
    show own_Ends _ _ _ _ (T39.setTop (mkF m 115 #[.val (.int x0), .val (.int x1), .val (.int (0 : Int32)), .val (.ref rLESS), .val (.int (1 : Int32)), .val (.int (0 : Int32)), .unset] [(.int (1 : Int32))]))
    refine own_st (fun t_ => XS.iload (own_here Y40) hx rfl (hb hby at_115) rfl) ?_
    show own_Ends _ _ _ _ (T39.setTop (mkF m 117 #[.val (.int x0), .val (.int x1), .val (.int (0 : Int32)), .val (.ref rLESS), .val (.int (1 : Int32)), .val (.int (0 : Int32)), .unset] [(.int (0 : Int32)), (.int (1 : Int32))]))
    refine own_st (fun t_ => XS.ishr (own_here Y40) hx rfl (hb hby at_117) rfl) ?_
    show own_Ends _ _ _ _ (T39.setTop (mkF m 118 #[.val (.int x0), .val (.int x1), .val (.int (0 : Int32)), .val (.ref rLESS), .val (.int (1 : Int32)), .val (.int (0 : Int32)), .unset] [(.int (1 : Int32))]))
    refine own_st (fun t_ => XS.iconst (own_here Y40) hx rfl (hb hby at_118) ) ?_
    show own_Ends _ _ _ _ (T39.setTop (mkF m 119 #[.val (.int x0), .val (.int x1), .val (.int (0 : Int32)), .val (.ref rLESS), .val (.int (1 : Int32)), .val (.int (0 : Int32)), .unset] [(.int (1 : Int32)), (.int (1 : Int32))]))
    refine own_st (fun t_ => XS.iand (own_here Y40) hx rfl (hb hby at_119) rfl) ?_
    show own_Ends _ _ _ _ (T39.setTop (mkF m 120 #[.val (.int x0), .val (.int x1), .val (.int (0 : Int32)), .val (.ref rLESS), .val (.int (1 : Int32)), .val (.int (0 : Int32)), .unset] [(.int (1 : Int32))]))
    refine own_st (fun t_ => XS.ifNo (own_here Y40) hx rfl (hb hby at_120) rfl (XT.i0_eq_f (by decide))) ?_
    show own_Ends _ _ _ _ (T39.setTop (mkF m 123 #[.val (.int x0), .val (.int x1), .val (.int (0 : Int32)), .val (.ref rLESS), .val (.int (1 : Int32)), .val (.int (0 : Int32)), .unset] []))
    refine own_st (fun t_ => XS.iconst (own_here Y40) hx rfl (hb hby at_123) ) ?_
    show own_Ends _ _ _ _ (T39.setTop (mkF m 124 #[.val (.int x0), .val (.int x1), .val (.int (0 : Int32)), .val (.ref rLESS), .val (.int (1 : Int32)), .val (.int (0 : Int32)), .unset] [(.int (1 : Int32))]))
    refine own_st (fun t_ => XS.goto (own_here Y40) hx rfl (pc0 := 124) (pc' := 128) rfl (hb hby at_124) (by decide) (by decide)) ?_
    show own_Ends _ _ _ _ (T39.setTop (mkF m 128 #[.val (.int x0), .val (.int x1), .val (.int (0 : Int32)), .val (.ref rLESS), .val (.int (1 : Int32)), .val (.int (0 : Int32)), .unset] [(.int (1 : Int32))]))
    refine own_st (fun t_ => XS.istore (own_here Y40) hx rfl (hb hby at_128) rfl (l' := #[.val (.int x0), .val (.int x1), .val (.int (0 : Int32)), .val (.ref rLESS), .val (.int (1 : Int32)), .val (.int (0 : Int32)), .val (.int (1 : Int32))]) rfl) ?_
    show own_Ends _ _ _ _ (T39.setTop (mkF m 130 #[.val (.int x0), .val (.int x1), .val (.int (0 : Int32)), .val (.ref rLESS), .val (.int (1 : Int32)), .val (.int (0 : Int32)), .val (.int (1 : Int32))] []))
    refine own_st (fun t_ => XS.aloadN (own_here Y40) hx rfl (hb hby at_130) rfl rfl) ?_
    show own_Ends _ _ _ _ (T39.setTop (mkF m 131 #[.val (.int x0), .val (.int x1), .val (.int (0 : Int32)), .val (.ref rLESS), .val (.int (1 : Int32)), .val (.int (0 : Int32)), .val (.int (1 : Int32))] [(.ref rLESS)]))
    refine own_st (fun t_ => XS.iloadN (own_here Y40) hx rfl (hb hby at_131) rfl) ?_
    show own_Ends _ _ _ _ (T39.setTop (mkF m 132 #[.val (.int x0), .val (.int x1), .val (.int (0 : Int32)), .val (.ref rLESS), .val (.int (1 : Int32)), .val (.int (0 : Int32)), .val (.int (1 : Int32))] [(.int x1), (.ref rLESS)]))
    refine own_callV Y40 hx hZ (y := (⟨"com/example/poset/poset/core/Formula$Relation", "holds", "(I)Z"⟩ : MethodName)) (z := (⟨"com/example/poset/poset/core/Formula$Relation", "holds", "(I)Z"⟩ : MethodName)) hown (hw _ (List.mem_of_getElem? (i := 3) rfl)) (hw _ (List.mem_of_getElem? (i := 4) rfl)) (notFace_of_selects (args := #[]) (mvT hZ (hw _ (List.mem_of_getElem? (i := 6) rfl)))) (hw _ (List.mem_of_getElem? (i := 6) rfl)) (hw _ (List.mem_of_getElem? (i := 5) rfl)) (hw _ (List.mem_of_getElem? (i := 1) rfl)) (hw _ (List.mem_of_getElem? (i := 7) rfl)) (by decide) (a := rLESS) ELESS (argsL := [(.int x1)]) (rest := []) (own_rm1_0 l Z a0 hw [] rLESS x1  h0 n0  ELESS FLESS) (W := 0) (by decide) (by decide) (by decide) (by decide) rfl (by rw [hml]; rfl) (lenOf own_pd1 rfl) rfl (by show 2 * 0 + _ ≤ _; exact Nat.le_of_eq rfl) (hb hby at_132) (fun T42 h44 v45 Y43 q46 => ?_)
    obtain ⟨rfl, rfl⟩ := q46
    show own_Ends _ _ _ _ (T42.setTop (mkF m 135 #[.val (.int x0), .val (.int x1), .val (.int (0 : Int32)), .val (.ref rLESS), .val (.int (1 : Int32)), .val (.int (0 : Int32)), .val (.int (1 : Int32))] [(.int (own_b (decide (x1 < 0))))]))
    refine own_st (fun t_ => XS.iload (own_here Y43) hx rfl (hb hby at_135) rfl) ?_
    show own_Ends _ _ _ _ (T42.setTop (mkF m 137 #[.val (.int x0), .val (.int x1), .val (.int (0 : Int32)), .val (.ref rLESS), .val (.int (1 : Int32)), .val (.int (0 : Int32)), .val (.int (1 : Int32))] [(.int (1 : Int32)), (.int (own_b (decide (x1 < 0))))]))
    have s0 : ¬ (0 : Int32) < x1 := by have := c91_41; simp only [own_lt] at this ⊢; omega
    have s1 : ¬ x1 = 0 := by have := c91_41; simp only [own_lt, own_eq] at this ⊢; omega
    refine own_st (fun t_ => XS.icmpNo (own_here Y43) hx rfl (hb hby at_137) rfl (XT.ii_ne_f (by simp [own_b, s0, c91_41, s1]))) ?_
    show own_Ends _ _ _ _ (T42.setTop (mkF m 140 #[.val (.int x0), .val (.int x1), .val (.int (0 : Int32)), .val (.ref rLESS), .val (.int (1 : Int32)), .val (.int (0 : Int32)), .val (.int (1 : Int32))] []))
    refine own_st (fun t_ => XS.iconst (own_here Y43) hx rfl (hb hby at_140) ) ?_
    show own_Ends _ _ _ _ (T42.setTop (mkF m 141 #[.val (.int x0), .val (.int x1), .val (.int (0 : Int32)), .val (.ref rLESS), .val (.int (1 : Int32)), .val (.int (0 : Int32)), .val (.int (1 : Int32))] [(.int (1 : Int32))]))
    refine own_st (fun t_ => XS.goto (own_here Y43) hx rfl (pc0 := 141) (pc' := 145) rfl (hb hby at_141) (by decide) (by decide)) ?_
    show own_Ends _ _ _ _ (T42.setTop (mkF m 145 #[.val (.int x0), .val (.int x1), .val (.int (0 : Int32)), .val (.ref rLESS), .val (.int (1 : Int32)), .val (.int (0 : Int32)), .val (.int (1 : Int32))] [(.int (1 : Int32))]))
    refine own_retN Y43 hx hlk (t := .boolean) hret (by simp) (hb hby at_145) (by decide) (by decide) ?_
    exact rfl
   ·
    refine own_st (fun t_ => XS.ifYes (own_here Y40) hx rfl (pc0 := 91) (pc' := 100) rfl (hb hby at_91) rfl (XT.i0_ge_t c91_41) (by decide) (by decide)) ?_
    show own_Ends _ _ _ _ (T39.setTop (mkF m 100 #[.val (.int x0), .val (.int x1), .val (.int (0 : Int32)), .val (.ref rLESS), .val (.int (1 : Int32)), .unset, .unset] []))
    refine own_st (fun t_ => XS.iloadN (own_here Y40) hx rfl (hb hby at_100) rfl) ?_
    show own_Ends _ _ _ _ (T39.setTop (mkF m 101 #[.val (.int x0), .val (.int x1), .val (.int (0 : Int32)), .val (.ref rLESS), .val (.int (1 : Int32)), .unset, .unset] [(.int x1)]))
    by_cases c101_47 : x1 = (0 : Int32)
    ·
     refine own_st (fun t_ => XS.ifNo (own_here Y40) hx rfl (hb hby at_101) rfl (XT.i0_ne_f c101_47)) ?_
     show own_Ends _ _ _ _ (T39.setTop (mkF m 104 #[.val (.int x0), .val (.int x1), .val (.int (0 : Int32)), .val (.ref rLESS), .val (.int (1 : Int32)), .unset, .unset] []))
     refine own_st (fun t_ => XS.iconst (own_here Y40) hx rfl (hb hby at_104) ) ?_
     show own_Ends _ _ _ _ (T39.setTop (mkF m 105 #[.val (.int x0), .val (.int x1), .val (.int (0 : Int32)), .val (.ref rLESS), .val (.int (1 : Int32)), .unset, .unset] [(.int (1 : Int32))]))
     refine own_st (fun t_ => XS.istore (own_here Y40) hx rfl (hb hby at_105) rfl (l' := #[.val (.int x0), .val (.int x1), .val (.int (0 : Int32)), .val (.ref rLESS), .val (.int (1 : Int32)), .val (.int (1 : Int32)), .unset]) rfl) ?_
     show own_Ends _ _ _ _ (T39.setTop (mkF m 107 #[.val (.int x0), .val (.int x1), .val (.int (0 : Int32)), .val (.ref rLESS), .val (.int (1 : Int32)), .val (.int (1 : Int32)), .unset] []))
     refine own_st (fun t_ => XS.goto (own_here Y40) hx rfl (pc0 := 107) (pc' := 113) rfl (hb hby at_107) (by decide) (by decide)) ?_
     show own_Ends _ _ _ _ (T39.setTop (mkF m 113 #[.val (.int x0), .val (.int x1), .val (.int (0 : Int32)), .val (.ref rLESS), .val (.int (1 : Int32)), .val (.int (1 : Int32)), .unset] []))
     refine own_st (fun t_ => XS.iload (own_here Y40) hx rfl (hb hby at_113) rfl) ?_
     show own_Ends _ _ _ _ (T39.setTop (mkF m 115 #[.val (.int x0), .val (.int x1), .val (.int (0 : Int32)), .val (.ref rLESS), .val (.int (1 : Int32)), .val (.int (1 : Int32)), .unset] [(.int (1 : Int32))]))
     refine own_st (fun t_ => XS.iload (own_here Y40) hx rfl (hb hby at_115) rfl) ?_
     show own_Ends _ _ _ _ (T39.setTop (mkF m 117 #[.val (.int x0), .val (.int x1), .val (.int (0 : Int32)), .val (.ref rLESS), .val (.int (1 : Int32)), .val (.int (1 : Int32)), .unset] [(.int (1 : Int32)), (.int (1 : Int32))]))
     refine own_st (fun t_ => XS.ishr (own_here Y40) hx rfl (hb hby at_117) rfl) ?_
     show own_Ends _ _ _ _ (T39.setTop (mkF m 118 #[.val (.int x0), .val (.int x1), .val (.int (0 : Int32)), .val (.ref rLESS), .val (.int (1 : Int32)), .val (.int (1 : Int32)), .unset] [(.int (0 : Int32))]))
     refine own_st (fun t_ => XS.iconst (own_here Y40) hx rfl (hb hby at_118) ) ?_
     show own_Ends _ _ _ _ (T39.setTop (mkF m 119 #[.val (.int x0), .val (.int x1), .val (.int (0 : Int32)), .val (.ref rLESS), .val (.int (1 : Int32)), .val (.int (1 : Int32)), .unset] [(.int (1 : Int32)), (.int (0 : Int32))]))
     refine own_st (fun t_ => XS.iand (own_here Y40) hx rfl (hb hby at_119) rfl) ?_
     show own_Ends _ _ _ _ (T39.setTop (mkF m 120 #[.val (.int x0), .val (.int x1), .val (.int (0 : Int32)), .val (.ref rLESS), .val (.int (1 : Int32)), .val (.int (1 : Int32)), .unset] [(.int (0 : Int32))]))
     refine own_st (fun t_ => XS.ifYes (own_here Y40) hx rfl (pc0 := 120) (pc' := 127) rfl (hb hby at_120) rfl (XT.i0_eq_t (by decide)) (by decide) (by decide)) ?_
     show own_Ends _ _ _ _ (T39.setTop (mkF m 127 #[.val (.int x0), .val (.int x1), .val (.int (0 : Int32)), .val (.ref rLESS), .val (.int (1 : Int32)), .val (.int (1 : Int32)), .unset] []))
     refine own_st (fun t_ => XS.iconst (own_here Y40) hx rfl (hb hby at_127) ) ?_
     show own_Ends _ _ _ _ (T39.setTop (mkF m 128 #[.val (.int x0), .val (.int x1), .val (.int (0 : Int32)), .val (.ref rLESS), .val (.int (1 : Int32)), .val (.int (1 : Int32)), .unset] [(.int (0 : Int32))]))
     refine own_st (fun t_ => XS.istore (own_here Y40) hx rfl (hb hby at_128) rfl (l' := #[.val (.int x0), .val (.int x1), .val (.int (0 : Int32)), .val (.ref rLESS), .val (.int (1 : Int32)), .val (.int (1 : Int32)), .val (.int (0 : Int32))]) rfl) ?_
     show own_Ends _ _ _ _ (T39.setTop (mkF m 130 #[.val (.int x0), .val (.int x1), .val (.int (0 : Int32)), .val (.ref rLESS), .val (.int (1 : Int32)), .val (.int (1 : Int32)), .val (.int (0 : Int32))] []))
     refine own_st (fun t_ => XS.aloadN (own_here Y40) hx rfl (hb hby at_130) rfl rfl) ?_
     show own_Ends _ _ _ _ (T39.setTop (mkF m 131 #[.val (.int x0), .val (.int x1), .val (.int (0 : Int32)), .val (.ref rLESS), .val (.int (1 : Int32)), .val (.int (1 : Int32)), .val (.int (0 : Int32))] [(.ref rLESS)]))
     refine own_st (fun t_ => XS.iloadN (own_here Y40) hx rfl (hb hby at_131) rfl) ?_
     show own_Ends _ _ _ _ (T39.setTop (mkF m 132 #[.val (.int x0), .val (.int x1), .val (.int (0 : Int32)), .val (.ref rLESS), .val (.int (1 : Int32)), .val (.int (1 : Int32)), .val (.int (0 : Int32))] [(.int x1), (.ref rLESS)]))
     refine own_callV Y40 hx hZ (y := (⟨"com/example/poset/poset/core/Formula$Relation", "holds", "(I)Z"⟩ : MethodName)) (z := (⟨"com/example/poset/poset/core/Formula$Relation", "holds", "(I)Z"⟩ : MethodName)) hown (hw _ (List.mem_of_getElem? (i := 3) rfl)) (hw _ (List.mem_of_getElem? (i := 4) rfl)) (notFace_of_selects (args := #[]) (mvT hZ (hw _ (List.mem_of_getElem? (i := 6) rfl)))) (hw _ (List.mem_of_getElem? (i := 6) rfl)) (hw _ (List.mem_of_getElem? (i := 5) rfl)) (hw _ (List.mem_of_getElem? (i := 1) rfl)) (hw _ (List.mem_of_getElem? (i := 7) rfl)) (by decide) (a := rLESS) ELESS (argsL := [(.int x1)]) (rest := []) (own_rm1_0 l Z a0 hw [] rLESS x1  h0 n0  ELESS FLESS) (W := 0) (by decide) (by decide) (by decide) (by decide) rfl (by rw [hml]; rfl) (lenOf own_pd1 rfl) rfl (by show 2 * 0 + _ ≤ _; exact Nat.le_of_eq rfl) (hb hby at_132) (fun T48 h50 v51 Y49 q52 => ?_)
     obtain ⟨rfl, rfl⟩ := q52
     show own_Ends _ _ _ _ (T48.setTop (mkF m 135 #[.val (.int x0), .val (.int x1), .val (.int (0 : Int32)), .val (.ref rLESS), .val (.int (1 : Int32)), .val (.int (1 : Int32)), .val (.int (0 : Int32))] [(.int (own_b (decide (x1 < 0))))]))
     refine own_st (fun t_ => XS.iload (own_here Y49) hx rfl (hb hby at_135) rfl) ?_
     show own_Ends _ _ _ _ (T48.setTop (mkF m 137 #[.val (.int x0), .val (.int x1), .val (.int (0 : Int32)), .val (.ref rLESS), .val (.int (1 : Int32)), .val (.int (1 : Int32)), .val (.int (0 : Int32))] [(.int (0 : Int32)), (.int (own_b (decide (x1 < 0))))]))
     have s0 : ¬ (0 : Int32) < x1 := by have := c101_47; simp only [own_lt, own_eq] at this ⊢; omega
     refine own_st (fun t_ => XS.icmpNo (own_here Y49) hx rfl (hb hby at_137) rfl (XT.ii_ne_f (by simp [own_b, s0, c91_41, c101_47]))) ?_
     show own_Ends _ _ _ _ (T48.setTop (mkF m 140 #[.val (.int x0), .val (.int x1), .val (.int (0 : Int32)), .val (.ref rLESS), .val (.int (1 : Int32)), .val (.int (1 : Int32)), .val (.int (0 : Int32))] []))
     refine own_st (fun t_ => XS.iconst (own_here Y49) hx rfl (hb hby at_140) ) ?_
     show own_Ends _ _ _ _ (T48.setTop (mkF m 141 #[.val (.int x0), .val (.int x1), .val (.int (0 : Int32)), .val (.ref rLESS), .val (.int (1 : Int32)), .val (.int (1 : Int32)), .val (.int (0 : Int32))] [(.int (1 : Int32))]))
     refine own_st (fun t_ => XS.goto (own_here Y49) hx rfl (pc0 := 141) (pc' := 145) rfl (hb hby at_141) (by decide) (by decide)) ?_
     show own_Ends _ _ _ _ (T48.setTop (mkF m 145 #[.val (.int x0), .val (.int x1), .val (.int (0 : Int32)), .val (.ref rLESS), .val (.int (1 : Int32)), .val (.int (1 : Int32)), .val (.int (0 : Int32))] [(.int (1 : Int32))]))
     refine own_retN Y49 hx hlk (t := .boolean) hret (by simp) (hb hby at_145) (by decide) (by decide) ?_
     exact rfl
    ·
     refine own_st (fun t_ => XS.ifYes (own_here Y40) hx rfl (pc0 := 101) (pc' := 110) rfl (hb hby at_101) rfl (XT.i0_ne_t c101_47) (by decide) (by decide)) ?_
     show own_Ends _ _ _ _ (T39.setTop (mkF m 110 #[.val (.int x0), .val (.int x1), .val (.int (0 : Int32)), .val (.ref rLESS), .val (.int (1 : Int32)), .unset, .unset] []))
     refine own_st (fun t_ => XS.iconst (own_here Y40) hx rfl (hb hby at_110) ) ?_
     show own_Ends _ _ _ _ (T39.setTop (mkF m 111 #[.val (.int x0), .val (.int x1), .val (.int (0 : Int32)), .val (.ref rLESS), .val (.int (1 : Int32)), .unset, .unset] [(.int (2 : Int32))]))
     refine own_st (fun t_ => XS.istore (own_here Y40) hx rfl (hb hby at_111) rfl (l' := #[.val (.int x0), .val (.int x1), .val (.int (0 : Int32)), .val (.ref rLESS), .val (.int (1 : Int32)), .val (.int (2 : Int32)), .unset]) rfl) ?_
     show own_Ends _ _ _ _ (T39.setTop (mkF m 113 #[.val (.int x0), .val (.int x1), .val (.int (0 : Int32)), .val (.ref rLESS), .val (.int (1 : Int32)), .val (.int (2 : Int32)), .unset] []))
     refine own_st (fun t_ => XS.iload (own_here Y40) hx rfl (hb hby at_113) rfl) ?_
     show own_Ends _ _ _ _ (T39.setTop (mkF m 115 #[.val (.int x0), .val (.int x1), .val (.int (0 : Int32)), .val (.ref rLESS), .val (.int (1 : Int32)), .val (.int (2 : Int32)), .unset] [(.int (1 : Int32))]))
     refine own_st (fun t_ => XS.iload (own_here Y40) hx rfl (hb hby at_115) rfl) ?_
     show own_Ends _ _ _ _ (T39.setTop (mkF m 117 #[.val (.int x0), .val (.int x1), .val (.int (0 : Int32)), .val (.ref rLESS), .val (.int (1 : Int32)), .val (.int (2 : Int32)), .unset] [(.int (2 : Int32)), (.int (1 : Int32))]))
     refine own_st (fun t_ => XS.ishr (own_here Y40) hx rfl (hb hby at_117) rfl) ?_
     show own_Ends _ _ _ _ (T39.setTop (mkF m 118 #[.val (.int x0), .val (.int x1), .val (.int (0 : Int32)), .val (.ref rLESS), .val (.int (1 : Int32)), .val (.int (2 : Int32)), .unset] [(.int (0 : Int32))]))
     refine own_st (fun t_ => XS.iconst (own_here Y40) hx rfl (hb hby at_118) ) ?_
     show own_Ends _ _ _ _ (T39.setTop (mkF m 119 #[.val (.int x0), .val (.int x1), .val (.int (0 : Int32)), .val (.ref rLESS), .val (.int (1 : Int32)), .val (.int (2 : Int32)), .unset] [(.int (1 : Int32)), (.int (0 : Int32))]))
     refine own_st (fun t_ => XS.iand (own_here Y40) hx rfl (hb hby at_119) rfl) ?_
     show own_Ends _ _ _ _ (T39.setTop (mkF m 120 #[.val (.int x0), .val (.int x1), .val (.int (0 : Int32)), .val (.ref rLESS), .val (.int (1 : Int32)), .val (.int (2 : Int32)), .unset] [(.int (0 : Int32))]))
     refine own_st (fun t_ => XS.ifYes (own_here Y40) hx rfl (pc0 := 120) (pc' := 127) rfl (hb hby at_120) rfl (XT.i0_eq_t (by decide)) (by decide) (by decide)) ?_
     show own_Ends _ _ _ _ (T39.setTop (mkF m 127 #[.val (.int x0), .val (.int x1), .val (.int (0 : Int32)), .val (.ref rLESS), .val (.int (1 : Int32)), .val (.int (2 : Int32)), .unset] []))
     refine own_st (fun t_ => XS.iconst (own_here Y40) hx rfl (hb hby at_127) ) ?_
     show own_Ends _ _ _ _ (T39.setTop (mkF m 128 #[.val (.int x0), .val (.int x1), .val (.int (0 : Int32)), .val (.ref rLESS), .val (.int (1 : Int32)), .val (.int (2 : Int32)), .unset] [(.int (0 : Int32))]))
     refine own_st (fun t_ => XS.istore (own_here Y40) hx rfl (hb hby at_128) rfl (l' := #[.val (.int x0), .val (.int x1), .val (.int (0 : Int32)), .val (.ref rLESS), .val (.int (1 : Int32)), .val (.int (2 : Int32)), .val (.int (0 : Int32))]) rfl) ?_
     show own_Ends _ _ _ _ (T39.setTop (mkF m 130 #[.val (.int x0), .val (.int x1), .val (.int (0 : Int32)), .val (.ref rLESS), .val (.int (1 : Int32)), .val (.int (2 : Int32)), .val (.int (0 : Int32))] []))
     refine own_st (fun t_ => XS.aloadN (own_here Y40) hx rfl (hb hby at_130) rfl rfl) ?_
     show own_Ends _ _ _ _ (T39.setTop (mkF m 131 #[.val (.int x0), .val (.int x1), .val (.int (0 : Int32)), .val (.ref rLESS), .val (.int (1 : Int32)), .val (.int (2 : Int32)), .val (.int (0 : Int32))] [(.ref rLESS)]))
     refine own_st (fun t_ => XS.iloadN (own_here Y40) hx rfl (hb hby at_131) rfl) ?_
     show own_Ends _ _ _ _ (T39.setTop (mkF m 132 #[.val (.int x0), .val (.int x1), .val (.int (0 : Int32)), .val (.ref rLESS), .val (.int (1 : Int32)), .val (.int (2 : Int32)), .val (.int (0 : Int32))] [(.int x1), (.ref rLESS)]))
     refine own_callV Y40 hx hZ (y := (⟨"com/example/poset/poset/core/Formula$Relation", "holds", "(I)Z"⟩ : MethodName)) (z := (⟨"com/example/poset/poset/core/Formula$Relation", "holds", "(I)Z"⟩ : MethodName)) hown (hw _ (List.mem_of_getElem? (i := 3) rfl)) (hw _ (List.mem_of_getElem? (i := 4) rfl)) (notFace_of_selects (args := #[]) (mvT hZ (hw _ (List.mem_of_getElem? (i := 6) rfl)))) (hw _ (List.mem_of_getElem? (i := 6) rfl)) (hw _ (List.mem_of_getElem? (i := 5) rfl)) (hw _ (List.mem_of_getElem? (i := 1) rfl)) (hw _ (List.mem_of_getElem? (i := 7) rfl)) (by decide) (a := rLESS) ELESS (argsL := [(.int x1)]) (rest := []) (own_rm1_0 l Z a0 hw [] rLESS x1  h0 n0  ELESS FLESS) (W := 0) (by decide) (by decide) (by decide) (by decide) rfl (by rw [hml]; rfl) (lenOf own_pd1 rfl) rfl (by show 2 * 0 + _ ≤ _; exact Nat.le_of_eq rfl) (hb hby at_132) (fun T53 h55 v56 Y54 q57 => ?_)
     obtain ⟨rfl, rfl⟩ := q57
     show own_Ends _ _ _ _ (T53.setTop (mkF m 135 #[.val (.int x0), .val (.int x1), .val (.int (0 : Int32)), .val (.ref rLESS), .val (.int (1 : Int32)), .val (.int (2 : Int32)), .val (.int (0 : Int32))] [(.int (own_b (decide (x1 < 0))))]))
     refine own_st (fun t_ => XS.iload (own_here Y54) hx rfl (hb hby at_135) rfl) ?_
     show own_Ends _ _ _ _ (T53.setTop (mkF m 137 #[.val (.int x0), .val (.int x1), .val (.int (0 : Int32)), .val (.ref rLESS), .val (.int (1 : Int32)), .val (.int (2 : Int32)), .val (.int (0 : Int32))] [(.int (0 : Int32)), (.int (own_b (decide (x1 < 0))))]))
     have s0 : (0 : Int32) < x1 := by have e0 : (0 : Int32).toInt = 0 := rfl; have := c91_41; have t := c101_47; simp only [own_lt, own_eq] at this t ⊢; omega
     refine own_st (fun t_ => XS.icmpNo (own_here Y54) hx rfl (hb hby at_137) rfl (XT.ii_ne_f (by simp [own_b, s0, c91_41, c101_47]))) ?_
     show own_Ends _ _ _ _ (T53.setTop (mkF m 140 #[.val (.int x0), .val (.int x1), .val (.int (0 : Int32)), .val (.ref rLESS), .val (.int (1 : Int32)), .val (.int (2 : Int32)), .val (.int (0 : Int32))] []))
     refine own_st (fun t_ => XS.iconst (own_here Y54) hx rfl (hb hby at_140) ) ?_
     show own_Ends _ _ _ _ (T53.setTop (mkF m 141 #[.val (.int x0), .val (.int x1), .val (.int (0 : Int32)), .val (.ref rLESS), .val (.int (1 : Int32)), .val (.int (2 : Int32)), .val (.int (0 : Int32))] [(.int (1 : Int32))]))
     refine own_st (fun t_ => XS.goto (own_here Y54) hx rfl (pc0 := 141) (pc' := 145) rfl (hb hby at_141) (by decide) (by decide)) ?_
     show own_Ends _ _ _ _ (T53.setTop (mkF m 145 #[.val (.int x0), .val (.int x1), .val (.int (0 : Int32)), .val (.ref rLESS), .val (.int (1 : Int32)), .val (.int (2 : Int32)), .val (.int (0 : Int32))] [(.int (1 : Int32))]))
     refine own_retN Y54 hx hlk (t := .boolean) hret (by simp) (hb hby at_145) (by decide) (by decide) ?_
     exact rfl
  ·
   show own_Ends _ _ _ _ (T0.setTop (mkF m 8 #[.val (.int x0), .val (.int x1), .val (.int (1 : Int32)), .unset, .unset, .unset, .unset] []))
   refine own_st (fun t_ => XS.iloadN (own_here Y0) hx rfl (hb hby at_8) rfl) ?_
   show own_Ends _ _ _ _ (T0.setTop (mkF m 9 #[.val (.int x0), .val (.int x1), .val (.int (1 : Int32)), .unset, .unset, .unset, .unset] [(.int (1 : Int32))]))
   refine own_st (fun t_ => XS.ifYes (own_here Y0) hx rfl (pc0 := 9) (pc' := 22) rfl (hb hby at_9) rfl (XT.i0_ne_t (by decide)) (by decide) (by decide)) ?_
   show own_Ends _ _ _ _ (T0.setTop (mkF m 22 #[.val (.int x0), .val (.int x1), .val (.int (1 : Int32)), .unset, .unset, .unset, .unset] []))
   refine own_st (fun t_ => XS.iloadN (own_here Y0) hx rfl (hb hby at_22) rfl) ?_
   show own_Ends _ _ _ _ (T0.setTop (mkF m 23 #[.val (.int x0), .val (.int x1), .val (.int (1 : Int32)), .unset, .unset, .unset, .unset] [(.int (1 : Int32))]))
   refine own_st (fun t_ => XS.iconst (own_here Y0) hx rfl (hb hby at_23) ) ?_
   show own_Ends _ _ _ _ (T0.setTop (mkF m 24 #[.val (.int x0), .val (.int x1), .val (.int (1 : Int32)), .unset, .unset, .unset, .unset] [(.int (1 : Int32)), (.int (1 : Int32))]))
   refine own_st (fun t_ => XS.icmpNo (own_here Y0) hx rfl (hb hby at_24) rfl (XT.ii_ne_f (by decide))) ?_
   show own_Ends _ _ _ _ (T0.setTop (mkF m 27 #[.val (.int x0), .val (.int x1), .val (.int (1 : Int32)), .unset, .unset, .unset, .unset] []))
   refine own_getS Y0 hx hZ hown (host := "") (Or.inl (hw _ (List.mem_of_getElem? (i := 21) rfl))) Via.refl SAT_MOST rfl (hb hby at_27) (fun T58 Y59 => ?_)
   show own_Ends _ _ _ _ (T58.setTop (mkF m 30 #[.val (.int x0), .val (.int x1), .val (.int (1 : Int32)), .unset, .unset, .unset, .unset] [(.ref rAT_MOST)]))
   refine own_st (fun t_ => XS.astoreN (own_here Y59) hx rfl (hb hby at_30) rfl rfl (l' := #[.val (.int x0), .val (.int x1), .val (.int (1 : Int32)), .val (.ref rAT_MOST), .unset, .unset, .unset]) rfl) ?_
   show own_Ends _ _ _ _ (T58.setTop (mkF m 31 #[.val (.int x0), .val (.int x1), .val (.int (1 : Int32)), .val (.ref rAT_MOST), .unset, .unset, .unset] []))
   refine own_st (fun t_ => XS.iconst (own_here Y59) hx rfl (hb hby at_31) ) ?_
   show own_Ends _ _ _ _ (T58.setTop (mkF m 32 #[.val (.int x0), .val (.int x1), .val (.int (1 : Int32)), .val (.ref rAT_MOST), .unset, .unset, .unset] [(.int (3 : Int32))]))
   refine own_st (fun t_ => XS.istore (own_here Y59) hx rfl (hb hby at_32) rfl (l' := #[.val (.int x0), .val (.int x1), .val (.int (1 : Int32)), .val (.ref rAT_MOST), .val (.int (3 : Int32)), .unset, .unset]) rfl) ?_
   show own_Ends _ _ _ _ (T58.setTop (mkF m 34 #[.val (.int x0), .val (.int x1), .val (.int (1 : Int32)), .val (.ref rAT_MOST), .val (.int (3 : Int32)), .unset, .unset] []))
   refine own_st (fun t_ => XS.goto (own_here Y59) hx rfl (pc0 := 34) (pc' := 90) rfl (hb hby at_34) (by decide) (by decide)) ?_
   show own_Ends _ _ _ _ (T58.setTop (mkF m 90 #[.val (.int x0), .val (.int x1), .val (.int (1 : Int32)), .val (.ref rAT_MOST), .val (.int (3 : Int32)), .unset, .unset] []))
   refine own_st (fun t_ => XS.iloadN (own_here Y59) hx rfl (hb hby at_90) rfl) ?_
   show own_Ends _ _ _ _ (T58.setTop (mkF m 91 #[.val (.int x0), .val (.int x1), .val (.int (1 : Int32)), .val (.ref rAT_MOST), .val (.int (3 : Int32)), .unset, .unset] [(.int x1)]))
   by_cases c91_60 : x1 < (0 : Int32)
   ·
    refine own_st (fun t_ => XS.ifNo (own_here Y59) hx rfl (hb hby at_91) rfl (XT.i0_ge_f c91_60)) ?_
    show own_Ends _ _ _ _ (T58.setTop (mkF m 94 #[.val (.int x0), .val (.int x1), .val (.int (1 : Int32)), .val (.ref rAT_MOST), .val (.int (3 : Int32)), .unset, .unset] []))
    refine own_st (fun t_ => XS.iconst (own_here Y59) hx rfl (hb hby at_94) ) ?_
    show own_Ends _ _ _ _ (T58.setTop (mkF m 95 #[.val (.int x0), .val (.int x1), .val (.int (1 : Int32)), .val (.ref rAT_MOST), .val (.int (3 : Int32)), .unset, .unset] [(.int (0 : Int32))]))
    refine own_st (fun t_ => XS.istore (own_here Y59) hx rfl (hb hby at_95) rfl (l' := #[.val (.int x0), .val (.int x1), .val (.int (1 : Int32)), .val (.ref rAT_MOST), .val (.int (3 : Int32)), .val (.int (0 : Int32)), .unset]) rfl) ?_
    show own_Ends _ _ _ _ (T58.setTop (mkF m 97 #[.val (.int x0), .val (.int x1), .val (.int (1 : Int32)), .val (.ref rAT_MOST), .val (.int (3 : Int32)), .val (.int (0 : Int32)), .unset] []))
    refine own_st (fun t_ => XS.goto (own_here Y59) hx rfl (pc0 := 97) (pc' := 113) rfl (hb hby at_97) (by decide) (by decide)) ?_
    show own_Ends _ _ _ _ (T58.setTop (mkF m 113 #[.val (.int x0), .val (.int x1), .val (.int (1 : Int32)), .val (.ref rAT_MOST), .val (.int (3 : Int32)), .val (.int (0 : Int32)), .unset] []))
    refine own_st (fun t_ => XS.iload (own_here Y59) hx rfl (hb hby at_113) rfl) ?_
    show own_Ends _ _ _ _ (T58.setTop (mkF m 115 #[.val (.int x0), .val (.int x1), .val (.int (1 : Int32)), .val (.ref rAT_MOST), .val (.int (3 : Int32)), .val (.int (0 : Int32)), .unset] [(.int (3 : Int32))]))
    refine own_st (fun t_ => XS.iload (own_here Y59) hx rfl (hb hby at_115) rfl) ?_
    show own_Ends _ _ _ _ (T58.setTop (mkF m 117 #[.val (.int x0), .val (.int x1), .val (.int (1 : Int32)), .val (.ref rAT_MOST), .val (.int (3 : Int32)), .val (.int (0 : Int32)), .unset] [(.int (0 : Int32)), (.int (3 : Int32))]))
    refine own_st (fun t_ => XS.ishr (own_here Y59) hx rfl (hb hby at_117) rfl) ?_
    show own_Ends _ _ _ _ (T58.setTop (mkF m 118 #[.val (.int x0), .val (.int x1), .val (.int (1 : Int32)), .val (.ref rAT_MOST), .val (.int (3 : Int32)), .val (.int (0 : Int32)), .unset] [(.int (3 : Int32))]))
    refine own_st (fun t_ => XS.iconst (own_here Y59) hx rfl (hb hby at_118) ) ?_
    show own_Ends _ _ _ _ (T58.setTop (mkF m 119 #[.val (.int x0), .val (.int x1), .val (.int (1 : Int32)), .val (.ref rAT_MOST), .val (.int (3 : Int32)), .val (.int (0 : Int32)), .unset] [(.int (1 : Int32)), (.int (3 : Int32))]))
    refine own_st (fun t_ => XS.iand (own_here Y59) hx rfl (hb hby at_119) rfl) ?_
    show own_Ends _ _ _ _ (T58.setTop (mkF m 120 #[.val (.int x0), .val (.int x1), .val (.int (1 : Int32)), .val (.ref rAT_MOST), .val (.int (3 : Int32)), .val (.int (0 : Int32)), .unset] [(.int (1 : Int32))]))
    refine own_st (fun t_ => XS.ifNo (own_here Y59) hx rfl (hb hby at_120) rfl (XT.i0_eq_f (by decide))) ?_
    show own_Ends _ _ _ _ (T58.setTop (mkF m 123 #[.val (.int x0), .val (.int x1), .val (.int (1 : Int32)), .val (.ref rAT_MOST), .val (.int (3 : Int32)), .val (.int (0 : Int32)), .unset] []))
    refine own_st (fun t_ => XS.iconst (own_here Y59) hx rfl (hb hby at_123) ) ?_
    show own_Ends _ _ _ _ (T58.setTop (mkF m 124 #[.val (.int x0), .val (.int x1), .val (.int (1 : Int32)), .val (.ref rAT_MOST), .val (.int (3 : Int32)), .val (.int (0 : Int32)), .unset] [(.int (1 : Int32))]))
    refine own_st (fun t_ => XS.goto (own_here Y59) hx rfl (pc0 := 124) (pc' := 128) rfl (hb hby at_124) (by decide) (by decide)) ?_
    show own_Ends _ _ _ _ (T58.setTop (mkF m 128 #[.val (.int x0), .val (.int x1), .val (.int (1 : Int32)), .val (.ref rAT_MOST), .val (.int (3 : Int32)), .val (.int (0 : Int32)), .unset] [(.int (1 : Int32))]))
    refine own_st (fun t_ => XS.istore (own_here Y59) hx rfl (hb hby at_128) rfl (l' := #[.val (.int x0), .val (.int x1), .val (.int (1 : Int32)), .val (.ref rAT_MOST), .val (.int (3 : Int32)), .val (.int (0 : Int32)), .val (.int (1 : Int32))]) rfl) ?_
    show own_Ends _ _ _ _ (T58.setTop (mkF m 130 #[.val (.int x0), .val (.int x1), .val (.int (1 : Int32)), .val (.ref rAT_MOST), .val (.int (3 : Int32)), .val (.int (0 : Int32)), .val (.int (1 : Int32))] []))
    refine own_st (fun t_ => XS.aloadN (own_here Y59) hx rfl (hb hby at_130) rfl rfl) ?_
    show own_Ends _ _ _ _ (T58.setTop (mkF m 131 #[.val (.int x0), .val (.int x1), .val (.int (1 : Int32)), .val (.ref rAT_MOST), .val (.int (3 : Int32)), .val (.int (0 : Int32)), .val (.int (1 : Int32))] [(.ref rAT_MOST)]))
    refine own_st (fun t_ => XS.iloadN (own_here Y59) hx rfl (hb hby at_131) rfl) ?_
    show own_Ends _ _ _ _ (T58.setTop (mkF m 132 #[.val (.int x0), .val (.int x1), .val (.int (1 : Int32)), .val (.ref rAT_MOST), .val (.int (3 : Int32)), .val (.int (0 : Int32)), .val (.int (1 : Int32))] [(.int x1), (.ref rAT_MOST)]))
    refine own_callV Y59 hx hZ (y := (⟨"com/example/poset/poset/core/Formula$Relation", "holds", "(I)Z"⟩ : MethodName)) (z := (⟨"com/example/poset/poset/core/Formula$Relation", "holds", "(I)Z"⟩ : MethodName)) hown (hw _ (List.mem_of_getElem? (i := 3) rfl)) (hw _ (List.mem_of_getElem? (i := 4) rfl)) (notFace_of_selects (args := #[]) (mvT hZ (hw _ (List.mem_of_getElem? (i := 6) rfl)))) (hw _ (List.mem_of_getElem? (i := 6) rfl)) (hw _ (List.mem_of_getElem? (i := 5) rfl)) (hw _ (List.mem_of_getElem? (i := 1) rfl)) (hw _ (List.mem_of_getElem? (i := 7) rfl)) (by decide) (a := rAT_MOST) EAT_MOST (argsL := [(.int x1)]) (rest := []) (own_rm1_1 l Z a0 hw [] rAT_MOST x1  h0 n0  EAT_MOST FAT_MOST) (W := 0) (by decide) (by decide) (by decide) (by decide) rfl (by rw [hml]; rfl) (lenOf own_pd1 rfl) rfl (by show 2 * 0 + _ ≤ _; exact Nat.le_of_eq rfl) (hb hby at_132) (fun T61 h63 v64 Y62 q65 => ?_)
    obtain ⟨rfl, rfl⟩ := q65
    show own_Ends _ _ _ _ (T61.setTop (mkF m 135 #[.val (.int x0), .val (.int x1), .val (.int (1 : Int32)), .val (.ref rAT_MOST), .val (.int (3 : Int32)), .val (.int (0 : Int32)), .val (.int (1 : Int32))] [(.int (own_b (!decide (0 < x1))))]))
    refine own_st (fun t_ => XS.iload (own_here Y62) hx rfl (hb hby at_135) rfl) ?_
    show own_Ends _ _ _ _ (T61.setTop (mkF m 137 #[.val (.int x0), .val (.int x1), .val (.int (1 : Int32)), .val (.ref rAT_MOST), .val (.int (3 : Int32)), .val (.int (0 : Int32)), .val (.int (1 : Int32))] [(.int (1 : Int32)), (.int (own_b (!decide (0 < x1))))]))
    have s0 : ¬ (0 : Int32) < x1 := by have := c91_60; simp only [own_lt] at this ⊢; omega
    have s1 : ¬ x1 = 0 := by have := c91_60; simp only [own_lt, own_eq] at this ⊢; omega
    refine own_st (fun t_ => XS.icmpNo (own_here Y62) hx rfl (hb hby at_137) rfl (XT.ii_ne_f (by simp [own_b, s0, c91_60, s1]))) ?_
    show own_Ends _ _ _ _ (T61.setTop (mkF m 140 #[.val (.int x0), .val (.int x1), .val (.int (1 : Int32)), .val (.ref rAT_MOST), .val (.int (3 : Int32)), .val (.int (0 : Int32)), .val (.int (1 : Int32))] []))
    refine own_st (fun t_ => XS.iconst (own_here Y62) hx rfl (hb hby at_140) ) ?_
    show own_Ends _ _ _ _ (T61.setTop (mkF m 141 #[.val (.int x0), .val (.int x1), .val (.int (1 : Int32)), .val (.ref rAT_MOST), .val (.int (3 : Int32)), .val (.int (0 : Int32)), .val (.int (1 : Int32))] [(.int (1 : Int32))]))
    refine own_st (fun t_ => XS.goto (own_here Y62) hx rfl (pc0 := 141) (pc' := 145) rfl (hb hby at_141) (by decide) (by decide)) ?_
    show own_Ends _ _ _ _ (T61.setTop (mkF m 145 #[.val (.int x0), .val (.int x1), .val (.int (1 : Int32)), .val (.ref rAT_MOST), .val (.int (3 : Int32)), .val (.int (0 : Int32)), .val (.int (1 : Int32))] [(.int (1 : Int32))]))
    refine own_retN Y62 hx hlk (t := .boolean) hret (by simp) (hb hby at_145) (by decide) (by decide) ?_
    exact rfl
   ·
    refine own_st (fun t_ => XS.ifYes (own_here Y59) hx rfl (pc0 := 91) (pc' := 100) rfl (hb hby at_91) rfl (XT.i0_ge_t c91_60) (by decide) (by decide)) ?_
    show own_Ends _ _ _ _ (T58.setTop (mkF m 100 #[.val (.int x0), .val (.int x1), .val (.int (1 : Int32)), .val (.ref rAT_MOST), .val (.int (3 : Int32)), .unset, .unset] []))
    refine own_st (fun t_ => XS.iloadN (own_here Y59) hx rfl (hb hby at_100) rfl) ?_
    show own_Ends _ _ _ _ (T58.setTop (mkF m 101 #[.val (.int x0), .val (.int x1), .val (.int (1 : Int32)), .val (.ref rAT_MOST), .val (.int (3 : Int32)), .unset, .unset] [(.int x1)]))
    by_cases c101_66 : x1 = (0 : Int32)
    ·
     refine own_st (fun t_ => XS.ifNo (own_here Y59) hx rfl (hb hby at_101) rfl (XT.i0_ne_f c101_66)) ?_
     show own_Ends _ _ _ _ (T58.setTop (mkF m 104 #[.val (.int x0), .val (.int x1), .val (.int (1 : Int32)), .val (.ref rAT_MOST), .val (.int (3 : Int32)), .unset, .unset] []))
     refine own_st (fun t_ => XS.iconst (own_here Y59) hx rfl (hb hby at_104) ) ?_
     show own_Ends _ _ _ _ (T58.setTop (mkF m 105 #[.val (.int x0), .val (.int x1), .val (.int (1 : Int32)), .val (.ref rAT_MOST), .val (.int (3 : Int32)), .unset, .unset] [(.int (1 : Int32))]))
     refine own_st (fun t_ => XS.istore (own_here Y59) hx rfl (hb hby at_105) rfl (l' := #[.val (.int x0), .val (.int x1), .val (.int (1 : Int32)), .val (.ref rAT_MOST), .val (.int (3 : Int32)), .val (.int (1 : Int32)), .unset]) rfl) ?_
     show own_Ends _ _ _ _ (T58.setTop (mkF m 107 #[.val (.int x0), .val (.int x1), .val (.int (1 : Int32)), .val (.ref rAT_MOST), .val (.int (3 : Int32)), .val (.int (1 : Int32)), .unset] []))
     refine own_st (fun t_ => XS.goto (own_here Y59) hx rfl (pc0 := 107) (pc' := 113) rfl (hb hby at_107) (by decide) (by decide)) ?_
     show own_Ends _ _ _ _ (T58.setTop (mkF m 113 #[.val (.int x0), .val (.int x1), .val (.int (1 : Int32)), .val (.ref rAT_MOST), .val (.int (3 : Int32)), .val (.int (1 : Int32)), .unset] []))
     refine own_st (fun t_ => XS.iload (own_here Y59) hx rfl (hb hby at_113) rfl) ?_
     show own_Ends _ _ _ _ (T58.setTop (mkF m 115 #[.val (.int x0), .val (.int x1), .val (.int (1 : Int32)), .val (.ref rAT_MOST), .val (.int (3 : Int32)), .val (.int (1 : Int32)), .unset] [(.int (3 : Int32))]))
     refine own_st (fun t_ => XS.iload (own_here Y59) hx rfl (hb hby at_115) rfl) ?_
     show own_Ends _ _ _ _ (T58.setTop (mkF m 117 #[.val (.int x0), .val (.int x1), .val (.int (1 : Int32)), .val (.ref rAT_MOST), .val (.int (3 : Int32)), .val (.int (1 : Int32)), .unset] [(.int (1 : Int32)), (.int (3 : Int32))]))
     refine own_st (fun t_ => XS.ishr (own_here Y59) hx rfl (hb hby at_117) rfl) ?_
     show own_Ends _ _ _ _ (T58.setTop (mkF m 118 #[.val (.int x0), .val (.int x1), .val (.int (1 : Int32)), .val (.ref rAT_MOST), .val (.int (3 : Int32)), .val (.int (1 : Int32)), .unset] [(.int (1 : Int32))]))
     refine own_st (fun t_ => XS.iconst (own_here Y59) hx rfl (hb hby at_118) ) ?_
     show own_Ends _ _ _ _ (T58.setTop (mkF m 119 #[.val (.int x0), .val (.int x1), .val (.int (1 : Int32)), .val (.ref rAT_MOST), .val (.int (3 : Int32)), .val (.int (1 : Int32)), .unset] [(.int (1 : Int32)), (.int (1 : Int32))]))
     refine own_st (fun t_ => XS.iand (own_here Y59) hx rfl (hb hby at_119) rfl) ?_
     show own_Ends _ _ _ _ (T58.setTop (mkF m 120 #[.val (.int x0), .val (.int x1), .val (.int (1 : Int32)), .val (.ref rAT_MOST), .val (.int (3 : Int32)), .val (.int (1 : Int32)), .unset] [(.int (1 : Int32))]))
     refine own_st (fun t_ => XS.ifNo (own_here Y59) hx rfl (hb hby at_120) rfl (XT.i0_eq_f (by decide))) ?_
     show own_Ends _ _ _ _ (T58.setTop (mkF m 123 #[.val (.int x0), .val (.int x1), .val (.int (1 : Int32)), .val (.ref rAT_MOST), .val (.int (3 : Int32)), .val (.int (1 : Int32)), .unset] []))
     refine own_st (fun t_ => XS.iconst (own_here Y59) hx rfl (hb hby at_123) ) ?_
     show own_Ends _ _ _ _ (T58.setTop (mkF m 124 #[.val (.int x0), .val (.int x1), .val (.int (1 : Int32)), .val (.ref rAT_MOST), .val (.int (3 : Int32)), .val (.int (1 : Int32)), .unset] [(.int (1 : Int32))]))
     refine own_st (fun t_ => XS.goto (own_here Y59) hx rfl (pc0 := 124) (pc' := 128) rfl (hb hby at_124) (by decide) (by decide)) ?_
     show own_Ends _ _ _ _ (T58.setTop (mkF m 128 #[.val (.int x0), .val (.int x1), .val (.int (1 : Int32)), .val (.ref rAT_MOST), .val (.int (3 : Int32)), .val (.int (1 : Int32)), .unset] [(.int (1 : Int32))]))
     refine own_st (fun t_ => XS.istore (own_here Y59) hx rfl (hb hby at_128) rfl (l' := #[.val (.int x0), .val (.int x1), .val (.int (1 : Int32)), .val (.ref rAT_MOST), .val (.int (3 : Int32)), .val (.int (1 : Int32)), .val (.int (1 : Int32))]) rfl) ?_
     show own_Ends _ _ _ _ (T58.setTop (mkF m 130 #[.val (.int x0), .val (.int x1), .val (.int (1 : Int32)), .val (.ref rAT_MOST), .val (.int (3 : Int32)), .val (.int (1 : Int32)), .val (.int (1 : Int32))] []))
     refine own_st (fun t_ => XS.aloadN (own_here Y59) hx rfl (hb hby at_130) rfl rfl) ?_
     show own_Ends _ _ _ _ (T58.setTop (mkF m 131 #[.val (.int x0), .val (.int x1), .val (.int (1 : Int32)), .val (.ref rAT_MOST), .val (.int (3 : Int32)), .val (.int (1 : Int32)), .val (.int (1 : Int32))] [(.ref rAT_MOST)]))
     refine own_st (fun t_ => XS.iloadN (own_here Y59) hx rfl (hb hby at_131) rfl) ?_
     show own_Ends _ _ _ _ (T58.setTop (mkF m 132 #[.val (.int x0), .val (.int x1), .val (.int (1 : Int32)), .val (.ref rAT_MOST), .val (.int (3 : Int32)), .val (.int (1 : Int32)), .val (.int (1 : Int32))] [(.int x1), (.ref rAT_MOST)]))
     refine own_callV Y59 hx hZ (y := (⟨"com/example/poset/poset/core/Formula$Relation", "holds", "(I)Z"⟩ : MethodName)) (z := (⟨"com/example/poset/poset/core/Formula$Relation", "holds", "(I)Z"⟩ : MethodName)) hown (hw _ (List.mem_of_getElem? (i := 3) rfl)) (hw _ (List.mem_of_getElem? (i := 4) rfl)) (notFace_of_selects (args := #[]) (mvT hZ (hw _ (List.mem_of_getElem? (i := 6) rfl)))) (hw _ (List.mem_of_getElem? (i := 6) rfl)) (hw _ (List.mem_of_getElem? (i := 5) rfl)) (hw _ (List.mem_of_getElem? (i := 1) rfl)) (hw _ (List.mem_of_getElem? (i := 7) rfl)) (by decide) (a := rAT_MOST) EAT_MOST (argsL := [(.int x1)]) (rest := []) (own_rm1_1 l Z a0 hw [] rAT_MOST x1  h0 n0  EAT_MOST FAT_MOST) (W := 0) (by decide) (by decide) (by decide) (by decide) rfl (by rw [hml]; rfl) (lenOf own_pd1 rfl) rfl (by show 2 * 0 + _ ≤ _; exact Nat.le_of_eq rfl) (hb hby at_132) (fun T67 h69 v70 Y68 q71 => ?_)
     obtain ⟨rfl, rfl⟩ := q71
     show own_Ends _ _ _ _ (T67.setTop (mkF m 135 #[.val (.int x0), .val (.int x1), .val (.int (1 : Int32)), .val (.ref rAT_MOST), .val (.int (3 : Int32)), .val (.int (1 : Int32)), .val (.int (1 : Int32))] [(.int (own_b (!decide (0 < x1))))]))
     refine own_st (fun t_ => XS.iload (own_here Y68) hx rfl (hb hby at_135) rfl) ?_
     show own_Ends _ _ _ _ (T67.setTop (mkF m 137 #[.val (.int x0), .val (.int x1), .val (.int (1 : Int32)), .val (.ref rAT_MOST), .val (.int (3 : Int32)), .val (.int (1 : Int32)), .val (.int (1 : Int32))] [(.int (1 : Int32)), (.int (own_b (!decide (0 < x1))))]))
     have s0 : ¬ (0 : Int32) < x1 := by have := c101_66; simp only [own_lt, own_eq] at this ⊢; omega
     refine own_st (fun t_ => XS.icmpNo (own_here Y68) hx rfl (hb hby at_137) rfl (XT.ii_ne_f (by simp [own_b, s0, c91_60, c101_66]))) ?_
     show own_Ends _ _ _ _ (T67.setTop (mkF m 140 #[.val (.int x0), .val (.int x1), .val (.int (1 : Int32)), .val (.ref rAT_MOST), .val (.int (3 : Int32)), .val (.int (1 : Int32)), .val (.int (1 : Int32))] []))
     refine own_st (fun t_ => XS.iconst (own_here Y68) hx rfl (hb hby at_140) ) ?_
     show own_Ends _ _ _ _ (T67.setTop (mkF m 141 #[.val (.int x0), .val (.int x1), .val (.int (1 : Int32)), .val (.ref rAT_MOST), .val (.int (3 : Int32)), .val (.int (1 : Int32)), .val (.int (1 : Int32))] [(.int (1 : Int32))]))
     refine own_st (fun t_ => XS.goto (own_here Y68) hx rfl (pc0 := 141) (pc' := 145) rfl (hb hby at_141) (by decide) (by decide)) ?_
     show own_Ends _ _ _ _ (T67.setTop (mkF m 145 #[.val (.int x0), .val (.int x1), .val (.int (1 : Int32)), .val (.ref rAT_MOST), .val (.int (3 : Int32)), .val (.int (1 : Int32)), .val (.int (1 : Int32))] [(.int (1 : Int32))]))
     refine own_retN Y68 hx hlk (t := .boolean) hret (by simp) (hb hby at_145) (by decide) (by decide) ?_
     exact rfl
    ·
     refine own_st (fun t_ => XS.ifYes (own_here Y59) hx rfl (pc0 := 101) (pc' := 110) rfl (hb hby at_101) rfl (XT.i0_ne_t c101_66) (by decide) (by decide)) ?_
     show own_Ends _ _ _ _ (T58.setTop (mkF m 110 #[.val (.int x0), .val (.int x1), .val (.int (1 : Int32)), .val (.ref rAT_MOST), .val (.int (3 : Int32)), .unset, .unset] []))
     refine own_st (fun t_ => XS.iconst (own_here Y59) hx rfl (hb hby at_110) ) ?_
     show own_Ends _ _ _ _ (T58.setTop (mkF m 111 #[.val (.int x0), .val (.int x1), .val (.int (1 : Int32)), .val (.ref rAT_MOST), .val (.int (3 : Int32)), .unset, .unset] [(.int (2 : Int32))]))
     refine own_st (fun t_ => XS.istore (own_here Y59) hx rfl (hb hby at_111) rfl (l' := #[.val (.int x0), .val (.int x1), .val (.int (1 : Int32)), .val (.ref rAT_MOST), .val (.int (3 : Int32)), .val (.int (2 : Int32)), .unset]) rfl) ?_
     show own_Ends _ _ _ _ (T58.setTop (mkF m 113 #[.val (.int x0), .val (.int x1), .val (.int (1 : Int32)), .val (.ref rAT_MOST), .val (.int (3 : Int32)), .val (.int (2 : Int32)), .unset] []))
     refine own_st (fun t_ => XS.iload (own_here Y59) hx rfl (hb hby at_113) rfl) ?_
     show own_Ends _ _ _ _ (T58.setTop (mkF m 115 #[.val (.int x0), .val (.int x1), .val (.int (1 : Int32)), .val (.ref rAT_MOST), .val (.int (3 : Int32)), .val (.int (2 : Int32)), .unset] [(.int (3 : Int32))]))
     refine own_st (fun t_ => XS.iload (own_here Y59) hx rfl (hb hby at_115) rfl) ?_
     show own_Ends _ _ _ _ (T58.setTop (mkF m 117 #[.val (.int x0), .val (.int x1), .val (.int (1 : Int32)), .val (.ref rAT_MOST), .val (.int (3 : Int32)), .val (.int (2 : Int32)), .unset] [(.int (2 : Int32)), (.int (3 : Int32))]))
     refine own_st (fun t_ => XS.ishr (own_here Y59) hx rfl (hb hby at_117) rfl) ?_
     show own_Ends _ _ _ _ (T58.setTop (mkF m 118 #[.val (.int x0), .val (.int x1), .val (.int (1 : Int32)), .val (.ref rAT_MOST), .val (.int (3 : Int32)), .val (.int (2 : Int32)), .unset] [(.int (0 : Int32))]))
     refine own_st (fun t_ => XS.iconst (own_here Y59) hx rfl (hb hby at_118) ) ?_
     show own_Ends _ _ _ _ (T58.setTop (mkF m 119 #[.val (.int x0), .val (.int x1), .val (.int (1 : Int32)), .val (.ref rAT_MOST), .val (.int (3 : Int32)), .val (.int (2 : Int32)), .unset] [(.int (1 : Int32)), (.int (0 : Int32))]))
     refine own_st (fun t_ => XS.iand (own_here Y59) hx rfl (hb hby at_119) rfl) ?_
     show own_Ends _ _ _ _ (T58.setTop (mkF m 120 #[.val (.int x0), .val (.int x1), .val (.int (1 : Int32)), .val (.ref rAT_MOST), .val (.int (3 : Int32)), .val (.int (2 : Int32)), .unset] [(.int (0 : Int32))]))
     refine own_st (fun t_ => XS.ifYes (own_here Y59) hx rfl (pc0 := 120) (pc' := 127) rfl (hb hby at_120) rfl (XT.i0_eq_t (by decide)) (by decide) (by decide)) ?_
     show own_Ends _ _ _ _ (T58.setTop (mkF m 127 #[.val (.int x0), .val (.int x1), .val (.int (1 : Int32)), .val (.ref rAT_MOST), .val (.int (3 : Int32)), .val (.int (2 : Int32)), .unset] []))
     refine own_st (fun t_ => XS.iconst (own_here Y59) hx rfl (hb hby at_127) ) ?_
     show own_Ends _ _ _ _ (T58.setTop (mkF m 128 #[.val (.int x0), .val (.int x1), .val (.int (1 : Int32)), .val (.ref rAT_MOST), .val (.int (3 : Int32)), .val (.int (2 : Int32)), .unset] [(.int (0 : Int32))]))
     refine own_st (fun t_ => XS.istore (own_here Y59) hx rfl (hb hby at_128) rfl (l' := #[.val (.int x0), .val (.int x1), .val (.int (1 : Int32)), .val (.ref rAT_MOST), .val (.int (3 : Int32)), .val (.int (2 : Int32)), .val (.int (0 : Int32))]) rfl) ?_
     show own_Ends _ _ _ _ (T58.setTop (mkF m 130 #[.val (.int x0), .val (.int x1), .val (.int (1 : Int32)), .val (.ref rAT_MOST), .val (.int (3 : Int32)), .val (.int (2 : Int32)), .val (.int (0 : Int32))] []))
     refine own_st (fun t_ => XS.aloadN (own_here Y59) hx rfl (hb hby at_130) rfl rfl) ?_
     show own_Ends _ _ _ _ (T58.setTop (mkF m 131 #[.val (.int x0), .val (.int x1), .val (.int (1 : Int32)), .val (.ref rAT_MOST), .val (.int (3 : Int32)), .val (.int (2 : Int32)), .val (.int (0 : Int32))] [(.ref rAT_MOST)]))
     refine own_st (fun t_ => XS.iloadN (own_here Y59) hx rfl (hb hby at_131) rfl) ?_
     show own_Ends _ _ _ _ (T58.setTop (mkF m 132 #[.val (.int x0), .val (.int x1), .val (.int (1 : Int32)), .val (.ref rAT_MOST), .val (.int (3 : Int32)), .val (.int (2 : Int32)), .val (.int (0 : Int32))] [(.int x1), (.ref rAT_MOST)]))
     refine own_callV Y59 hx hZ (y := (⟨"com/example/poset/poset/core/Formula$Relation", "holds", "(I)Z"⟩ : MethodName)) (z := (⟨"com/example/poset/poset/core/Formula$Relation", "holds", "(I)Z"⟩ : MethodName)) hown (hw _ (List.mem_of_getElem? (i := 3) rfl)) (hw _ (List.mem_of_getElem? (i := 4) rfl)) (notFace_of_selects (args := #[]) (mvT hZ (hw _ (List.mem_of_getElem? (i := 6) rfl)))) (hw _ (List.mem_of_getElem? (i := 6) rfl)) (hw _ (List.mem_of_getElem? (i := 5) rfl)) (hw _ (List.mem_of_getElem? (i := 1) rfl)) (hw _ (List.mem_of_getElem? (i := 7) rfl)) (by decide) (a := rAT_MOST) EAT_MOST (argsL := [(.int x1)]) (rest := []) (own_rm1_1 l Z a0 hw [] rAT_MOST x1  h0 n0  EAT_MOST FAT_MOST) (W := 0) (by decide) (by decide) (by decide) (by decide) rfl (by rw [hml]; rfl) (lenOf own_pd1 rfl) rfl (by show 2 * 0 + _ ≤ _; exact Nat.le_of_eq rfl) (hb hby at_132) (fun T72 h74 v75 Y73 q76 => ?_)
     obtain ⟨rfl, rfl⟩ := q76
     show own_Ends _ _ _ _ (T72.setTop (mkF m 135 #[.val (.int x0), .val (.int x1), .val (.int (1 : Int32)), .val (.ref rAT_MOST), .val (.int (3 : Int32)), .val (.int (2 : Int32)), .val (.int (0 : Int32))] [(.int (own_b (!decide (0 < x1))))]))
     refine own_st (fun t_ => XS.iload (own_here Y73) hx rfl (hb hby at_135) rfl) ?_
     show own_Ends _ _ _ _ (T72.setTop (mkF m 137 #[.val (.int x0), .val (.int x1), .val (.int (1 : Int32)), .val (.ref rAT_MOST), .val (.int (3 : Int32)), .val (.int (2 : Int32)), .val (.int (0 : Int32))] [(.int (0 : Int32)), (.int (own_b (!decide (0 < x1))))]))
     have s0 : (0 : Int32) < x1 := by have e0 : (0 : Int32).toInt = 0 := rfl; have := c91_60; have t := c101_66; simp only [own_lt, own_eq] at this t ⊢; omega
     refine own_st (fun t_ => XS.icmpNo (own_here Y73) hx rfl (hb hby at_137) rfl (XT.ii_ne_f (by simp [own_b, s0, c91_60, c101_66]))) ?_
     show own_Ends _ _ _ _ (T72.setTop (mkF m 140 #[.val (.int x0), .val (.int x1), .val (.int (1 : Int32)), .val (.ref rAT_MOST), .val (.int (3 : Int32)), .val (.int (2 : Int32)), .val (.int (0 : Int32))] []))
     refine own_st (fun t_ => XS.iconst (own_here Y73) hx rfl (hb hby at_140) ) ?_
     show own_Ends _ _ _ _ (T72.setTop (mkF m 141 #[.val (.int x0), .val (.int x1), .val (.int (1 : Int32)), .val (.ref rAT_MOST), .val (.int (3 : Int32)), .val (.int (2 : Int32)), .val (.int (0 : Int32))] [(.int (1 : Int32))]))
     refine own_st (fun t_ => XS.goto (own_here Y73) hx rfl (pc0 := 141) (pc' := 145) rfl (hb hby at_141) (by decide) (by decide)) ?_
     show own_Ends _ _ _ _ (T72.setTop (mkF m 145 #[.val (.int x0), .val (.int x1), .val (.int (1 : Int32)), .val (.ref rAT_MOST), .val (.int (3 : Int32)), .val (.int (2 : Int32)), .val (.int (0 : Int32))] [(.int (1 : Int32))]))
     refine own_retN Y73 hx hlk (t := .boolean) hret (by simp) (hb hby at_145) (by decide) (by decide) ?_
     exact rfl
  ·
   show own_Ends _ _ _ _ (T0.setTop (mkF m 8 #[.val (.int x0), .val (.int x1), .val (.int (2 : Int32)), .unset, .unset, .unset, .unset] []))
   refine own_st (fun t_ => XS.iloadN (own_here Y0) hx rfl (hb hby at_8) rfl) ?_
   show own_Ends _ _ _ _ (T0.setTop (mkF m 9 #[.val (.int x0), .val (.int x1), .val (.int (2 : Int32)), .unset, .unset, .unset, .unset] [(.int (2 : Int32))]))
   refine own_st (fun t_ => XS.ifYes (own_here Y0) hx rfl (pc0 := 9) (pc' := 22) rfl (hb hby at_9) rfl (XT.i0_ne_t (by decide)) (by decide) (by decide)) ?_
   show own_Ends _ _ _ _ (T0.setTop (mkF m 22 #[.val (.int x0), .val (.int x1), .val (.int (2 : Int32)), .unset, .unset, .unset, .unset] []))
   refine own_st (fun t_ => XS.iloadN (own_here Y0) hx rfl (hb hby at_22) rfl) ?_
   show own_Ends _ _ _ _ (T0.setTop (mkF m 23 #[.val (.int x0), .val (.int x1), .val (.int (2 : Int32)), .unset, .unset, .unset, .unset] [(.int (2 : Int32))]))
   refine own_st (fun t_ => XS.iconst (own_here Y0) hx rfl (hb hby at_23) ) ?_
   show own_Ends _ _ _ _ (T0.setTop (mkF m 24 #[.val (.int x0), .val (.int x1), .val (.int (2 : Int32)), .unset, .unset, .unset, .unset] [(.int (1 : Int32)), (.int (2 : Int32))]))
   refine own_st (fun t_ => XS.icmpYes (own_here Y0) hx rfl (pc0 := 24) (pc' := 37) rfl (hb hby at_24) rfl (XT.ii_ne_t (by decide)) (by decide) (by decide)) ?_
   show own_Ends _ _ _ _ (T0.setTop (mkF m 37 #[.val (.int x0), .val (.int x1), .val (.int (2 : Int32)), .unset, .unset, .unset, .unset] []))
   refine own_st (fun t_ => XS.iloadN (own_here Y0) hx rfl (hb hby at_37) rfl) ?_
   show own_Ends _ _ _ _ (T0.setTop (mkF m 38 #[.val (.int x0), .val (.int x1), .val (.int (2 : Int32)), .unset, .unset, .unset, .unset] [(.int (2 : Int32))]))
   refine own_st (fun t_ => XS.iconst (own_here Y0) hx rfl (hb hby at_38) ) ?_
   show own_Ends _ _ _ _ (T0.setTop (mkF m 39 #[.val (.int x0), .val (.int x1), .val (.int (2 : Int32)), .unset, .unset, .unset, .unset] [(.int (2 : Int32)), (.int (2 : Int32))]))
   refine own_st (fun t_ => XS.icmpNo (own_here Y0) hx rfl (hb hby at_39) rfl (XT.ii_ne_f (by decide))) ?_
   show own_Ends _ _ _ _ (T0.setTop (mkF m 42 #[.val (.int x0), .val (.int x1), .val (.int (2 : Int32)), .unset, .unset, .unset, .unset] []))
   refine own_getS Y0 hx hZ hown (host := "") (Or.inl (hw _ (List.mem_of_getElem? (i := 25) rfl))) Via.refl SGREATER rfl (hb hby at_42) (fun T77 Y78 => ?_)
   show own_Ends _ _ _ _ (T77.setTop (mkF m 45 #[.val (.int x0), .val (.int x1), .val (.int (2 : Int32)), .unset, .unset, .unset, .unset] [(.ref rGREATER)]))
   refine own_st (fun t_ => XS.astoreN (own_here Y78) hx rfl (hb hby at_45) rfl rfl (l' := #[.val (.int x0), .val (.int x1), .val (.int (2 : Int32)), .val (.ref rGREATER), .unset, .unset, .unset]) rfl) ?_
   show own_Ends _ _ _ _ (T77.setTop (mkF m 46 #[.val (.int x0), .val (.int x1), .val (.int (2 : Int32)), .val (.ref rGREATER), .unset, .unset, .unset] []))
   refine own_st (fun t_ => XS.iconst (own_here Y78) hx rfl (hb hby at_46) ) ?_
   show own_Ends _ _ _ _ (T77.setTop (mkF m 47 #[.val (.int x0), .val (.int x1), .val (.int (2 : Int32)), .val (.ref rGREATER), .unset, .unset, .unset] [(.int (4 : Int32))]))
   refine own_st (fun t_ => XS.istore (own_here Y78) hx rfl (hb hby at_47) rfl (l' := #[.val (.int x0), .val (.int x1), .val (.int (2 : Int32)), .val (.ref rGREATER), .val (.int (4 : Int32)), .unset, .unset]) rfl) ?_
   show own_Ends _ _ _ _ (T77.setTop (mkF m 49 #[.val (.int x0), .val (.int x1), .val (.int (2 : Int32)), .val (.ref rGREATER), .val (.int (4 : Int32)), .unset, .unset] []))
   refine own_st (fun t_ => XS.goto (own_here Y78) hx rfl (pc0 := 49) (pc' := 90) rfl (hb hby at_49) (by decide) (by decide)) ?_
   show own_Ends _ _ _ _ (T77.setTop (mkF m 90 #[.val (.int x0), .val (.int x1), .val (.int (2 : Int32)), .val (.ref rGREATER), .val (.int (4 : Int32)), .unset, .unset] []))
   refine own_st (fun t_ => XS.iloadN (own_here Y78) hx rfl (hb hby at_90) rfl) ?_
   show own_Ends _ _ _ _ (T77.setTop (mkF m 91 #[.val (.int x0), .val (.int x1), .val (.int (2 : Int32)), .val (.ref rGREATER), .val (.int (4 : Int32)), .unset, .unset] [(.int x1)]))
   by_cases c91_79 : x1 < (0 : Int32)
   ·
    refine own_st (fun t_ => XS.ifNo (own_here Y78) hx rfl (hb hby at_91) rfl (XT.i0_ge_f c91_79)) ?_
    show own_Ends _ _ _ _ (T77.setTop (mkF m 94 #[.val (.int x0), .val (.int x1), .val (.int (2 : Int32)), .val (.ref rGREATER), .val (.int (4 : Int32)), .unset, .unset] []))
    refine own_st (fun t_ => XS.iconst (own_here Y78) hx rfl (hb hby at_94) ) ?_
    show own_Ends _ _ _ _ (T77.setTop (mkF m 95 #[.val (.int x0), .val (.int x1), .val (.int (2 : Int32)), .val (.ref rGREATER), .val (.int (4 : Int32)), .unset, .unset] [(.int (0 : Int32))]))
    refine own_st (fun t_ => XS.istore (own_here Y78) hx rfl (hb hby at_95) rfl (l' := #[.val (.int x0), .val (.int x1), .val (.int (2 : Int32)), .val (.ref rGREATER), .val (.int (4 : Int32)), .val (.int (0 : Int32)), .unset]) rfl) ?_
    show own_Ends _ _ _ _ (T77.setTop (mkF m 97 #[.val (.int x0), .val (.int x1), .val (.int (2 : Int32)), .val (.ref rGREATER), .val (.int (4 : Int32)), .val (.int (0 : Int32)), .unset] []))
    refine own_st (fun t_ => XS.goto (own_here Y78) hx rfl (pc0 := 97) (pc' := 113) rfl (hb hby at_97) (by decide) (by decide)) ?_
    show own_Ends _ _ _ _ (T77.setTop (mkF m 113 #[.val (.int x0), .val (.int x1), .val (.int (2 : Int32)), .val (.ref rGREATER), .val (.int (4 : Int32)), .val (.int (0 : Int32)), .unset] []))
    refine own_st (fun t_ => XS.iload (own_here Y78) hx rfl (hb hby at_113) rfl) ?_
    show own_Ends _ _ _ _ (T77.setTop (mkF m 115 #[.val (.int x0), .val (.int x1), .val (.int (2 : Int32)), .val (.ref rGREATER), .val (.int (4 : Int32)), .val (.int (0 : Int32)), .unset] [(.int (4 : Int32))]))
    refine own_st (fun t_ => XS.iload (own_here Y78) hx rfl (hb hby at_115) rfl) ?_
    show own_Ends _ _ _ _ (T77.setTop (mkF m 117 #[.val (.int x0), .val (.int x1), .val (.int (2 : Int32)), .val (.ref rGREATER), .val (.int (4 : Int32)), .val (.int (0 : Int32)), .unset] [(.int (0 : Int32)), (.int (4 : Int32))]))
    refine own_st (fun t_ => XS.ishr (own_here Y78) hx rfl (hb hby at_117) rfl) ?_
    show own_Ends _ _ _ _ (T77.setTop (mkF m 118 #[.val (.int x0), .val (.int x1), .val (.int (2 : Int32)), .val (.ref rGREATER), .val (.int (4 : Int32)), .val (.int (0 : Int32)), .unset] [(.int (4 : Int32))]))
    refine own_st (fun t_ => XS.iconst (own_here Y78) hx rfl (hb hby at_118) ) ?_
    show own_Ends _ _ _ _ (T77.setTop (mkF m 119 #[.val (.int x0), .val (.int x1), .val (.int (2 : Int32)), .val (.ref rGREATER), .val (.int (4 : Int32)), .val (.int (0 : Int32)), .unset] [(.int (1 : Int32)), (.int (4 : Int32))]))
    refine own_st (fun t_ => XS.iand (own_here Y78) hx rfl (hb hby at_119) rfl) ?_
    show own_Ends _ _ _ _ (T77.setTop (mkF m 120 #[.val (.int x0), .val (.int x1), .val (.int (2 : Int32)), .val (.ref rGREATER), .val (.int (4 : Int32)), .val (.int (0 : Int32)), .unset] [(.int (0 : Int32))]))
    refine own_st (fun t_ => XS.ifYes (own_here Y78) hx rfl (pc0 := 120) (pc' := 127) rfl (hb hby at_120) rfl (XT.i0_eq_t (by decide)) (by decide) (by decide)) ?_
    show own_Ends _ _ _ _ (T77.setTop (mkF m 127 #[.val (.int x0), .val (.int x1), .val (.int (2 : Int32)), .val (.ref rGREATER), .val (.int (4 : Int32)), .val (.int (0 : Int32)), .unset] []))
    refine own_st (fun t_ => XS.iconst (own_here Y78) hx rfl (hb hby at_127) ) ?_
    show own_Ends _ _ _ _ (T77.setTop (mkF m 128 #[.val (.int x0), .val (.int x1), .val (.int (2 : Int32)), .val (.ref rGREATER), .val (.int (4 : Int32)), .val (.int (0 : Int32)), .unset] [(.int (0 : Int32))]))
    refine own_st (fun t_ => XS.istore (own_here Y78) hx rfl (hb hby at_128) rfl (l' := #[.val (.int x0), .val (.int x1), .val (.int (2 : Int32)), .val (.ref rGREATER), .val (.int (4 : Int32)), .val (.int (0 : Int32)), .val (.int (0 : Int32))]) rfl) ?_
    show own_Ends _ _ _ _ (T77.setTop (mkF m 130 #[.val (.int x0), .val (.int x1), .val (.int (2 : Int32)), .val (.ref rGREATER), .val (.int (4 : Int32)), .val (.int (0 : Int32)), .val (.int (0 : Int32))] []))
    refine own_st (fun t_ => XS.aloadN (own_here Y78) hx rfl (hb hby at_130) rfl rfl) ?_
    show own_Ends _ _ _ _ (T77.setTop (mkF m 131 #[.val (.int x0), .val (.int x1), .val (.int (2 : Int32)), .val (.ref rGREATER), .val (.int (4 : Int32)), .val (.int (0 : Int32)), .val (.int (0 : Int32))] [(.ref rGREATER)]))
    refine own_st (fun t_ => XS.iloadN (own_here Y78) hx rfl (hb hby at_131) rfl) ?_
    show own_Ends _ _ _ _ (T77.setTop (mkF m 132 #[.val (.int x0), .val (.int x1), .val (.int (2 : Int32)), .val (.ref rGREATER), .val (.int (4 : Int32)), .val (.int (0 : Int32)), .val (.int (0 : Int32))] [(.int x1), (.ref rGREATER)]))
    refine own_callV Y78 hx hZ (y := (⟨"com/example/poset/poset/core/Formula$Relation", "holds", "(I)Z"⟩ : MethodName)) (z := (⟨"com/example/poset/poset/core/Formula$Relation", "holds", "(I)Z"⟩ : MethodName)) hown (hw _ (List.mem_of_getElem? (i := 3) rfl)) (hw _ (List.mem_of_getElem? (i := 4) rfl)) (notFace_of_selects (args := #[]) (mvT hZ (hw _ (List.mem_of_getElem? (i := 6) rfl)))) (hw _ (List.mem_of_getElem? (i := 6) rfl)) (hw _ (List.mem_of_getElem? (i := 5) rfl)) (hw _ (List.mem_of_getElem? (i := 1) rfl)) (hw _ (List.mem_of_getElem? (i := 7) rfl)) (by decide) (a := rGREATER) EGREATER (argsL := [(.int x1)]) (rest := []) (own_rm1_2 l Z a0 hw [] rGREATER x1  h0 n0  EGREATER FGREATER) (W := 0) (by decide) (by decide) (by decide) (by decide) rfl (by rw [hml]; rfl) (lenOf own_pd1 rfl) rfl (by show 2 * 0 + _ ≤ _; exact Nat.le_of_eq rfl) (hb hby at_132) (fun T80 h82 v83 Y81 q84 => ?_)
    obtain ⟨rfl, rfl⟩ := q84
    show own_Ends _ _ _ _ (T80.setTop (mkF m 135 #[.val (.int x0), .val (.int x1), .val (.int (2 : Int32)), .val (.ref rGREATER), .val (.int (4 : Int32)), .val (.int (0 : Int32)), .val (.int (0 : Int32))] [(.int (own_b (decide (0 < x1))))]))
    refine own_st (fun t_ => XS.iload (own_here Y81) hx rfl (hb hby at_135) rfl) ?_
    show own_Ends _ _ _ _ (T80.setTop (mkF m 137 #[.val (.int x0), .val (.int x1), .val (.int (2 : Int32)), .val (.ref rGREATER), .val (.int (4 : Int32)), .val (.int (0 : Int32)), .val (.int (0 : Int32))] [(.int (0 : Int32)), (.int (own_b (decide (0 < x1))))]))
    have s0 : ¬ (0 : Int32) < x1 := by have := c91_79; simp only [own_lt] at this ⊢; omega
    have s1 : ¬ x1 = 0 := by have := c91_79; simp only [own_lt, own_eq] at this ⊢; omega
    refine own_st (fun t_ => XS.icmpNo (own_here Y81) hx rfl (hb hby at_137) rfl (XT.ii_ne_f (by simp [own_b, s0, c91_79, s1]))) ?_
    show own_Ends _ _ _ _ (T80.setTop (mkF m 140 #[.val (.int x0), .val (.int x1), .val (.int (2 : Int32)), .val (.ref rGREATER), .val (.int (4 : Int32)), .val (.int (0 : Int32)), .val (.int (0 : Int32))] []))
    refine own_st (fun t_ => XS.iconst (own_here Y81) hx rfl (hb hby at_140) ) ?_
    show own_Ends _ _ _ _ (T80.setTop (mkF m 141 #[.val (.int x0), .val (.int x1), .val (.int (2 : Int32)), .val (.ref rGREATER), .val (.int (4 : Int32)), .val (.int (0 : Int32)), .val (.int (0 : Int32))] [(.int (1 : Int32))]))
    refine own_st (fun t_ => XS.goto (own_here Y81) hx rfl (pc0 := 141) (pc' := 145) rfl (hb hby at_141) (by decide) (by decide)) ?_
    show own_Ends _ _ _ _ (T80.setTop (mkF m 145 #[.val (.int x0), .val (.int x1), .val (.int (2 : Int32)), .val (.ref rGREATER), .val (.int (4 : Int32)), .val (.int (0 : Int32)), .val (.int (0 : Int32))] [(.int (1 : Int32))]))
    refine own_retN Y81 hx hlk (t := .boolean) hret (by simp) (hb hby at_145) (by decide) (by decide) ?_
    exact rfl
   ·
    refine own_st (fun t_ => XS.ifYes (own_here Y78) hx rfl (pc0 := 91) (pc' := 100) rfl (hb hby at_91) rfl (XT.i0_ge_t c91_79) (by decide) (by decide)) ?_
    show own_Ends _ _ _ _ (T77.setTop (mkF m 100 #[.val (.int x0), .val (.int x1), .val (.int (2 : Int32)), .val (.ref rGREATER), .val (.int (4 : Int32)), .unset, .unset] []))
    refine own_st (fun t_ => XS.iloadN (own_here Y78) hx rfl (hb hby at_100) rfl) ?_
    show own_Ends _ _ _ _ (T77.setTop (mkF m 101 #[.val (.int x0), .val (.int x1), .val (.int (2 : Int32)), .val (.ref rGREATER), .val (.int (4 : Int32)), .unset, .unset] [(.int x1)]))
    by_cases c101_85 : x1 = (0 : Int32)
    ·
     refine own_st (fun t_ => XS.ifNo (own_here Y78) hx rfl (hb hby at_101) rfl (XT.i0_ne_f c101_85)) ?_
     show own_Ends _ _ _ _ (T77.setTop (mkF m 104 #[.val (.int x0), .val (.int x1), .val (.int (2 : Int32)), .val (.ref rGREATER), .val (.int (4 : Int32)), .unset, .unset] []))
     refine own_st (fun t_ => XS.iconst (own_here Y78) hx rfl (hb hby at_104) ) ?_
     show own_Ends _ _ _ _ (T77.setTop (mkF m 105 #[.val (.int x0), .val (.int x1), .val (.int (2 : Int32)), .val (.ref rGREATER), .val (.int (4 : Int32)), .unset, .unset] [(.int (1 : Int32))]))
     refine own_st (fun t_ => XS.istore (own_here Y78) hx rfl (hb hby at_105) rfl (l' := #[.val (.int x0), .val (.int x1), .val (.int (2 : Int32)), .val (.ref rGREATER), .val (.int (4 : Int32)), .val (.int (1 : Int32)), .unset]) rfl) ?_
     show own_Ends _ _ _ _ (T77.setTop (mkF m 107 #[.val (.int x0), .val (.int x1), .val (.int (2 : Int32)), .val (.ref rGREATER), .val (.int (4 : Int32)), .val (.int (1 : Int32)), .unset] []))
     refine own_st (fun t_ => XS.goto (own_here Y78) hx rfl (pc0 := 107) (pc' := 113) rfl (hb hby at_107) (by decide) (by decide)) ?_
     show own_Ends _ _ _ _ (T77.setTop (mkF m 113 #[.val (.int x0), .val (.int x1), .val (.int (2 : Int32)), .val (.ref rGREATER), .val (.int (4 : Int32)), .val (.int (1 : Int32)), .unset] []))
     refine own_st (fun t_ => XS.iload (own_here Y78) hx rfl (hb hby at_113) rfl) ?_
     show own_Ends _ _ _ _ (T77.setTop (mkF m 115 #[.val (.int x0), .val (.int x1), .val (.int (2 : Int32)), .val (.ref rGREATER), .val (.int (4 : Int32)), .val (.int (1 : Int32)), .unset] [(.int (4 : Int32))]))
     refine own_st (fun t_ => XS.iload (own_here Y78) hx rfl (hb hby at_115) rfl) ?_
     show own_Ends _ _ _ _ (T77.setTop (mkF m 117 #[.val (.int x0), .val (.int x1), .val (.int (2 : Int32)), .val (.ref rGREATER), .val (.int (4 : Int32)), .val (.int (1 : Int32)), .unset] [(.int (1 : Int32)), (.int (4 : Int32))]))
     refine own_st (fun t_ => XS.ishr (own_here Y78) hx rfl (hb hby at_117) rfl) ?_
     show own_Ends _ _ _ _ (T77.setTop (mkF m 118 #[.val (.int x0), .val (.int x1), .val (.int (2 : Int32)), .val (.ref rGREATER), .val (.int (4 : Int32)), .val (.int (1 : Int32)), .unset] [(.int (2 : Int32))]))
     refine own_st (fun t_ => XS.iconst (own_here Y78) hx rfl (hb hby at_118) ) ?_
     show own_Ends _ _ _ _ (T77.setTop (mkF m 119 #[.val (.int x0), .val (.int x1), .val (.int (2 : Int32)), .val (.ref rGREATER), .val (.int (4 : Int32)), .val (.int (1 : Int32)), .unset] [(.int (1 : Int32)), (.int (2 : Int32))]))
     refine own_st (fun t_ => XS.iand (own_here Y78) hx rfl (hb hby at_119) rfl) ?_
     show own_Ends _ _ _ _ (T77.setTop (mkF m 120 #[.val (.int x0), .val (.int x1), .val (.int (2 : Int32)), .val (.ref rGREATER), .val (.int (4 : Int32)), .val (.int (1 : Int32)), .unset] [(.int (0 : Int32))]))
     refine own_st (fun t_ => XS.ifYes (own_here Y78) hx rfl (pc0 := 120) (pc' := 127) rfl (hb hby at_120) rfl (XT.i0_eq_t (by decide)) (by decide) (by decide)) ?_
     show own_Ends _ _ _ _ (T77.setTop (mkF m 127 #[.val (.int x0), .val (.int x1), .val (.int (2 : Int32)), .val (.ref rGREATER), .val (.int (4 : Int32)), .val (.int (1 : Int32)), .unset] []))
     refine own_st (fun t_ => XS.iconst (own_here Y78) hx rfl (hb hby at_127) ) ?_
     show own_Ends _ _ _ _ (T77.setTop (mkF m 128 #[.val (.int x0), .val (.int x1), .val (.int (2 : Int32)), .val (.ref rGREATER), .val (.int (4 : Int32)), .val (.int (1 : Int32)), .unset] [(.int (0 : Int32))]))
     refine own_st (fun t_ => XS.istore (own_here Y78) hx rfl (hb hby at_128) rfl (l' := #[.val (.int x0), .val (.int x1), .val (.int (2 : Int32)), .val (.ref rGREATER), .val (.int (4 : Int32)), .val (.int (1 : Int32)), .val (.int (0 : Int32))]) rfl) ?_
     show own_Ends _ _ _ _ (T77.setTop (mkF m 130 #[.val (.int x0), .val (.int x1), .val (.int (2 : Int32)), .val (.ref rGREATER), .val (.int (4 : Int32)), .val (.int (1 : Int32)), .val (.int (0 : Int32))] []))
     refine own_st (fun t_ => XS.aloadN (own_here Y78) hx rfl (hb hby at_130) rfl rfl) ?_
     show own_Ends _ _ _ _ (T77.setTop (mkF m 131 #[.val (.int x0), .val (.int x1), .val (.int (2 : Int32)), .val (.ref rGREATER), .val (.int (4 : Int32)), .val (.int (1 : Int32)), .val (.int (0 : Int32))] [(.ref rGREATER)]))
     refine own_st (fun t_ => XS.iloadN (own_here Y78) hx rfl (hb hby at_131) rfl) ?_
     show own_Ends _ _ _ _ (T77.setTop (mkF m 132 #[.val (.int x0), .val (.int x1), .val (.int (2 : Int32)), .val (.ref rGREATER), .val (.int (4 : Int32)), .val (.int (1 : Int32)), .val (.int (0 : Int32))] [(.int x1), (.ref rGREATER)]))
     refine own_callV Y78 hx hZ (y := (⟨"com/example/poset/poset/core/Formula$Relation", "holds", "(I)Z"⟩ : MethodName)) (z := (⟨"com/example/poset/poset/core/Formula$Relation", "holds", "(I)Z"⟩ : MethodName)) hown (hw _ (List.mem_of_getElem? (i := 3) rfl)) (hw _ (List.mem_of_getElem? (i := 4) rfl)) (notFace_of_selects (args := #[]) (mvT hZ (hw _ (List.mem_of_getElem? (i := 6) rfl)))) (hw _ (List.mem_of_getElem? (i := 6) rfl)) (hw _ (List.mem_of_getElem? (i := 5) rfl)) (hw _ (List.mem_of_getElem? (i := 1) rfl)) (hw _ (List.mem_of_getElem? (i := 7) rfl)) (by decide) (a := rGREATER) EGREATER (argsL := [(.int x1)]) (rest := []) (own_rm1_2 l Z a0 hw [] rGREATER x1  h0 n0  EGREATER FGREATER) (W := 0) (by decide) (by decide) (by decide) (by decide) rfl (by rw [hml]; rfl) (lenOf own_pd1 rfl) rfl (by show 2 * 0 + _ ≤ _; exact Nat.le_of_eq rfl) (hb hby at_132) (fun T86 h88 v89 Y87 q90 => ?_)
     obtain ⟨rfl, rfl⟩ := q90
     show own_Ends _ _ _ _ (T86.setTop (mkF m 135 #[.val (.int x0), .val (.int x1), .val (.int (2 : Int32)), .val (.ref rGREATER), .val (.int (4 : Int32)), .val (.int (1 : Int32)), .val (.int (0 : Int32))] [(.int (own_b (decide (0 < x1))))]))
     refine own_st (fun t_ => XS.iload (own_here Y87) hx rfl (hb hby at_135) rfl) ?_
     show own_Ends _ _ _ _ (T86.setTop (mkF m 137 #[.val (.int x0), .val (.int x1), .val (.int (2 : Int32)), .val (.ref rGREATER), .val (.int (4 : Int32)), .val (.int (1 : Int32)), .val (.int (0 : Int32))] [(.int (0 : Int32)), (.int (own_b (decide (0 < x1))))]))
     have s0 : ¬ (0 : Int32) < x1 := by have := c101_85; simp only [own_lt, own_eq] at this ⊢; omega
     refine own_st (fun t_ => XS.icmpNo (own_here Y87) hx rfl (hb hby at_137) rfl (XT.ii_ne_f (by simp [own_b, s0, c91_79, c101_85]))) ?_
     show own_Ends _ _ _ _ (T86.setTop (mkF m 140 #[.val (.int x0), .val (.int x1), .val (.int (2 : Int32)), .val (.ref rGREATER), .val (.int (4 : Int32)), .val (.int (1 : Int32)), .val (.int (0 : Int32))] []))
     refine own_st (fun t_ => XS.iconst (own_here Y87) hx rfl (hb hby at_140) ) ?_
     show own_Ends _ _ _ _ (T86.setTop (mkF m 141 #[.val (.int x0), .val (.int x1), .val (.int (2 : Int32)), .val (.ref rGREATER), .val (.int (4 : Int32)), .val (.int (1 : Int32)), .val (.int (0 : Int32))] [(.int (1 : Int32))]))
     refine own_st (fun t_ => XS.goto (own_here Y87) hx rfl (pc0 := 141) (pc' := 145) rfl (hb hby at_141) (by decide) (by decide)) ?_
     show own_Ends _ _ _ _ (T86.setTop (mkF m 145 #[.val (.int x0), .val (.int x1), .val (.int (2 : Int32)), .val (.ref rGREATER), .val (.int (4 : Int32)), .val (.int (1 : Int32)), .val (.int (0 : Int32))] [(.int (1 : Int32))]))
     refine own_retN Y87 hx hlk (t := .boolean) hret (by simp) (hb hby at_145) (by decide) (by decide) ?_
     exact rfl
    ·
     refine own_st (fun t_ => XS.ifYes (own_here Y78) hx rfl (pc0 := 101) (pc' := 110) rfl (hb hby at_101) rfl (XT.i0_ne_t c101_85) (by decide) (by decide)) ?_
     show own_Ends _ _ _ _ (T77.setTop (mkF m 110 #[.val (.int x0), .val (.int x1), .val (.int (2 : Int32)), .val (.ref rGREATER), .val (.int (4 : Int32)), .unset, .unset] []))
     refine own_st (fun t_ => XS.iconst (own_here Y78) hx rfl (hb hby at_110) ) ?_
     show own_Ends _ _ _ _ (T77.setTop (mkF m 111 #[.val (.int x0), .val (.int x1), .val (.int (2 : Int32)), .val (.ref rGREATER), .val (.int (4 : Int32)), .unset, .unset] [(.int (2 : Int32))]))
     refine own_st (fun t_ => XS.istore (own_here Y78) hx rfl (hb hby at_111) rfl (l' := #[.val (.int x0), .val (.int x1), .val (.int (2 : Int32)), .val (.ref rGREATER), .val (.int (4 : Int32)), .val (.int (2 : Int32)), .unset]) rfl) ?_
     show own_Ends _ _ _ _ (T77.setTop (mkF m 113 #[.val (.int x0), .val (.int x1), .val (.int (2 : Int32)), .val (.ref rGREATER), .val (.int (4 : Int32)), .val (.int (2 : Int32)), .unset] []))
     refine own_st (fun t_ => XS.iload (own_here Y78) hx rfl (hb hby at_113) rfl) ?_
     show own_Ends _ _ _ _ (T77.setTop (mkF m 115 #[.val (.int x0), .val (.int x1), .val (.int (2 : Int32)), .val (.ref rGREATER), .val (.int (4 : Int32)), .val (.int (2 : Int32)), .unset] [(.int (4 : Int32))]))
     refine own_st (fun t_ => XS.iload (own_here Y78) hx rfl (hb hby at_115) rfl) ?_
     show own_Ends _ _ _ _ (T77.setTop (mkF m 117 #[.val (.int x0), .val (.int x1), .val (.int (2 : Int32)), .val (.ref rGREATER), .val (.int (4 : Int32)), .val (.int (2 : Int32)), .unset] [(.int (2 : Int32)), (.int (4 : Int32))]))
     refine own_st (fun t_ => XS.ishr (own_here Y78) hx rfl (hb hby at_117) rfl) ?_
     show own_Ends _ _ _ _ (T77.setTop (mkF m 118 #[.val (.int x0), .val (.int x1), .val (.int (2 : Int32)), .val (.ref rGREATER), .val (.int (4 : Int32)), .val (.int (2 : Int32)), .unset] [(.int (1 : Int32))]))
     refine own_st (fun t_ => XS.iconst (own_here Y78) hx rfl (hb hby at_118) ) ?_
     show own_Ends _ _ _ _ (T77.setTop (mkF m 119 #[.val (.int x0), .val (.int x1), .val (.int (2 : Int32)), .val (.ref rGREATER), .val (.int (4 : Int32)), .val (.int (2 : Int32)), .unset] [(.int (1 : Int32)), (.int (1 : Int32))]))
     refine own_st (fun t_ => XS.iand (own_here Y78) hx rfl (hb hby at_119) rfl) ?_
     show own_Ends _ _ _ _ (T77.setTop (mkF m 120 #[.val (.int x0), .val (.int x1), .val (.int (2 : Int32)), .val (.ref rGREATER), .val (.int (4 : Int32)), .val (.int (2 : Int32)), .unset] [(.int (1 : Int32))]))
     refine own_st (fun t_ => XS.ifNo (own_here Y78) hx rfl (hb hby at_120) rfl (XT.i0_eq_f (by decide))) ?_
     show own_Ends _ _ _ _ (T77.setTop (mkF m 123 #[.val (.int x0), .val (.int x1), .val (.int (2 : Int32)), .val (.ref rGREATER), .val (.int (4 : Int32)), .val (.int (2 : Int32)), .unset] []))
     refine own_st (fun t_ => XS.iconst (own_here Y78) hx rfl (hb hby at_123) ) ?_
     show own_Ends _ _ _ _ (T77.setTop (mkF m 124 #[.val (.int x0), .val (.int x1), .val (.int (2 : Int32)), .val (.ref rGREATER), .val (.int (4 : Int32)), .val (.int (2 : Int32)), .unset] [(.int (1 : Int32))]))
     refine own_st (fun t_ => XS.goto (own_here Y78) hx rfl (pc0 := 124) (pc' := 128) rfl (hb hby at_124) (by decide) (by decide)) ?_
     show own_Ends _ _ _ _ (T77.setTop (mkF m 128 #[.val (.int x0), .val (.int x1), .val (.int (2 : Int32)), .val (.ref rGREATER), .val (.int (4 : Int32)), .val (.int (2 : Int32)), .unset] [(.int (1 : Int32))]))
     refine own_st (fun t_ => XS.istore (own_here Y78) hx rfl (hb hby at_128) rfl (l' := #[.val (.int x0), .val (.int x1), .val (.int (2 : Int32)), .val (.ref rGREATER), .val (.int (4 : Int32)), .val (.int (2 : Int32)), .val (.int (1 : Int32))]) rfl) ?_
     show own_Ends _ _ _ _ (T77.setTop (mkF m 130 #[.val (.int x0), .val (.int x1), .val (.int (2 : Int32)), .val (.ref rGREATER), .val (.int (4 : Int32)), .val (.int (2 : Int32)), .val (.int (1 : Int32))] []))
     refine own_st (fun t_ => XS.aloadN (own_here Y78) hx rfl (hb hby at_130) rfl rfl) ?_
     show own_Ends _ _ _ _ (T77.setTop (mkF m 131 #[.val (.int x0), .val (.int x1), .val (.int (2 : Int32)), .val (.ref rGREATER), .val (.int (4 : Int32)), .val (.int (2 : Int32)), .val (.int (1 : Int32))] [(.ref rGREATER)]))
     refine own_st (fun t_ => XS.iloadN (own_here Y78) hx rfl (hb hby at_131) rfl) ?_
     show own_Ends _ _ _ _ (T77.setTop (mkF m 132 #[.val (.int x0), .val (.int x1), .val (.int (2 : Int32)), .val (.ref rGREATER), .val (.int (4 : Int32)), .val (.int (2 : Int32)), .val (.int (1 : Int32))] [(.int x1), (.ref rGREATER)]))
     refine own_callV Y78 hx hZ (y := (⟨"com/example/poset/poset/core/Formula$Relation", "holds", "(I)Z"⟩ : MethodName)) (z := (⟨"com/example/poset/poset/core/Formula$Relation", "holds", "(I)Z"⟩ : MethodName)) hown (hw _ (List.mem_of_getElem? (i := 3) rfl)) (hw _ (List.mem_of_getElem? (i := 4) rfl)) (notFace_of_selects (args := #[]) (mvT hZ (hw _ (List.mem_of_getElem? (i := 6) rfl)))) (hw _ (List.mem_of_getElem? (i := 6) rfl)) (hw _ (List.mem_of_getElem? (i := 5) rfl)) (hw _ (List.mem_of_getElem? (i := 1) rfl)) (hw _ (List.mem_of_getElem? (i := 7) rfl)) (by decide) (a := rGREATER) EGREATER (argsL := [(.int x1)]) (rest := []) (own_rm1_2 l Z a0 hw [] rGREATER x1  h0 n0  EGREATER FGREATER) (W := 0) (by decide) (by decide) (by decide) (by decide) rfl (by rw [hml]; rfl) (lenOf own_pd1 rfl) rfl (by show 2 * 0 + _ ≤ _; exact Nat.le_of_eq rfl) (hb hby at_132) (fun T91 h93 v94 Y92 q95 => ?_)
     obtain ⟨rfl, rfl⟩ := q95
     show own_Ends _ _ _ _ (T91.setTop (mkF m 135 #[.val (.int x0), .val (.int x1), .val (.int (2 : Int32)), .val (.ref rGREATER), .val (.int (4 : Int32)), .val (.int (2 : Int32)), .val (.int (1 : Int32))] [(.int (own_b (decide (0 < x1))))]))
     refine own_st (fun t_ => XS.iload (own_here Y92) hx rfl (hb hby at_135) rfl) ?_
     show own_Ends _ _ _ _ (T91.setTop (mkF m 137 #[.val (.int x0), .val (.int x1), .val (.int (2 : Int32)), .val (.ref rGREATER), .val (.int (4 : Int32)), .val (.int (2 : Int32)), .val (.int (1 : Int32))] [(.int (1 : Int32)), (.int (own_b (decide (0 < x1))))]))
     have s0 : (0 : Int32) < x1 := by have e0 : (0 : Int32).toInt = 0 := rfl; have := c91_79; have t := c101_85; simp only [own_lt, own_eq] at this t ⊢; omega
     refine own_st (fun t_ => XS.icmpNo (own_here Y92) hx rfl (hb hby at_137) rfl (XT.ii_ne_f (by simp [own_b, s0, c91_79, c101_85]))) ?_
     show own_Ends _ _ _ _ (T91.setTop (mkF m 140 #[.val (.int x0), .val (.int x1), .val (.int (2 : Int32)), .val (.ref rGREATER), .val (.int (4 : Int32)), .val (.int (2 : Int32)), .val (.int (1 : Int32))] []))
     refine own_st (fun t_ => XS.iconst (own_here Y92) hx rfl (hb hby at_140) ) ?_
     show own_Ends _ _ _ _ (T91.setTop (mkF m 141 #[.val (.int x0), .val (.int x1), .val (.int (2 : Int32)), .val (.ref rGREATER), .val (.int (4 : Int32)), .val (.int (2 : Int32)), .val (.int (1 : Int32))] [(.int (1 : Int32))]))
     refine own_st (fun t_ => XS.goto (own_here Y92) hx rfl (pc0 := 141) (pc' := 145) rfl (hb hby at_141) (by decide) (by decide)) ?_
     show own_Ends _ _ _ _ (T91.setTop (mkF m 145 #[.val (.int x0), .val (.int x1), .val (.int (2 : Int32)), .val (.ref rGREATER), .val (.int (4 : Int32)), .val (.int (2 : Int32)), .val (.int (1 : Int32))] [(.int (1 : Int32))]))
     refine own_retN Y92 hx hlk (t := .boolean) hret (by simp) (hb hby at_145) (by decide) (by decide) ?_
     exact rfl
  ·
   show own_Ends _ _ _ _ (T0.setTop (mkF m 8 #[.val (.int x0), .val (.int x1), .val (.int (3 : Int32)), .unset, .unset, .unset, .unset] []))
   refine own_st (fun t_ => XS.iloadN (own_here Y0) hx rfl (hb hby at_8) rfl) ?_
   show own_Ends _ _ _ _ (T0.setTop (mkF m 9 #[.val (.int x0), .val (.int x1), .val (.int (3 : Int32)), .unset, .unset, .unset, .unset] [(.int (3 : Int32))]))
   refine own_st (fun t_ => XS.ifYes (own_here Y0) hx rfl (pc0 := 9) (pc' := 22) rfl (hb hby at_9) rfl (XT.i0_ne_t (by decide)) (by decide) (by decide)) ?_
   show own_Ends _ _ _ _ (T0.setTop (mkF m 22 #[.val (.int x0), .val (.int x1), .val (.int (3 : Int32)), .unset, .unset, .unset, .unset] []))
   refine own_st (fun t_ => XS.iloadN (own_here Y0) hx rfl (hb hby at_22) rfl) ?_
   show own_Ends _ _ _ _ (T0.setTop (mkF m 23 #[.val (.int x0), .val (.int x1), .val (.int (3 : Int32)), .unset, .unset, .unset, .unset] [(.int (3 : Int32))]))
   refine own_st (fun t_ => XS.iconst (own_here Y0) hx rfl (hb hby at_23) ) ?_
   show own_Ends _ _ _ _ (T0.setTop (mkF m 24 #[.val (.int x0), .val (.int x1), .val (.int (3 : Int32)), .unset, .unset, .unset, .unset] [(.int (1 : Int32)), (.int (3 : Int32))]))
   refine own_st (fun t_ => XS.icmpYes (own_here Y0) hx rfl (pc0 := 24) (pc' := 37) rfl (hb hby at_24) rfl (XT.ii_ne_t (by decide)) (by decide) (by decide)) ?_
   show own_Ends _ _ _ _ (T0.setTop (mkF m 37 #[.val (.int x0), .val (.int x1), .val (.int (3 : Int32)), .unset, .unset, .unset, .unset] []))
   refine own_st (fun t_ => XS.iloadN (own_here Y0) hx rfl (hb hby at_37) rfl) ?_
   show own_Ends _ _ _ _ (T0.setTop (mkF m 38 #[.val (.int x0), .val (.int x1), .val (.int (3 : Int32)), .unset, .unset, .unset, .unset] [(.int (3 : Int32))]))
   refine own_st (fun t_ => XS.iconst (own_here Y0) hx rfl (hb hby at_38) ) ?_
   show own_Ends _ _ _ _ (T0.setTop (mkF m 39 #[.val (.int x0), .val (.int x1), .val (.int (3 : Int32)), .unset, .unset, .unset, .unset] [(.int (2 : Int32)), (.int (3 : Int32))]))
   refine own_st (fun t_ => XS.icmpYes (own_here Y0) hx rfl (pc0 := 39) (pc' := 52) rfl (hb hby at_39) rfl (XT.ii_ne_t (by decide)) (by decide) (by decide)) ?_
   show own_Ends _ _ _ _ (T0.setTop (mkF m 52 #[.val (.int x0), .val (.int x1), .val (.int (3 : Int32)), .unset, .unset, .unset, .unset] []))
   refine own_st (fun t_ => XS.iloadN (own_here Y0) hx rfl (hb hby at_52) rfl) ?_
   show own_Ends _ _ _ _ (T0.setTop (mkF m 53 #[.val (.int x0), .val (.int x1), .val (.int (3 : Int32)), .unset, .unset, .unset, .unset] [(.int (3 : Int32))]))
   refine own_st (fun t_ => XS.iconst (own_here Y0) hx rfl (hb hby at_53) ) ?_
   show own_Ends _ _ _ _ (T0.setTop (mkF m 54 #[.val (.int x0), .val (.int x1), .val (.int (3 : Int32)), .unset, .unset, .unset, .unset] [(.int (3 : Int32)), (.int (3 : Int32))]))
   refine own_st (fun t_ => XS.icmpNo (own_here Y0) hx rfl (hb hby at_54) rfl (XT.ii_ne_f (by decide))) ?_
   show own_Ends _ _ _ _ (T0.setTop (mkF m 57 #[.val (.int x0), .val (.int x1), .val (.int (3 : Int32)), .unset, .unset, .unset, .unset] []))
   refine own_getS Y0 hx hZ hown (host := "") (Or.inl (hw _ (List.mem_of_getElem? (i := 23) rfl))) Via.refl SAT_LEAST rfl (hb hby at_57) (fun T96 Y97 => ?_)
   show own_Ends _ _ _ _ (T96.setTop (mkF m 60 #[.val (.int x0), .val (.int x1), .val (.int (3 : Int32)), .unset, .unset, .unset, .unset] [(.ref rAT_LEAST)]))
   refine own_st (fun t_ => XS.astoreN (own_here Y97) hx rfl (hb hby at_60) rfl rfl (l' := #[.val (.int x0), .val (.int x1), .val (.int (3 : Int32)), .val (.ref rAT_LEAST), .unset, .unset, .unset]) rfl) ?_
   show own_Ends _ _ _ _ (T96.setTop (mkF m 61 #[.val (.int x0), .val (.int x1), .val (.int (3 : Int32)), .val (.ref rAT_LEAST), .unset, .unset, .unset] []))
   refine own_st (fun t_ => XS.bipush (own_here Y97) hx rfl (hb hby at_61) ) ?_
   show own_Ends _ _ _ _ (T96.setTop (mkF m 63 #[.val (.int x0), .val (.int x1), .val (.int (3 : Int32)), .val (.ref rAT_LEAST), .unset, .unset, .unset] [(.int (6 : Int32))]))
   refine own_st (fun t_ => XS.istore (own_here Y97) hx rfl (hb hby at_63) rfl (l' := #[.val (.int x0), .val (.int x1), .val (.int (3 : Int32)), .val (.ref rAT_LEAST), .val (.int (6 : Int32)), .unset, .unset]) rfl) ?_
   show own_Ends _ _ _ _ (T96.setTop (mkF m 65 #[.val (.int x0), .val (.int x1), .val (.int (3 : Int32)), .val (.ref rAT_LEAST), .val (.int (6 : Int32)), .unset, .unset] []))
   refine own_st (fun t_ => XS.goto (own_here Y97) hx rfl (pc0 := 65) (pc' := 90) rfl (hb hby at_65) (by decide) (by decide)) ?_
   show own_Ends _ _ _ _ (T96.setTop (mkF m 90 #[.val (.int x0), .val (.int x1), .val (.int (3 : Int32)), .val (.ref rAT_LEAST), .val (.int (6 : Int32)), .unset, .unset] []))
   refine own_st (fun t_ => XS.iloadN (own_here Y97) hx rfl (hb hby at_90) rfl) ?_
   show own_Ends _ _ _ _ (T96.setTop (mkF m 91 #[.val (.int x0), .val (.int x1), .val (.int (3 : Int32)), .val (.ref rAT_LEAST), .val (.int (6 : Int32)), .unset, .unset] [(.int x1)]))
   by_cases c91_98 : x1 < (0 : Int32)
   ·
    refine own_st (fun t_ => XS.ifNo (own_here Y97) hx rfl (hb hby at_91) rfl (XT.i0_ge_f c91_98)) ?_
    show own_Ends _ _ _ _ (T96.setTop (mkF m 94 #[.val (.int x0), .val (.int x1), .val (.int (3 : Int32)), .val (.ref rAT_LEAST), .val (.int (6 : Int32)), .unset, .unset] []))
    refine own_st (fun t_ => XS.iconst (own_here Y97) hx rfl (hb hby at_94) ) ?_
    show own_Ends _ _ _ _ (T96.setTop (mkF m 95 #[.val (.int x0), .val (.int x1), .val (.int (3 : Int32)), .val (.ref rAT_LEAST), .val (.int (6 : Int32)), .unset, .unset] [(.int (0 : Int32))]))
    refine own_st (fun t_ => XS.istore (own_here Y97) hx rfl (hb hby at_95) rfl (l' := #[.val (.int x0), .val (.int x1), .val (.int (3 : Int32)), .val (.ref rAT_LEAST), .val (.int (6 : Int32)), .val (.int (0 : Int32)), .unset]) rfl) ?_
    show own_Ends _ _ _ _ (T96.setTop (mkF m 97 #[.val (.int x0), .val (.int x1), .val (.int (3 : Int32)), .val (.ref rAT_LEAST), .val (.int (6 : Int32)), .val (.int (0 : Int32)), .unset] []))
    refine own_st (fun t_ => XS.goto (own_here Y97) hx rfl (pc0 := 97) (pc' := 113) rfl (hb hby at_97) (by decide) (by decide)) ?_
    show own_Ends _ _ _ _ (T96.setTop (mkF m 113 #[.val (.int x0), .val (.int x1), .val (.int (3 : Int32)), .val (.ref rAT_LEAST), .val (.int (6 : Int32)), .val (.int (0 : Int32)), .unset] []))
    refine own_st (fun t_ => XS.iload (own_here Y97) hx rfl (hb hby at_113) rfl) ?_
    show own_Ends _ _ _ _ (T96.setTop (mkF m 115 #[.val (.int x0), .val (.int x1), .val (.int (3 : Int32)), .val (.ref rAT_LEAST), .val (.int (6 : Int32)), .val (.int (0 : Int32)), .unset] [(.int (6 : Int32))]))
    refine own_st (fun t_ => XS.iload (own_here Y97) hx rfl (hb hby at_115) rfl) ?_
    show own_Ends _ _ _ _ (T96.setTop (mkF m 117 #[.val (.int x0), .val (.int x1), .val (.int (3 : Int32)), .val (.ref rAT_LEAST), .val (.int (6 : Int32)), .val (.int (0 : Int32)), .unset] [(.int (0 : Int32)), (.int (6 : Int32))]))
    refine own_st (fun t_ => XS.ishr (own_here Y97) hx rfl (hb hby at_117) rfl) ?_
    show own_Ends _ _ _ _ (T96.setTop (mkF m 118 #[.val (.int x0), .val (.int x1), .val (.int (3 : Int32)), .val (.ref rAT_LEAST), .val (.int (6 : Int32)), .val (.int (0 : Int32)), .unset] [(.int (6 : Int32))]))
    refine own_st (fun t_ => XS.iconst (own_here Y97) hx rfl (hb hby at_118) ) ?_
    show own_Ends _ _ _ _ (T96.setTop (mkF m 119 #[.val (.int x0), .val (.int x1), .val (.int (3 : Int32)), .val (.ref rAT_LEAST), .val (.int (6 : Int32)), .val (.int (0 : Int32)), .unset] [(.int (1 : Int32)), (.int (6 : Int32))]))
    refine own_st (fun t_ => XS.iand (own_here Y97) hx rfl (hb hby at_119) rfl) ?_
    show own_Ends _ _ _ _ (T96.setTop (mkF m 120 #[.val (.int x0), .val (.int x1), .val (.int (3 : Int32)), .val (.ref rAT_LEAST), .val (.int (6 : Int32)), .val (.int (0 : Int32)), .unset] [(.int (0 : Int32))]))
    refine own_st (fun t_ => XS.ifYes (own_here Y97) hx rfl (pc0 := 120) (pc' := 127) rfl (hb hby at_120) rfl (XT.i0_eq_t (by decide)) (by decide) (by decide)) ?_
    show own_Ends _ _ _ _ (T96.setTop (mkF m 127 #[.val (.int x0), .val (.int x1), .val (.int (3 : Int32)), .val (.ref rAT_LEAST), .val (.int (6 : Int32)), .val (.int (0 : Int32)), .unset] []))
    refine own_st (fun t_ => XS.iconst (own_here Y97) hx rfl (hb hby at_127) ) ?_
    show own_Ends _ _ _ _ (T96.setTop (mkF m 128 #[.val (.int x0), .val (.int x1), .val (.int (3 : Int32)), .val (.ref rAT_LEAST), .val (.int (6 : Int32)), .val (.int (0 : Int32)), .unset] [(.int (0 : Int32))]))
    refine own_st (fun t_ => XS.istore (own_here Y97) hx rfl (hb hby at_128) rfl (l' := #[.val (.int x0), .val (.int x1), .val (.int (3 : Int32)), .val (.ref rAT_LEAST), .val (.int (6 : Int32)), .val (.int (0 : Int32)), .val (.int (0 : Int32))]) rfl) ?_
    show own_Ends _ _ _ _ (T96.setTop (mkF m 130 #[.val (.int x0), .val (.int x1), .val (.int (3 : Int32)), .val (.ref rAT_LEAST), .val (.int (6 : Int32)), .val (.int (0 : Int32)), .val (.int (0 : Int32))] []))
    refine own_st (fun t_ => XS.aloadN (own_here Y97) hx rfl (hb hby at_130) rfl rfl) ?_
    show own_Ends _ _ _ _ (T96.setTop (mkF m 131 #[.val (.int x0), .val (.int x1), .val (.int (3 : Int32)), .val (.ref rAT_LEAST), .val (.int (6 : Int32)), .val (.int (0 : Int32)), .val (.int (0 : Int32))] [(.ref rAT_LEAST)]))
    refine own_st (fun t_ => XS.iloadN (own_here Y97) hx rfl (hb hby at_131) rfl) ?_
    show own_Ends _ _ _ _ (T96.setTop (mkF m 132 #[.val (.int x0), .val (.int x1), .val (.int (3 : Int32)), .val (.ref rAT_LEAST), .val (.int (6 : Int32)), .val (.int (0 : Int32)), .val (.int (0 : Int32))] [(.int x1), (.ref rAT_LEAST)]))
    refine own_callV Y97 hx hZ (y := (⟨"com/example/poset/poset/core/Formula$Relation", "holds", "(I)Z"⟩ : MethodName)) (z := (⟨"com/example/poset/poset/core/Formula$Relation", "holds", "(I)Z"⟩ : MethodName)) hown (hw _ (List.mem_of_getElem? (i := 3) rfl)) (hw _ (List.mem_of_getElem? (i := 4) rfl)) (notFace_of_selects (args := #[]) (mvT hZ (hw _ (List.mem_of_getElem? (i := 6) rfl)))) (hw _ (List.mem_of_getElem? (i := 6) rfl)) (hw _ (List.mem_of_getElem? (i := 5) rfl)) (hw _ (List.mem_of_getElem? (i := 1) rfl)) (hw _ (List.mem_of_getElem? (i := 7) rfl)) (by decide) (a := rAT_LEAST) EAT_LEAST (argsL := [(.int x1)]) (rest := []) (own_rm1_3 l Z a0 hw [] rAT_LEAST x1  h0 n0  EAT_LEAST FAT_LEAST) (W := 0) (by decide) (by decide) (by decide) (by decide) rfl (by rw [hml]; rfl) (lenOf own_pd1 rfl) rfl (by show 2 * 0 + _ ≤ _; exact Nat.le_of_eq rfl) (hb hby at_132) (fun T99 h101 v102 Y100 q103 => ?_)
    obtain ⟨rfl, rfl⟩ := q103
    show own_Ends _ _ _ _ (T99.setTop (mkF m 135 #[.val (.int x0), .val (.int x1), .val (.int (3 : Int32)), .val (.ref rAT_LEAST), .val (.int (6 : Int32)), .val (.int (0 : Int32)), .val (.int (0 : Int32))] [(.int (own_b (!decide (x1 < 0))))]))
    refine own_st (fun t_ => XS.iload (own_here Y100) hx rfl (hb hby at_135) rfl) ?_
    show own_Ends _ _ _ _ (T99.setTop (mkF m 137 #[.val (.int x0), .val (.int x1), .val (.int (3 : Int32)), .val (.ref rAT_LEAST), .val (.int (6 : Int32)), .val (.int (0 : Int32)), .val (.int (0 : Int32))] [(.int (0 : Int32)), (.int (own_b (!decide (x1 < 0))))]))
    have s0 : ¬ (0 : Int32) < x1 := by have := c91_98; simp only [own_lt] at this ⊢; omega
    have s1 : ¬ x1 = 0 := by have := c91_98; simp only [own_lt, own_eq] at this ⊢; omega
    refine own_st (fun t_ => XS.icmpNo (own_here Y100) hx rfl (hb hby at_137) rfl (XT.ii_ne_f (by simp [own_b, s0, c91_98, s1]))) ?_
    show own_Ends _ _ _ _ (T99.setTop (mkF m 140 #[.val (.int x0), .val (.int x1), .val (.int (3 : Int32)), .val (.ref rAT_LEAST), .val (.int (6 : Int32)), .val (.int (0 : Int32)), .val (.int (0 : Int32))] []))
    refine own_st (fun t_ => XS.iconst (own_here Y100) hx rfl (hb hby at_140) ) ?_
    show own_Ends _ _ _ _ (T99.setTop (mkF m 141 #[.val (.int x0), .val (.int x1), .val (.int (3 : Int32)), .val (.ref rAT_LEAST), .val (.int (6 : Int32)), .val (.int (0 : Int32)), .val (.int (0 : Int32))] [(.int (1 : Int32))]))
    refine own_st (fun t_ => XS.goto (own_here Y100) hx rfl (pc0 := 141) (pc' := 145) rfl (hb hby at_141) (by decide) (by decide)) ?_
    show own_Ends _ _ _ _ (T99.setTop (mkF m 145 #[.val (.int x0), .val (.int x1), .val (.int (3 : Int32)), .val (.ref rAT_LEAST), .val (.int (6 : Int32)), .val (.int (0 : Int32)), .val (.int (0 : Int32))] [(.int (1 : Int32))]))
    refine own_retN Y100 hx hlk (t := .boolean) hret (by simp) (hb hby at_145) (by decide) (by decide) ?_
    exact rfl
   ·
    refine own_st (fun t_ => XS.ifYes (own_here Y97) hx rfl (pc0 := 91) (pc' := 100) rfl (hb hby at_91) rfl (XT.i0_ge_t c91_98) (by decide) (by decide)) ?_
    show own_Ends _ _ _ _ (T96.setTop (mkF m 100 #[.val (.int x0), .val (.int x1), .val (.int (3 : Int32)), .val (.ref rAT_LEAST), .val (.int (6 : Int32)), .unset, .unset] []))
    refine own_st (fun t_ => XS.iloadN (own_here Y97) hx rfl (hb hby at_100) rfl) ?_
    show own_Ends _ _ _ _ (T96.setTop (mkF m 101 #[.val (.int x0), .val (.int x1), .val (.int (3 : Int32)), .val (.ref rAT_LEAST), .val (.int (6 : Int32)), .unset, .unset] [(.int x1)]))
    by_cases c101_104 : x1 = (0 : Int32)
    ·
     refine own_st (fun t_ => XS.ifNo (own_here Y97) hx rfl (hb hby at_101) rfl (XT.i0_ne_f c101_104)) ?_
     show own_Ends _ _ _ _ (T96.setTop (mkF m 104 #[.val (.int x0), .val (.int x1), .val (.int (3 : Int32)), .val (.ref rAT_LEAST), .val (.int (6 : Int32)), .unset, .unset] []))
     refine own_st (fun t_ => XS.iconst (own_here Y97) hx rfl (hb hby at_104) ) ?_
     show own_Ends _ _ _ _ (T96.setTop (mkF m 105 #[.val (.int x0), .val (.int x1), .val (.int (3 : Int32)), .val (.ref rAT_LEAST), .val (.int (6 : Int32)), .unset, .unset] [(.int (1 : Int32))]))
     refine own_st (fun t_ => XS.istore (own_here Y97) hx rfl (hb hby at_105) rfl (l' := #[.val (.int x0), .val (.int x1), .val (.int (3 : Int32)), .val (.ref rAT_LEAST), .val (.int (6 : Int32)), .val (.int (1 : Int32)), .unset]) rfl) ?_
     show own_Ends _ _ _ _ (T96.setTop (mkF m 107 #[.val (.int x0), .val (.int x1), .val (.int (3 : Int32)), .val (.ref rAT_LEAST), .val (.int (6 : Int32)), .val (.int (1 : Int32)), .unset] []))
     refine own_st (fun t_ => XS.goto (own_here Y97) hx rfl (pc0 := 107) (pc' := 113) rfl (hb hby at_107) (by decide) (by decide)) ?_
     show own_Ends _ _ _ _ (T96.setTop (mkF m 113 #[.val (.int x0), .val (.int x1), .val (.int (3 : Int32)), .val (.ref rAT_LEAST), .val (.int (6 : Int32)), .val (.int (1 : Int32)), .unset] []))
     refine own_st (fun t_ => XS.iload (own_here Y97) hx rfl (hb hby at_113) rfl) ?_
     show own_Ends _ _ _ _ (T96.setTop (mkF m 115 #[.val (.int x0), .val (.int x1), .val (.int (3 : Int32)), .val (.ref rAT_LEAST), .val (.int (6 : Int32)), .val (.int (1 : Int32)), .unset] [(.int (6 : Int32))]))
     refine own_st (fun t_ => XS.iload (own_here Y97) hx rfl (hb hby at_115) rfl) ?_
     show own_Ends _ _ _ _ (T96.setTop (mkF m 117 #[.val (.int x0), .val (.int x1), .val (.int (3 : Int32)), .val (.ref rAT_LEAST), .val (.int (6 : Int32)), .val (.int (1 : Int32)), .unset] [(.int (1 : Int32)), (.int (6 : Int32))]))
     refine own_st (fun t_ => XS.ishr (own_here Y97) hx rfl (hb hby at_117) rfl) ?_
     show own_Ends _ _ _ _ (T96.setTop (mkF m 118 #[.val (.int x0), .val (.int x1), .val (.int (3 : Int32)), .val (.ref rAT_LEAST), .val (.int (6 : Int32)), .val (.int (1 : Int32)), .unset] [(.int (3 : Int32))]))
     refine own_st (fun t_ => XS.iconst (own_here Y97) hx rfl (hb hby at_118) ) ?_
     show own_Ends _ _ _ _ (T96.setTop (mkF m 119 #[.val (.int x0), .val (.int x1), .val (.int (3 : Int32)), .val (.ref rAT_LEAST), .val (.int (6 : Int32)), .val (.int (1 : Int32)), .unset] [(.int (1 : Int32)), (.int (3 : Int32))]))
     refine own_st (fun t_ => XS.iand (own_here Y97) hx rfl (hb hby at_119) rfl) ?_
     show own_Ends _ _ _ _ (T96.setTop (mkF m 120 #[.val (.int x0), .val (.int x1), .val (.int (3 : Int32)), .val (.ref rAT_LEAST), .val (.int (6 : Int32)), .val (.int (1 : Int32)), .unset] [(.int (1 : Int32))]))
     refine own_st (fun t_ => XS.ifNo (own_here Y97) hx rfl (hb hby at_120) rfl (XT.i0_eq_f (by decide))) ?_
     show own_Ends _ _ _ _ (T96.setTop (mkF m 123 #[.val (.int x0), .val (.int x1), .val (.int (3 : Int32)), .val (.ref rAT_LEAST), .val (.int (6 : Int32)), .val (.int (1 : Int32)), .unset] []))
     refine own_st (fun t_ => XS.iconst (own_here Y97) hx rfl (hb hby at_123) ) ?_
     show own_Ends _ _ _ _ (T96.setTop (mkF m 124 #[.val (.int x0), .val (.int x1), .val (.int (3 : Int32)), .val (.ref rAT_LEAST), .val (.int (6 : Int32)), .val (.int (1 : Int32)), .unset] [(.int (1 : Int32))]))
     refine own_st (fun t_ => XS.goto (own_here Y97) hx rfl (pc0 := 124) (pc' := 128) rfl (hb hby at_124) (by decide) (by decide)) ?_
     show own_Ends _ _ _ _ (T96.setTop (mkF m 128 #[.val (.int x0), .val (.int x1), .val (.int (3 : Int32)), .val (.ref rAT_LEAST), .val (.int (6 : Int32)), .val (.int (1 : Int32)), .unset] [(.int (1 : Int32))]))
     refine own_st (fun t_ => XS.istore (own_here Y97) hx rfl (hb hby at_128) rfl (l' := #[.val (.int x0), .val (.int x1), .val (.int (3 : Int32)), .val (.ref rAT_LEAST), .val (.int (6 : Int32)), .val (.int (1 : Int32)), .val (.int (1 : Int32))]) rfl) ?_
     show own_Ends _ _ _ _ (T96.setTop (mkF m 130 #[.val (.int x0), .val (.int x1), .val (.int (3 : Int32)), .val (.ref rAT_LEAST), .val (.int (6 : Int32)), .val (.int (1 : Int32)), .val (.int (1 : Int32))] []))
     refine own_st (fun t_ => XS.aloadN (own_here Y97) hx rfl (hb hby at_130) rfl rfl) ?_
     show own_Ends _ _ _ _ (T96.setTop (mkF m 131 #[.val (.int x0), .val (.int x1), .val (.int (3 : Int32)), .val (.ref rAT_LEAST), .val (.int (6 : Int32)), .val (.int (1 : Int32)), .val (.int (1 : Int32))] [(.ref rAT_LEAST)]))
     refine own_st (fun t_ => XS.iloadN (own_here Y97) hx rfl (hb hby at_131) rfl) ?_
     show own_Ends _ _ _ _ (T96.setTop (mkF m 132 #[.val (.int x0), .val (.int x1), .val (.int (3 : Int32)), .val (.ref rAT_LEAST), .val (.int (6 : Int32)), .val (.int (1 : Int32)), .val (.int (1 : Int32))] [(.int x1), (.ref rAT_LEAST)]))
     refine own_callV Y97 hx hZ (y := (⟨"com/example/poset/poset/core/Formula$Relation", "holds", "(I)Z"⟩ : MethodName)) (z := (⟨"com/example/poset/poset/core/Formula$Relation", "holds", "(I)Z"⟩ : MethodName)) hown (hw _ (List.mem_of_getElem? (i := 3) rfl)) (hw _ (List.mem_of_getElem? (i := 4) rfl)) (notFace_of_selects (args := #[]) (mvT hZ (hw _ (List.mem_of_getElem? (i := 6) rfl)))) (hw _ (List.mem_of_getElem? (i := 6) rfl)) (hw _ (List.mem_of_getElem? (i := 5) rfl)) (hw _ (List.mem_of_getElem? (i := 1) rfl)) (hw _ (List.mem_of_getElem? (i := 7) rfl)) (by decide) (a := rAT_LEAST) EAT_LEAST (argsL := [(.int x1)]) (rest := []) (own_rm1_3 l Z a0 hw [] rAT_LEAST x1  h0 n0  EAT_LEAST FAT_LEAST) (W := 0) (by decide) (by decide) (by decide) (by decide) rfl (by rw [hml]; rfl) (lenOf own_pd1 rfl) rfl (by show 2 * 0 + _ ≤ _; exact Nat.le_of_eq rfl) (hb hby at_132) (fun T105 h107 v108 Y106 q109 => ?_)
     obtain ⟨rfl, rfl⟩ := q109
     show own_Ends _ _ _ _ (T105.setTop (mkF m 135 #[.val (.int x0), .val (.int x1), .val (.int (3 : Int32)), .val (.ref rAT_LEAST), .val (.int (6 : Int32)), .val (.int (1 : Int32)), .val (.int (1 : Int32))] [(.int (own_b (!decide (x1 < 0))))]))
     refine own_st (fun t_ => XS.iload (own_here Y106) hx rfl (hb hby at_135) rfl) ?_
     show own_Ends _ _ _ _ (T105.setTop (mkF m 137 #[.val (.int x0), .val (.int x1), .val (.int (3 : Int32)), .val (.ref rAT_LEAST), .val (.int (6 : Int32)), .val (.int (1 : Int32)), .val (.int (1 : Int32))] [(.int (1 : Int32)), (.int (own_b (!decide (x1 < 0))))]))
     have s0 : ¬ (0 : Int32) < x1 := by have := c101_104; simp only [own_lt, own_eq] at this ⊢; omega
     refine own_st (fun t_ => XS.icmpNo (own_here Y106) hx rfl (hb hby at_137) rfl (XT.ii_ne_f (by simp [own_b, s0, c91_98, c101_104]))) ?_
     show own_Ends _ _ _ _ (T105.setTop (mkF m 140 #[.val (.int x0), .val (.int x1), .val (.int (3 : Int32)), .val (.ref rAT_LEAST), .val (.int (6 : Int32)), .val (.int (1 : Int32)), .val (.int (1 : Int32))] []))
     refine own_st (fun t_ => XS.iconst (own_here Y106) hx rfl (hb hby at_140) ) ?_
     show own_Ends _ _ _ _ (T105.setTop (mkF m 141 #[.val (.int x0), .val (.int x1), .val (.int (3 : Int32)), .val (.ref rAT_LEAST), .val (.int (6 : Int32)), .val (.int (1 : Int32)), .val (.int (1 : Int32))] [(.int (1 : Int32))]))
     refine own_st (fun t_ => XS.goto (own_here Y106) hx rfl (pc0 := 141) (pc' := 145) rfl (hb hby at_141) (by decide) (by decide)) ?_
     show own_Ends _ _ _ _ (T105.setTop (mkF m 145 #[.val (.int x0), .val (.int x1), .val (.int (3 : Int32)), .val (.ref rAT_LEAST), .val (.int (6 : Int32)), .val (.int (1 : Int32)), .val (.int (1 : Int32))] [(.int (1 : Int32))]))
     refine own_retN Y106 hx hlk (t := .boolean) hret (by simp) (hb hby at_145) (by decide) (by decide) ?_
     exact rfl
    ·
     refine own_st (fun t_ => XS.ifYes (own_here Y97) hx rfl (pc0 := 101) (pc' := 110) rfl (hb hby at_101) rfl (XT.i0_ne_t c101_104) (by decide) (by decide)) ?_
     show own_Ends _ _ _ _ (T96.setTop (mkF m 110 #[.val (.int x0), .val (.int x1), .val (.int (3 : Int32)), .val (.ref rAT_LEAST), .val (.int (6 : Int32)), .unset, .unset] []))
     refine own_st (fun t_ => XS.iconst (own_here Y97) hx rfl (hb hby at_110) ) ?_
     show own_Ends _ _ _ _ (T96.setTop (mkF m 111 #[.val (.int x0), .val (.int x1), .val (.int (3 : Int32)), .val (.ref rAT_LEAST), .val (.int (6 : Int32)), .unset, .unset] [(.int (2 : Int32))]))
     refine own_st (fun t_ => XS.istore (own_here Y97) hx rfl (hb hby at_111) rfl (l' := #[.val (.int x0), .val (.int x1), .val (.int (3 : Int32)), .val (.ref rAT_LEAST), .val (.int (6 : Int32)), .val (.int (2 : Int32)), .unset]) rfl) ?_
     show own_Ends _ _ _ _ (T96.setTop (mkF m 113 #[.val (.int x0), .val (.int x1), .val (.int (3 : Int32)), .val (.ref rAT_LEAST), .val (.int (6 : Int32)), .val (.int (2 : Int32)), .unset] []))
     refine own_st (fun t_ => XS.iload (own_here Y97) hx rfl (hb hby at_113) rfl) ?_
     show own_Ends _ _ _ _ (T96.setTop (mkF m 115 #[.val (.int x0), .val (.int x1), .val (.int (3 : Int32)), .val (.ref rAT_LEAST), .val (.int (6 : Int32)), .val (.int (2 : Int32)), .unset] [(.int (6 : Int32))]))
     refine own_st (fun t_ => XS.iload (own_here Y97) hx rfl (hb hby at_115) rfl) ?_
     show own_Ends _ _ _ _ (T96.setTop (mkF m 117 #[.val (.int x0), .val (.int x1), .val (.int (3 : Int32)), .val (.ref rAT_LEAST), .val (.int (6 : Int32)), .val (.int (2 : Int32)), .unset] [(.int (2 : Int32)), (.int (6 : Int32))]))
     refine own_st (fun t_ => XS.ishr (own_here Y97) hx rfl (hb hby at_117) rfl) ?_
     show own_Ends _ _ _ _ (T96.setTop (mkF m 118 #[.val (.int x0), .val (.int x1), .val (.int (3 : Int32)), .val (.ref rAT_LEAST), .val (.int (6 : Int32)), .val (.int (2 : Int32)), .unset] [(.int (1 : Int32))]))
     refine own_st (fun t_ => XS.iconst (own_here Y97) hx rfl (hb hby at_118) ) ?_
     show own_Ends _ _ _ _ (T96.setTop (mkF m 119 #[.val (.int x0), .val (.int x1), .val (.int (3 : Int32)), .val (.ref rAT_LEAST), .val (.int (6 : Int32)), .val (.int (2 : Int32)), .unset] [(.int (1 : Int32)), (.int (1 : Int32))]))
     refine own_st (fun t_ => XS.iand (own_here Y97) hx rfl (hb hby at_119) rfl) ?_
     show own_Ends _ _ _ _ (T96.setTop (mkF m 120 #[.val (.int x0), .val (.int x1), .val (.int (3 : Int32)), .val (.ref rAT_LEAST), .val (.int (6 : Int32)), .val (.int (2 : Int32)), .unset] [(.int (1 : Int32))]))
     refine own_st (fun t_ => XS.ifNo (own_here Y97) hx rfl (hb hby at_120) rfl (XT.i0_eq_f (by decide))) ?_
     show own_Ends _ _ _ _ (T96.setTop (mkF m 123 #[.val (.int x0), .val (.int x1), .val (.int (3 : Int32)), .val (.ref rAT_LEAST), .val (.int (6 : Int32)), .val (.int (2 : Int32)), .unset] []))
     refine own_st (fun t_ => XS.iconst (own_here Y97) hx rfl (hb hby at_123) ) ?_
     show own_Ends _ _ _ _ (T96.setTop (mkF m 124 #[.val (.int x0), .val (.int x1), .val (.int (3 : Int32)), .val (.ref rAT_LEAST), .val (.int (6 : Int32)), .val (.int (2 : Int32)), .unset] [(.int (1 : Int32))]))
     refine own_st (fun t_ => XS.goto (own_here Y97) hx rfl (pc0 := 124) (pc' := 128) rfl (hb hby at_124) (by decide) (by decide)) ?_
     show own_Ends _ _ _ _ (T96.setTop (mkF m 128 #[.val (.int x0), .val (.int x1), .val (.int (3 : Int32)), .val (.ref rAT_LEAST), .val (.int (6 : Int32)), .val (.int (2 : Int32)), .unset] [(.int (1 : Int32))]))
     refine own_st (fun t_ => XS.istore (own_here Y97) hx rfl (hb hby at_128) rfl (l' := #[.val (.int x0), .val (.int x1), .val (.int (3 : Int32)), .val (.ref rAT_LEAST), .val (.int (6 : Int32)), .val (.int (2 : Int32)), .val (.int (1 : Int32))]) rfl) ?_
     show own_Ends _ _ _ _ (T96.setTop (mkF m 130 #[.val (.int x0), .val (.int x1), .val (.int (3 : Int32)), .val (.ref rAT_LEAST), .val (.int (6 : Int32)), .val (.int (2 : Int32)), .val (.int (1 : Int32))] []))
     refine own_st (fun t_ => XS.aloadN (own_here Y97) hx rfl (hb hby at_130) rfl rfl) ?_
     show own_Ends _ _ _ _ (T96.setTop (mkF m 131 #[.val (.int x0), .val (.int x1), .val (.int (3 : Int32)), .val (.ref rAT_LEAST), .val (.int (6 : Int32)), .val (.int (2 : Int32)), .val (.int (1 : Int32))] [(.ref rAT_LEAST)]))
     refine own_st (fun t_ => XS.iloadN (own_here Y97) hx rfl (hb hby at_131) rfl) ?_
     show own_Ends _ _ _ _ (T96.setTop (mkF m 132 #[.val (.int x0), .val (.int x1), .val (.int (3 : Int32)), .val (.ref rAT_LEAST), .val (.int (6 : Int32)), .val (.int (2 : Int32)), .val (.int (1 : Int32))] [(.int x1), (.ref rAT_LEAST)]))
     refine own_callV Y97 hx hZ (y := (⟨"com/example/poset/poset/core/Formula$Relation", "holds", "(I)Z"⟩ : MethodName)) (z := (⟨"com/example/poset/poset/core/Formula$Relation", "holds", "(I)Z"⟩ : MethodName)) hown (hw _ (List.mem_of_getElem? (i := 3) rfl)) (hw _ (List.mem_of_getElem? (i := 4) rfl)) (notFace_of_selects (args := #[]) (mvT hZ (hw _ (List.mem_of_getElem? (i := 6) rfl)))) (hw _ (List.mem_of_getElem? (i := 6) rfl)) (hw _ (List.mem_of_getElem? (i := 5) rfl)) (hw _ (List.mem_of_getElem? (i := 1) rfl)) (hw _ (List.mem_of_getElem? (i := 7) rfl)) (by decide) (a := rAT_LEAST) EAT_LEAST (argsL := [(.int x1)]) (rest := []) (own_rm1_3 l Z a0 hw [] rAT_LEAST x1  h0 n0  EAT_LEAST FAT_LEAST) (W := 0) (by decide) (by decide) (by decide) (by decide) rfl (by rw [hml]; rfl) (lenOf own_pd1 rfl) rfl (by show 2 * 0 + _ ≤ _; exact Nat.le_of_eq rfl) (hb hby at_132) (fun T110 h112 v113 Y111 q114 => ?_)
     obtain ⟨rfl, rfl⟩ := q114
     show own_Ends _ _ _ _ (T110.setTop (mkF m 135 #[.val (.int x0), .val (.int x1), .val (.int (3 : Int32)), .val (.ref rAT_LEAST), .val (.int (6 : Int32)), .val (.int (2 : Int32)), .val (.int (1 : Int32))] [(.int (own_b (!decide (x1 < 0))))]))
     refine own_st (fun t_ => XS.iload (own_here Y111) hx rfl (hb hby at_135) rfl) ?_
     show own_Ends _ _ _ _ (T110.setTop (mkF m 137 #[.val (.int x0), .val (.int x1), .val (.int (3 : Int32)), .val (.ref rAT_LEAST), .val (.int (6 : Int32)), .val (.int (2 : Int32)), .val (.int (1 : Int32))] [(.int (1 : Int32)), (.int (own_b (!decide (x1 < 0))))]))
     have s0 : (0 : Int32) < x1 := by have e0 : (0 : Int32).toInt = 0 := rfl; have := c91_98; have t := c101_104; simp only [own_lt, own_eq] at this t ⊢; omega
     refine own_st (fun t_ => XS.icmpNo (own_here Y111) hx rfl (hb hby at_137) rfl (XT.ii_ne_f (by simp [own_b, s0, c91_98, c101_104]))) ?_
     show own_Ends _ _ _ _ (T110.setTop (mkF m 140 #[.val (.int x0), .val (.int x1), .val (.int (3 : Int32)), .val (.ref rAT_LEAST), .val (.int (6 : Int32)), .val (.int (2 : Int32)), .val (.int (1 : Int32))] []))
     refine own_st (fun t_ => XS.iconst (own_here Y111) hx rfl (hb hby at_140) ) ?_
     show own_Ends _ _ _ _ (T110.setTop (mkF m 141 #[.val (.int x0), .val (.int x1), .val (.int (3 : Int32)), .val (.ref rAT_LEAST), .val (.int (6 : Int32)), .val (.int (2 : Int32)), .val (.int (1 : Int32))] [(.int (1 : Int32))]))
     refine own_st (fun t_ => XS.goto (own_here Y111) hx rfl (pc0 := 141) (pc' := 145) rfl (hb hby at_141) (by decide) (by decide)) ?_
     show own_Ends _ _ _ _ (T110.setTop (mkF m 145 #[.val (.int x0), .val (.int x1), .val (.int (3 : Int32)), .val (.ref rAT_LEAST), .val (.int (6 : Int32)), .val (.int (2 : Int32)), .val (.int (1 : Int32))] [(.int (1 : Int32))]))
     refine own_retN Y111 hx hlk (t := .boolean) hret (by simp) (hb hby at_145) (by decide) (by decide) ?_
     exact rfl
  ·
   show own_Ends _ _ _ _ (T0.setTop (mkF m 8 #[.val (.int x0), .val (.int x1), .val (.int (4 : Int32)), .unset, .unset, .unset, .unset] []))
   refine own_st (fun t_ => XS.iloadN (own_here Y0) hx rfl (hb hby at_8) rfl) ?_
   show own_Ends _ _ _ _ (T0.setTop (mkF m 9 #[.val (.int x0), .val (.int x1), .val (.int (4 : Int32)), .unset, .unset, .unset, .unset] [(.int (4 : Int32))]))
   refine own_st (fun t_ => XS.ifYes (own_here Y0) hx rfl (pc0 := 9) (pc' := 22) rfl (hb hby at_9) rfl (XT.i0_ne_t (by decide)) (by decide) (by decide)) ?_
   show own_Ends _ _ _ _ (T0.setTop (mkF m 22 #[.val (.int x0), .val (.int x1), .val (.int (4 : Int32)), .unset, .unset, .unset, .unset] []))
   refine own_st (fun t_ => XS.iloadN (own_here Y0) hx rfl (hb hby at_22) rfl) ?_
   show own_Ends _ _ _ _ (T0.setTop (mkF m 23 #[.val (.int x0), .val (.int x1), .val (.int (4 : Int32)), .unset, .unset, .unset, .unset] [(.int (4 : Int32))]))
   refine own_st (fun t_ => XS.iconst (own_here Y0) hx rfl (hb hby at_23) ) ?_
   show own_Ends _ _ _ _ (T0.setTop (mkF m 24 #[.val (.int x0), .val (.int x1), .val (.int (4 : Int32)), .unset, .unset, .unset, .unset] [(.int (1 : Int32)), (.int (4 : Int32))]))
   refine own_st (fun t_ => XS.icmpYes (own_here Y0) hx rfl (pc0 := 24) (pc' := 37) rfl (hb hby at_24) rfl (XT.ii_ne_t (by decide)) (by decide) (by decide)) ?_
   show own_Ends _ _ _ _ (T0.setTop (mkF m 37 #[.val (.int x0), .val (.int x1), .val (.int (4 : Int32)), .unset, .unset, .unset, .unset] []))
   refine own_st (fun t_ => XS.iloadN (own_here Y0) hx rfl (hb hby at_37) rfl) ?_
   show own_Ends _ _ _ _ (T0.setTop (mkF m 38 #[.val (.int x0), .val (.int x1), .val (.int (4 : Int32)), .unset, .unset, .unset, .unset] [(.int (4 : Int32))]))
   refine own_st (fun t_ => XS.iconst (own_here Y0) hx rfl (hb hby at_38) ) ?_
   show own_Ends _ _ _ _ (T0.setTop (mkF m 39 #[.val (.int x0), .val (.int x1), .val (.int (4 : Int32)), .unset, .unset, .unset, .unset] [(.int (2 : Int32)), (.int (4 : Int32))]))
   refine own_st (fun t_ => XS.icmpYes (own_here Y0) hx rfl (pc0 := 39) (pc' := 52) rfl (hb hby at_39) rfl (XT.ii_ne_t (by decide)) (by decide) (by decide)) ?_
   show own_Ends _ _ _ _ (T0.setTop (mkF m 52 #[.val (.int x0), .val (.int x1), .val (.int (4 : Int32)), .unset, .unset, .unset, .unset] []))
   refine own_st (fun t_ => XS.iloadN (own_here Y0) hx rfl (hb hby at_52) rfl) ?_
   show own_Ends _ _ _ _ (T0.setTop (mkF m 53 #[.val (.int x0), .val (.int x1), .val (.int (4 : Int32)), .unset, .unset, .unset, .unset] [(.int (4 : Int32))]))
   refine own_st (fun t_ => XS.iconst (own_here Y0) hx rfl (hb hby at_53) ) ?_
   show own_Ends _ _ _ _ (T0.setTop (mkF m 54 #[.val (.int x0), .val (.int x1), .val (.int (4 : Int32)), .unset, .unset, .unset, .unset] [(.int (3 : Int32)), (.int (4 : Int32))]))
   refine own_st (fun t_ => XS.icmpYes (own_here Y0) hx rfl (pc0 := 54) (pc' := 68) rfl (hb hby at_54) rfl (XT.ii_ne_t (by decide)) (by decide) (by decide)) ?_
   show own_Ends _ _ _ _ (T0.setTop (mkF m 68 #[.val (.int x0), .val (.int x1), .val (.int (4 : Int32)), .unset, .unset, .unset, .unset] []))
   refine own_st (fun t_ => XS.iloadN (own_here Y0) hx rfl (hb hby at_68) rfl) ?_
   show own_Ends _ _ _ _ (T0.setTop (mkF m 69 #[.val (.int x0), .val (.int x1), .val (.int (4 : Int32)), .unset, .unset, .unset, .unset] [(.int (4 : Int32))]))
   refine own_st (fun t_ => XS.iconst (own_here Y0) hx rfl (hb hby at_69) ) ?_
   show own_Ends _ _ _ _ (T0.setTop (mkF m 70 #[.val (.int x0), .val (.int x1), .val (.int (4 : Int32)), .unset, .unset, .unset, .unset] [(.int (4 : Int32)), (.int (4 : Int32))]))
   refine own_st (fun t_ => XS.icmpNo (own_here Y0) hx rfl (hb hby at_70) rfl (XT.ii_ne_f (by decide))) ?_
   show own_Ends _ _ _ _ (T0.setTop (mkF m 73 #[.val (.int x0), .val (.int x1), .val (.int (4 : Int32)), .unset, .unset, .unset, .unset] []))
   refine own_getS Y0 hx hZ hown (host := "") (Or.inl (hw _ (List.mem_of_getElem? (i := 17) rfl))) Via.refl SEQUAL rfl (hb hby at_73) (fun T115 Y116 => ?_)
   show own_Ends _ _ _ _ (T115.setTop (mkF m 76 #[.val (.int x0), .val (.int x1), .val (.int (4 : Int32)), .unset, .unset, .unset, .unset] [(.ref rEQUAL)]))
   refine own_st (fun t_ => XS.astoreN (own_here Y116) hx rfl (hb hby at_76) rfl rfl (l' := #[.val (.int x0), .val (.int x1), .val (.int (4 : Int32)), .val (.ref rEQUAL), .unset, .unset, .unset]) rfl) ?_
   show own_Ends _ _ _ _ (T115.setTop (mkF m 77 #[.val (.int x0), .val (.int x1), .val (.int (4 : Int32)), .val (.ref rEQUAL), .unset, .unset, .unset] []))
   refine own_st (fun t_ => XS.iconst (own_here Y116) hx rfl (hb hby at_77) ) ?_
   show own_Ends _ _ _ _ (T115.setTop (mkF m 78 #[.val (.int x0), .val (.int x1), .val (.int (4 : Int32)), .val (.ref rEQUAL), .unset, .unset, .unset] [(.int (2 : Int32))]))
   refine own_st (fun t_ => XS.istore (own_here Y116) hx rfl (hb hby at_78) rfl (l' := #[.val (.int x0), .val (.int x1), .val (.int (4 : Int32)), .val (.ref rEQUAL), .val (.int (2 : Int32)), .unset, .unset]) rfl) ?_
   show own_Ends _ _ _ _ (T115.setTop (mkF m 80 #[.val (.int x0), .val (.int x1), .val (.int (4 : Int32)), .val (.ref rEQUAL), .val (.int (2 : Int32)), .unset, .unset] []))
   refine own_st (fun t_ => XS.goto (own_here Y116) hx rfl (pc0 := 80) (pc' := 90) rfl (hb hby at_80) (by decide) (by decide)) ?_
   show own_Ends _ _ _ _ (T115.setTop (mkF m 90 #[.val (.int x0), .val (.int x1), .val (.int (4 : Int32)), .val (.ref rEQUAL), .val (.int (2 : Int32)), .unset, .unset] []))
   refine own_st (fun t_ => XS.iloadN (own_here Y116) hx rfl (hb hby at_90) rfl) ?_
   show own_Ends _ _ _ _ (T115.setTop (mkF m 91 #[.val (.int x0), .val (.int x1), .val (.int (4 : Int32)), .val (.ref rEQUAL), .val (.int (2 : Int32)), .unset, .unset] [(.int x1)]))
   by_cases c91_117 : x1 < (0 : Int32)
   ·
    refine own_st (fun t_ => XS.ifNo (own_here Y116) hx rfl (hb hby at_91) rfl (XT.i0_ge_f c91_117)) ?_
    show own_Ends _ _ _ _ (T115.setTop (mkF m 94 #[.val (.int x0), .val (.int x1), .val (.int (4 : Int32)), .val (.ref rEQUAL), .val (.int (2 : Int32)), .unset, .unset] []))
    refine own_st (fun t_ => XS.iconst (own_here Y116) hx rfl (hb hby at_94) ) ?_
    show own_Ends _ _ _ _ (T115.setTop (mkF m 95 #[.val (.int x0), .val (.int x1), .val (.int (4 : Int32)), .val (.ref rEQUAL), .val (.int (2 : Int32)), .unset, .unset] [(.int (0 : Int32))]))
    refine own_st (fun t_ => XS.istore (own_here Y116) hx rfl (hb hby at_95) rfl (l' := #[.val (.int x0), .val (.int x1), .val (.int (4 : Int32)), .val (.ref rEQUAL), .val (.int (2 : Int32)), .val (.int (0 : Int32)), .unset]) rfl) ?_
    show own_Ends _ _ _ _ (T115.setTop (mkF m 97 #[.val (.int x0), .val (.int x1), .val (.int (4 : Int32)), .val (.ref rEQUAL), .val (.int (2 : Int32)), .val (.int (0 : Int32)), .unset] []))
    refine own_st (fun t_ => XS.goto (own_here Y116) hx rfl (pc0 := 97) (pc' := 113) rfl (hb hby at_97) (by decide) (by decide)) ?_
    show own_Ends _ _ _ _ (T115.setTop (mkF m 113 #[.val (.int x0), .val (.int x1), .val (.int (4 : Int32)), .val (.ref rEQUAL), .val (.int (2 : Int32)), .val (.int (0 : Int32)), .unset] []))
    refine own_st (fun t_ => XS.iload (own_here Y116) hx rfl (hb hby at_113) rfl) ?_
    show own_Ends _ _ _ _ (T115.setTop (mkF m 115 #[.val (.int x0), .val (.int x1), .val (.int (4 : Int32)), .val (.ref rEQUAL), .val (.int (2 : Int32)), .val (.int (0 : Int32)), .unset] [(.int (2 : Int32))]))
    refine own_st (fun t_ => XS.iload (own_here Y116) hx rfl (hb hby at_115) rfl) ?_
    show own_Ends _ _ _ _ (T115.setTop (mkF m 117 #[.val (.int x0), .val (.int x1), .val (.int (4 : Int32)), .val (.ref rEQUAL), .val (.int (2 : Int32)), .val (.int (0 : Int32)), .unset] [(.int (0 : Int32)), (.int (2 : Int32))]))
    refine own_st (fun t_ => XS.ishr (own_here Y116) hx rfl (hb hby at_117) rfl) ?_
    show own_Ends _ _ _ _ (T115.setTop (mkF m 118 #[.val (.int x0), .val (.int x1), .val (.int (4 : Int32)), .val (.ref rEQUAL), .val (.int (2 : Int32)), .val (.int (0 : Int32)), .unset] [(.int (2 : Int32))]))
    refine own_st (fun t_ => XS.iconst (own_here Y116) hx rfl (hb hby at_118) ) ?_
    show own_Ends _ _ _ _ (T115.setTop (mkF m 119 #[.val (.int x0), .val (.int x1), .val (.int (4 : Int32)), .val (.ref rEQUAL), .val (.int (2 : Int32)), .val (.int (0 : Int32)), .unset] [(.int (1 : Int32)), (.int (2 : Int32))]))
    refine own_st (fun t_ => XS.iand (own_here Y116) hx rfl (hb hby at_119) rfl) ?_
    show own_Ends _ _ _ _ (T115.setTop (mkF m 120 #[.val (.int x0), .val (.int x1), .val (.int (4 : Int32)), .val (.ref rEQUAL), .val (.int (2 : Int32)), .val (.int (0 : Int32)), .unset] [(.int (0 : Int32))]))
    refine own_st (fun t_ => XS.ifYes (own_here Y116) hx rfl (pc0 := 120) (pc' := 127) rfl (hb hby at_120) rfl (XT.i0_eq_t (by decide)) (by decide) (by decide)) ?_
    show own_Ends _ _ _ _ (T115.setTop (mkF m 127 #[.val (.int x0), .val (.int x1), .val (.int (4 : Int32)), .val (.ref rEQUAL), .val (.int (2 : Int32)), .val (.int (0 : Int32)), .unset] []))
    refine own_st (fun t_ => XS.iconst (own_here Y116) hx rfl (hb hby at_127) ) ?_
    show own_Ends _ _ _ _ (T115.setTop (mkF m 128 #[.val (.int x0), .val (.int x1), .val (.int (4 : Int32)), .val (.ref rEQUAL), .val (.int (2 : Int32)), .val (.int (0 : Int32)), .unset] [(.int (0 : Int32))]))
    refine own_st (fun t_ => XS.istore (own_here Y116) hx rfl (hb hby at_128) rfl (l' := #[.val (.int x0), .val (.int x1), .val (.int (4 : Int32)), .val (.ref rEQUAL), .val (.int (2 : Int32)), .val (.int (0 : Int32)), .val (.int (0 : Int32))]) rfl) ?_
    show own_Ends _ _ _ _ (T115.setTop (mkF m 130 #[.val (.int x0), .val (.int x1), .val (.int (4 : Int32)), .val (.ref rEQUAL), .val (.int (2 : Int32)), .val (.int (0 : Int32)), .val (.int (0 : Int32))] []))
    refine own_st (fun t_ => XS.aloadN (own_here Y116) hx rfl (hb hby at_130) rfl rfl) ?_
    show own_Ends _ _ _ _ (T115.setTop (mkF m 131 #[.val (.int x0), .val (.int x1), .val (.int (4 : Int32)), .val (.ref rEQUAL), .val (.int (2 : Int32)), .val (.int (0 : Int32)), .val (.int (0 : Int32))] [(.ref rEQUAL)]))
    refine own_st (fun t_ => XS.iloadN (own_here Y116) hx rfl (hb hby at_131) rfl) ?_
    show own_Ends _ _ _ _ (T115.setTop (mkF m 132 #[.val (.int x0), .val (.int x1), .val (.int (4 : Int32)), .val (.ref rEQUAL), .val (.int (2 : Int32)), .val (.int (0 : Int32)), .val (.int (0 : Int32))] [(.int x1), (.ref rEQUAL)]))
    refine own_callV Y116 hx hZ (y := (⟨"com/example/poset/poset/core/Formula$Relation", "holds", "(I)Z"⟩ : MethodName)) (z := (⟨"com/example/poset/poset/core/Formula$Relation", "holds", "(I)Z"⟩ : MethodName)) hown (hw _ (List.mem_of_getElem? (i := 3) rfl)) (hw _ (List.mem_of_getElem? (i := 4) rfl)) (notFace_of_selects (args := #[]) (mvT hZ (hw _ (List.mem_of_getElem? (i := 6) rfl)))) (hw _ (List.mem_of_getElem? (i := 6) rfl)) (hw _ (List.mem_of_getElem? (i := 5) rfl)) (hw _ (List.mem_of_getElem? (i := 1) rfl)) (hw _ (List.mem_of_getElem? (i := 7) rfl)) (by decide) (a := rEQUAL) EEQUAL (argsL := [(.int x1)]) (rest := []) (own_rm1_4 l Z a0 hw [] rEQUAL x1  h0 n0  EEQUAL FEQUAL) (W := 0) (by decide) (by decide) (by decide) (by decide) rfl (by rw [hml]; rfl) (lenOf own_pd1 rfl) rfl (by show 2 * 0 + _ ≤ _; exact Nat.le_of_eq rfl) (hb hby at_132) (fun T118 h120 v121 Y119 q122 => ?_)
    obtain ⟨rfl, rfl⟩ := q122
    show own_Ends _ _ _ _ (T118.setTop (mkF m 135 #[.val (.int x0), .val (.int x1), .val (.int (4 : Int32)), .val (.ref rEQUAL), .val (.int (2 : Int32)), .val (.int (0 : Int32)), .val (.int (0 : Int32))] [(.int (own_b (decide (x1 = 0))))]))
    refine own_st (fun t_ => XS.iload (own_here Y119) hx rfl (hb hby at_135) rfl) ?_
    show own_Ends _ _ _ _ (T118.setTop (mkF m 137 #[.val (.int x0), .val (.int x1), .val (.int (4 : Int32)), .val (.ref rEQUAL), .val (.int (2 : Int32)), .val (.int (0 : Int32)), .val (.int (0 : Int32))] [(.int (0 : Int32)), (.int (own_b (decide (x1 = 0))))]))
    have s0 : ¬ (0 : Int32) < x1 := by have := c91_117; simp only [own_lt] at this ⊢; omega
    have s1 : ¬ x1 = 0 := by have := c91_117; simp only [own_lt, own_eq] at this ⊢; omega
    refine own_st (fun t_ => XS.icmpNo (own_here Y119) hx rfl (hb hby at_137) rfl (XT.ii_ne_f (by simp [own_b, s0, c91_117, s1]))) ?_
    show own_Ends _ _ _ _ (T118.setTop (mkF m 140 #[.val (.int x0), .val (.int x1), .val (.int (4 : Int32)), .val (.ref rEQUAL), .val (.int (2 : Int32)), .val (.int (0 : Int32)), .val (.int (0 : Int32))] []))
    refine own_st (fun t_ => XS.iconst (own_here Y119) hx rfl (hb hby at_140) ) ?_
    show own_Ends _ _ _ _ (T118.setTop (mkF m 141 #[.val (.int x0), .val (.int x1), .val (.int (4 : Int32)), .val (.ref rEQUAL), .val (.int (2 : Int32)), .val (.int (0 : Int32)), .val (.int (0 : Int32))] [(.int (1 : Int32))]))
    refine own_st (fun t_ => XS.goto (own_here Y119) hx rfl (pc0 := 141) (pc' := 145) rfl (hb hby at_141) (by decide) (by decide)) ?_
    show own_Ends _ _ _ _ (T118.setTop (mkF m 145 #[.val (.int x0), .val (.int x1), .val (.int (4 : Int32)), .val (.ref rEQUAL), .val (.int (2 : Int32)), .val (.int (0 : Int32)), .val (.int (0 : Int32))] [(.int (1 : Int32))]))
    refine own_retN Y119 hx hlk (t := .boolean) hret (by simp) (hb hby at_145) (by decide) (by decide) ?_
    exact rfl
   ·
    refine own_st (fun t_ => XS.ifYes (own_here Y116) hx rfl (pc0 := 91) (pc' := 100) rfl (hb hby at_91) rfl (XT.i0_ge_t c91_117) (by decide) (by decide)) ?_
    show own_Ends _ _ _ _ (T115.setTop (mkF m 100 #[.val (.int x0), .val (.int x1), .val (.int (4 : Int32)), .val (.ref rEQUAL), .val (.int (2 : Int32)), .unset, .unset] []))
    refine own_st (fun t_ => XS.iloadN (own_here Y116) hx rfl (hb hby at_100) rfl) ?_
    show own_Ends _ _ _ _ (T115.setTop (mkF m 101 #[.val (.int x0), .val (.int x1), .val (.int (4 : Int32)), .val (.ref rEQUAL), .val (.int (2 : Int32)), .unset, .unset] [(.int x1)]))
    by_cases c101_123 : x1 = (0 : Int32)
    ·
     refine own_st (fun t_ => XS.ifNo (own_here Y116) hx rfl (hb hby at_101) rfl (XT.i0_ne_f c101_123)) ?_
     show own_Ends _ _ _ _ (T115.setTop (mkF m 104 #[.val (.int x0), .val (.int x1), .val (.int (4 : Int32)), .val (.ref rEQUAL), .val (.int (2 : Int32)), .unset, .unset] []))
     refine own_st (fun t_ => XS.iconst (own_here Y116) hx rfl (hb hby at_104) ) ?_
     show own_Ends _ _ _ _ (T115.setTop (mkF m 105 #[.val (.int x0), .val (.int x1), .val (.int (4 : Int32)), .val (.ref rEQUAL), .val (.int (2 : Int32)), .unset, .unset] [(.int (1 : Int32))]))
     refine own_st (fun t_ => XS.istore (own_here Y116) hx rfl (hb hby at_105) rfl (l' := #[.val (.int x0), .val (.int x1), .val (.int (4 : Int32)), .val (.ref rEQUAL), .val (.int (2 : Int32)), .val (.int (1 : Int32)), .unset]) rfl) ?_
     show own_Ends _ _ _ _ (T115.setTop (mkF m 107 #[.val (.int x0), .val (.int x1), .val (.int (4 : Int32)), .val (.ref rEQUAL), .val (.int (2 : Int32)), .val (.int (1 : Int32)), .unset] []))
     refine own_st (fun t_ => XS.goto (own_here Y116) hx rfl (pc0 := 107) (pc' := 113) rfl (hb hby at_107) (by decide) (by decide)) ?_
     show own_Ends _ _ _ _ (T115.setTop (mkF m 113 #[.val (.int x0), .val (.int x1), .val (.int (4 : Int32)), .val (.ref rEQUAL), .val (.int (2 : Int32)), .val (.int (1 : Int32)), .unset] []))
     refine own_st (fun t_ => XS.iload (own_here Y116) hx rfl (hb hby at_113) rfl) ?_
     show own_Ends _ _ _ _ (T115.setTop (mkF m 115 #[.val (.int x0), .val (.int x1), .val (.int (4 : Int32)), .val (.ref rEQUAL), .val (.int (2 : Int32)), .val (.int (1 : Int32)), .unset] [(.int (2 : Int32))]))
     refine own_st (fun t_ => XS.iload (own_here Y116) hx rfl (hb hby at_115) rfl) ?_
     show own_Ends _ _ _ _ (T115.setTop (mkF m 117 #[.val (.int x0), .val (.int x1), .val (.int (4 : Int32)), .val (.ref rEQUAL), .val (.int (2 : Int32)), .val (.int (1 : Int32)), .unset] [(.int (1 : Int32)), (.int (2 : Int32))]))
     refine own_st (fun t_ => XS.ishr (own_here Y116) hx rfl (hb hby at_117) rfl) ?_
     show own_Ends _ _ _ _ (T115.setTop (mkF m 118 #[.val (.int x0), .val (.int x1), .val (.int (4 : Int32)), .val (.ref rEQUAL), .val (.int (2 : Int32)), .val (.int (1 : Int32)), .unset] [(.int (1 : Int32))]))
     refine own_st (fun t_ => XS.iconst (own_here Y116) hx rfl (hb hby at_118) ) ?_
     show own_Ends _ _ _ _ (T115.setTop (mkF m 119 #[.val (.int x0), .val (.int x1), .val (.int (4 : Int32)), .val (.ref rEQUAL), .val (.int (2 : Int32)), .val (.int (1 : Int32)), .unset] [(.int (1 : Int32)), (.int (1 : Int32))]))
     refine own_st (fun t_ => XS.iand (own_here Y116) hx rfl (hb hby at_119) rfl) ?_
     show own_Ends _ _ _ _ (T115.setTop (mkF m 120 #[.val (.int x0), .val (.int x1), .val (.int (4 : Int32)), .val (.ref rEQUAL), .val (.int (2 : Int32)), .val (.int (1 : Int32)), .unset] [(.int (1 : Int32))]))
     refine own_st (fun t_ => XS.ifNo (own_here Y116) hx rfl (hb hby at_120) rfl (XT.i0_eq_f (by decide))) ?_
     show own_Ends _ _ _ _ (T115.setTop (mkF m 123 #[.val (.int x0), .val (.int x1), .val (.int (4 : Int32)), .val (.ref rEQUAL), .val (.int (2 : Int32)), .val (.int (1 : Int32)), .unset] []))
     refine own_st (fun t_ => XS.iconst (own_here Y116) hx rfl (hb hby at_123) ) ?_
     show own_Ends _ _ _ _ (T115.setTop (mkF m 124 #[.val (.int x0), .val (.int x1), .val (.int (4 : Int32)), .val (.ref rEQUAL), .val (.int (2 : Int32)), .val (.int (1 : Int32)), .unset] [(.int (1 : Int32))]))
     refine own_st (fun t_ => XS.goto (own_here Y116) hx rfl (pc0 := 124) (pc' := 128) rfl (hb hby at_124) (by decide) (by decide)) ?_
     show own_Ends _ _ _ _ (T115.setTop (mkF m 128 #[.val (.int x0), .val (.int x1), .val (.int (4 : Int32)), .val (.ref rEQUAL), .val (.int (2 : Int32)), .val (.int (1 : Int32)), .unset] [(.int (1 : Int32))]))
     refine own_st (fun t_ => XS.istore (own_here Y116) hx rfl (hb hby at_128) rfl (l' := #[.val (.int x0), .val (.int x1), .val (.int (4 : Int32)), .val (.ref rEQUAL), .val (.int (2 : Int32)), .val (.int (1 : Int32)), .val (.int (1 : Int32))]) rfl) ?_
     show own_Ends _ _ _ _ (T115.setTop (mkF m 130 #[.val (.int x0), .val (.int x1), .val (.int (4 : Int32)), .val (.ref rEQUAL), .val (.int (2 : Int32)), .val (.int (1 : Int32)), .val (.int (1 : Int32))] []))
     refine own_st (fun t_ => XS.aloadN (own_here Y116) hx rfl (hb hby at_130) rfl rfl) ?_
     show own_Ends _ _ _ _ (T115.setTop (mkF m 131 #[.val (.int x0), .val (.int x1), .val (.int (4 : Int32)), .val (.ref rEQUAL), .val (.int (2 : Int32)), .val (.int (1 : Int32)), .val (.int (1 : Int32))] [(.ref rEQUAL)]))
     refine own_st (fun t_ => XS.iloadN (own_here Y116) hx rfl (hb hby at_131) rfl) ?_
     show own_Ends _ _ _ _ (T115.setTop (mkF m 132 #[.val (.int x0), .val (.int x1), .val (.int (4 : Int32)), .val (.ref rEQUAL), .val (.int (2 : Int32)), .val (.int (1 : Int32)), .val (.int (1 : Int32))] [(.int x1), (.ref rEQUAL)]))
     refine own_callV Y116 hx hZ (y := (⟨"com/example/poset/poset/core/Formula$Relation", "holds", "(I)Z"⟩ : MethodName)) (z := (⟨"com/example/poset/poset/core/Formula$Relation", "holds", "(I)Z"⟩ : MethodName)) hown (hw _ (List.mem_of_getElem? (i := 3) rfl)) (hw _ (List.mem_of_getElem? (i := 4) rfl)) (notFace_of_selects (args := #[]) (mvT hZ (hw _ (List.mem_of_getElem? (i := 6) rfl)))) (hw _ (List.mem_of_getElem? (i := 6) rfl)) (hw _ (List.mem_of_getElem? (i := 5) rfl)) (hw _ (List.mem_of_getElem? (i := 1) rfl)) (hw _ (List.mem_of_getElem? (i := 7) rfl)) (by decide) (a := rEQUAL) EEQUAL (argsL := [(.int x1)]) (rest := []) (own_rm1_4 l Z a0 hw [] rEQUAL x1  h0 n0  EEQUAL FEQUAL) (W := 0) (by decide) (by decide) (by decide) (by decide) rfl (by rw [hml]; rfl) (lenOf own_pd1 rfl) rfl (by show 2 * 0 + _ ≤ _; exact Nat.le_of_eq rfl) (hb hby at_132) (fun T124 h126 v127 Y125 q128 => ?_)
     obtain ⟨rfl, rfl⟩ := q128
     show own_Ends _ _ _ _ (T124.setTop (mkF m 135 #[.val (.int x0), .val (.int x1), .val (.int (4 : Int32)), .val (.ref rEQUAL), .val (.int (2 : Int32)), .val (.int (1 : Int32)), .val (.int (1 : Int32))] [(.int (own_b (decide (x1 = 0))))]))
     refine own_st (fun t_ => XS.iload (own_here Y125) hx rfl (hb hby at_135) rfl) ?_
     show own_Ends _ _ _ _ (T124.setTop (mkF m 137 #[.val (.int x0), .val (.int x1), .val (.int (4 : Int32)), .val (.ref rEQUAL), .val (.int (2 : Int32)), .val (.int (1 : Int32)), .val (.int (1 : Int32))] [(.int (1 : Int32)), (.int (own_b (decide (x1 = 0))))]))
     have s0 : ¬ (0 : Int32) < x1 := by have := c101_123; simp only [own_lt, own_eq] at this ⊢; omega
     refine own_st (fun t_ => XS.icmpNo (own_here Y125) hx rfl (hb hby at_137) rfl (XT.ii_ne_f (by simp [own_b, s0, c91_117, c101_123]))) ?_
     show own_Ends _ _ _ _ (T124.setTop (mkF m 140 #[.val (.int x0), .val (.int x1), .val (.int (4 : Int32)), .val (.ref rEQUAL), .val (.int (2 : Int32)), .val (.int (1 : Int32)), .val (.int (1 : Int32))] []))
     refine own_st (fun t_ => XS.iconst (own_here Y125) hx rfl (hb hby at_140) ) ?_
     show own_Ends _ _ _ _ (T124.setTop (mkF m 141 #[.val (.int x0), .val (.int x1), .val (.int (4 : Int32)), .val (.ref rEQUAL), .val (.int (2 : Int32)), .val (.int (1 : Int32)), .val (.int (1 : Int32))] [(.int (1 : Int32))]))
     refine own_st (fun t_ => XS.goto (own_here Y125) hx rfl (pc0 := 141) (pc' := 145) rfl (hb hby at_141) (by decide) (by decide)) ?_
     show own_Ends _ _ _ _ (T124.setTop (mkF m 145 #[.val (.int x0), .val (.int x1), .val (.int (4 : Int32)), .val (.ref rEQUAL), .val (.int (2 : Int32)), .val (.int (1 : Int32)), .val (.int (1 : Int32))] [(.int (1 : Int32))]))
     refine own_retN Y125 hx hlk (t := .boolean) hret (by simp) (hb hby at_145) (by decide) (by decide) ?_
     exact rfl
    ·
     refine own_st (fun t_ => XS.ifYes (own_here Y116) hx rfl (pc0 := 101) (pc' := 110) rfl (hb hby at_101) rfl (XT.i0_ne_t c101_123) (by decide) (by decide)) ?_
     show own_Ends _ _ _ _ (T115.setTop (mkF m 110 #[.val (.int x0), .val (.int x1), .val (.int (4 : Int32)), .val (.ref rEQUAL), .val (.int (2 : Int32)), .unset, .unset] []))
     refine own_st (fun t_ => XS.iconst (own_here Y116) hx rfl (hb hby at_110) ) ?_
     show own_Ends _ _ _ _ (T115.setTop (mkF m 111 #[.val (.int x0), .val (.int x1), .val (.int (4 : Int32)), .val (.ref rEQUAL), .val (.int (2 : Int32)), .unset, .unset] [(.int (2 : Int32))]))
     refine own_st (fun t_ => XS.istore (own_here Y116) hx rfl (hb hby at_111) rfl (l' := #[.val (.int x0), .val (.int x1), .val (.int (4 : Int32)), .val (.ref rEQUAL), .val (.int (2 : Int32)), .val (.int (2 : Int32)), .unset]) rfl) ?_
     show own_Ends _ _ _ _ (T115.setTop (mkF m 113 #[.val (.int x0), .val (.int x1), .val (.int (4 : Int32)), .val (.ref rEQUAL), .val (.int (2 : Int32)), .val (.int (2 : Int32)), .unset] []))
     refine own_st (fun t_ => XS.iload (own_here Y116) hx rfl (hb hby at_113) rfl) ?_
     show own_Ends _ _ _ _ (T115.setTop (mkF m 115 #[.val (.int x0), .val (.int x1), .val (.int (4 : Int32)), .val (.ref rEQUAL), .val (.int (2 : Int32)), .val (.int (2 : Int32)), .unset] [(.int (2 : Int32))]))
     refine own_st (fun t_ => XS.iload (own_here Y116) hx rfl (hb hby at_115) rfl) ?_
     show own_Ends _ _ _ _ (T115.setTop (mkF m 117 #[.val (.int x0), .val (.int x1), .val (.int (4 : Int32)), .val (.ref rEQUAL), .val (.int (2 : Int32)), .val (.int (2 : Int32)), .unset] [(.int (2 : Int32)), (.int (2 : Int32))]))
     refine own_st (fun t_ => XS.ishr (own_here Y116) hx rfl (hb hby at_117) rfl) ?_
     show own_Ends _ _ _ _ (T115.setTop (mkF m 118 #[.val (.int x0), .val (.int x1), .val (.int (4 : Int32)), .val (.ref rEQUAL), .val (.int (2 : Int32)), .val (.int (2 : Int32)), .unset] [(.int (0 : Int32))]))
     refine own_st (fun t_ => XS.iconst (own_here Y116) hx rfl (hb hby at_118) ) ?_
     show own_Ends _ _ _ _ (T115.setTop (mkF m 119 #[.val (.int x0), .val (.int x1), .val (.int (4 : Int32)), .val (.ref rEQUAL), .val (.int (2 : Int32)), .val (.int (2 : Int32)), .unset] [(.int (1 : Int32)), (.int (0 : Int32))]))
     refine own_st (fun t_ => XS.iand (own_here Y116) hx rfl (hb hby at_119) rfl) ?_
     show own_Ends _ _ _ _ (T115.setTop (mkF m 120 #[.val (.int x0), .val (.int x1), .val (.int (4 : Int32)), .val (.ref rEQUAL), .val (.int (2 : Int32)), .val (.int (2 : Int32)), .unset] [(.int (0 : Int32))]))
     refine own_st (fun t_ => XS.ifYes (own_here Y116) hx rfl (pc0 := 120) (pc' := 127) rfl (hb hby at_120) rfl (XT.i0_eq_t (by decide)) (by decide) (by decide)) ?_
     show own_Ends _ _ _ _ (T115.setTop (mkF m 127 #[.val (.int x0), .val (.int x1), .val (.int (4 : Int32)), .val (.ref rEQUAL), .val (.int (2 : Int32)), .val (.int (2 : Int32)), .unset] []))
     refine own_st (fun t_ => XS.iconst (own_here Y116) hx rfl (hb hby at_127) ) ?_
     show own_Ends _ _ _ _ (T115.setTop (mkF m 128 #[.val (.int x0), .val (.int x1), .val (.int (4 : Int32)), .val (.ref rEQUAL), .val (.int (2 : Int32)), .val (.int (2 : Int32)), .unset] [(.int (0 : Int32))]))
     refine own_st (fun t_ => XS.istore (own_here Y116) hx rfl (hb hby at_128) rfl (l' := #[.val (.int x0), .val (.int x1), .val (.int (4 : Int32)), .val (.ref rEQUAL), .val (.int (2 : Int32)), .val (.int (2 : Int32)), .val (.int (0 : Int32))]) rfl) ?_
     show own_Ends _ _ _ _ (T115.setTop (mkF m 130 #[.val (.int x0), .val (.int x1), .val (.int (4 : Int32)), .val (.ref rEQUAL), .val (.int (2 : Int32)), .val (.int (2 : Int32)), .val (.int (0 : Int32))] []))
     refine own_st (fun t_ => XS.aloadN (own_here Y116) hx rfl (hb hby at_130) rfl rfl) ?_
     show own_Ends _ _ _ _ (T115.setTop (mkF m 131 #[.val (.int x0), .val (.int x1), .val (.int (4 : Int32)), .val (.ref rEQUAL), .val (.int (2 : Int32)), .val (.int (2 : Int32)), .val (.int (0 : Int32))] [(.ref rEQUAL)]))
     refine own_st (fun t_ => XS.iloadN (own_here Y116) hx rfl (hb hby at_131) rfl) ?_
     show own_Ends _ _ _ _ (T115.setTop (mkF m 132 #[.val (.int x0), .val (.int x1), .val (.int (4 : Int32)), .val (.ref rEQUAL), .val (.int (2 : Int32)), .val (.int (2 : Int32)), .val (.int (0 : Int32))] [(.int x1), (.ref rEQUAL)]))
     refine own_callV Y116 hx hZ (y := (⟨"com/example/poset/poset/core/Formula$Relation", "holds", "(I)Z"⟩ : MethodName)) (z := (⟨"com/example/poset/poset/core/Formula$Relation", "holds", "(I)Z"⟩ : MethodName)) hown (hw _ (List.mem_of_getElem? (i := 3) rfl)) (hw _ (List.mem_of_getElem? (i := 4) rfl)) (notFace_of_selects (args := #[]) (mvT hZ (hw _ (List.mem_of_getElem? (i := 6) rfl)))) (hw _ (List.mem_of_getElem? (i := 6) rfl)) (hw _ (List.mem_of_getElem? (i := 5) rfl)) (hw _ (List.mem_of_getElem? (i := 1) rfl)) (hw _ (List.mem_of_getElem? (i := 7) rfl)) (by decide) (a := rEQUAL) EEQUAL (argsL := [(.int x1)]) (rest := []) (own_rm1_4 l Z a0 hw [] rEQUAL x1  h0 n0  EEQUAL FEQUAL) (W := 0) (by decide) (by decide) (by decide) (by decide) rfl (by rw [hml]; rfl) (lenOf own_pd1 rfl) rfl (by show 2 * 0 + _ ≤ _; exact Nat.le_of_eq rfl) (hb hby at_132) (fun T129 h131 v132 Y130 q133 => ?_)
     obtain ⟨rfl, rfl⟩ := q133
     show own_Ends _ _ _ _ (T129.setTop (mkF m 135 #[.val (.int x0), .val (.int x1), .val (.int (4 : Int32)), .val (.ref rEQUAL), .val (.int (2 : Int32)), .val (.int (2 : Int32)), .val (.int (0 : Int32))] [(.int (own_b (decide (x1 = 0))))]))
     refine own_st (fun t_ => XS.iload (own_here Y130) hx rfl (hb hby at_135) rfl) ?_
     show own_Ends _ _ _ _ (T129.setTop (mkF m 137 #[.val (.int x0), .val (.int x1), .val (.int (4 : Int32)), .val (.ref rEQUAL), .val (.int (2 : Int32)), .val (.int (2 : Int32)), .val (.int (0 : Int32))] [(.int (0 : Int32)), (.int (own_b (decide (x1 = 0))))]))
     have s0 : (0 : Int32) < x1 := by have e0 : (0 : Int32).toInt = 0 := rfl; have := c91_117; have t := c101_123; simp only [own_lt, own_eq] at this t ⊢; omega
     refine own_st (fun t_ => XS.icmpNo (own_here Y130) hx rfl (hb hby at_137) rfl (XT.ii_ne_f (by simp [own_b, s0, c91_117, c101_123]))) ?_
     show own_Ends _ _ _ _ (T129.setTop (mkF m 140 #[.val (.int x0), .val (.int x1), .val (.int (4 : Int32)), .val (.ref rEQUAL), .val (.int (2 : Int32)), .val (.int (2 : Int32)), .val (.int (0 : Int32))] []))
     refine own_st (fun t_ => XS.iconst (own_here Y130) hx rfl (hb hby at_140) ) ?_
     show own_Ends _ _ _ _ (T129.setTop (mkF m 141 #[.val (.int x0), .val (.int x1), .val (.int (4 : Int32)), .val (.ref rEQUAL), .val (.int (2 : Int32)), .val (.int (2 : Int32)), .val (.int (0 : Int32))] [(.int (1 : Int32))]))
     refine own_st (fun t_ => XS.goto (own_here Y130) hx rfl (pc0 := 141) (pc' := 145) rfl (hb hby at_141) (by decide) (by decide)) ?_
     show own_Ends _ _ _ _ (T129.setTop (mkF m 145 #[.val (.int x0), .val (.int x1), .val (.int (4 : Int32)), .val (.ref rEQUAL), .val (.int (2 : Int32)), .val (.int (2 : Int32)), .val (.int (0 : Int32))] [(.int (1 : Int32))]))
     refine own_retN Y130 hx hlk (t := .boolean) hret (by simp) (hb hby at_145) (by decide) (by decide) ?_
     exact rfl
  ·
   show own_Ends _ _ _ _ (T0.setTop (mkF m 8 #[.val (.int x0), .val (.int x1), .val (.int (5 : Int32)), .unset, .unset, .unset, .unset] []))
   refine own_st (fun t_ => XS.iloadN (own_here Y0) hx rfl (hb hby at_8) rfl) ?_
   show own_Ends _ _ _ _ (T0.setTop (mkF m 9 #[.val (.int x0), .val (.int x1), .val (.int (5 : Int32)), .unset, .unset, .unset, .unset] [(.int (5 : Int32))]))
   refine own_st (fun t_ => XS.ifYes (own_here Y0) hx rfl (pc0 := 9) (pc' := 22) rfl (hb hby at_9) rfl (XT.i0_ne_t (by decide)) (by decide) (by decide)) ?_
   show own_Ends _ _ _ _ (T0.setTop (mkF m 22 #[.val (.int x0), .val (.int x1), .val (.int (5 : Int32)), .unset, .unset, .unset, .unset] []))
   refine own_st (fun t_ => XS.iloadN (own_here Y0) hx rfl (hb hby at_22) rfl) ?_
   show own_Ends _ _ _ _ (T0.setTop (mkF m 23 #[.val (.int x0), .val (.int x1), .val (.int (5 : Int32)), .unset, .unset, .unset, .unset] [(.int (5 : Int32))]))
   refine own_st (fun t_ => XS.iconst (own_here Y0) hx rfl (hb hby at_23) ) ?_
   show own_Ends _ _ _ _ (T0.setTop (mkF m 24 #[.val (.int x0), .val (.int x1), .val (.int (5 : Int32)), .unset, .unset, .unset, .unset] [(.int (1 : Int32)), (.int (5 : Int32))]))
   refine own_st (fun t_ => XS.icmpYes (own_here Y0) hx rfl (pc0 := 24) (pc' := 37) rfl (hb hby at_24) rfl (XT.ii_ne_t (by decide)) (by decide) (by decide)) ?_
   show own_Ends _ _ _ _ (T0.setTop (mkF m 37 #[.val (.int x0), .val (.int x1), .val (.int (5 : Int32)), .unset, .unset, .unset, .unset] []))
   refine own_st (fun t_ => XS.iloadN (own_here Y0) hx rfl (hb hby at_37) rfl) ?_
   show own_Ends _ _ _ _ (T0.setTop (mkF m 38 #[.val (.int x0), .val (.int x1), .val (.int (5 : Int32)), .unset, .unset, .unset, .unset] [(.int (5 : Int32))]))
   refine own_st (fun t_ => XS.iconst (own_here Y0) hx rfl (hb hby at_38) ) ?_
   show own_Ends _ _ _ _ (T0.setTop (mkF m 39 #[.val (.int x0), .val (.int x1), .val (.int (5 : Int32)), .unset, .unset, .unset, .unset] [(.int (2 : Int32)), (.int (5 : Int32))]))
   refine own_st (fun t_ => XS.icmpYes (own_here Y0) hx rfl (pc0 := 39) (pc' := 52) rfl (hb hby at_39) rfl (XT.ii_ne_t (by decide)) (by decide) (by decide)) ?_
   show own_Ends _ _ _ _ (T0.setTop (mkF m 52 #[.val (.int x0), .val (.int x1), .val (.int (5 : Int32)), .unset, .unset, .unset, .unset] []))
   refine own_st (fun t_ => XS.iloadN (own_here Y0) hx rfl (hb hby at_52) rfl) ?_
   show own_Ends _ _ _ _ (T0.setTop (mkF m 53 #[.val (.int x0), .val (.int x1), .val (.int (5 : Int32)), .unset, .unset, .unset, .unset] [(.int (5 : Int32))]))
   refine own_st (fun t_ => XS.iconst (own_here Y0) hx rfl (hb hby at_53) ) ?_
   show own_Ends _ _ _ _ (T0.setTop (mkF m 54 #[.val (.int x0), .val (.int x1), .val (.int (5 : Int32)), .unset, .unset, .unset, .unset] [(.int (3 : Int32)), (.int (5 : Int32))]))
   refine own_st (fun t_ => XS.icmpYes (own_here Y0) hx rfl (pc0 := 54) (pc' := 68) rfl (hb hby at_54) rfl (XT.ii_ne_t (by decide)) (by decide) (by decide)) ?_
   show own_Ends _ _ _ _ (T0.setTop (mkF m 68 #[.val (.int x0), .val (.int x1), .val (.int (5 : Int32)), .unset, .unset, .unset, .unset] []))
   refine own_st (fun t_ => XS.iloadN (own_here Y0) hx rfl (hb hby at_68) rfl) ?_
   show own_Ends _ _ _ _ (T0.setTop (mkF m 69 #[.val (.int x0), .val (.int x1), .val (.int (5 : Int32)), .unset, .unset, .unset, .unset] [(.int (5 : Int32))]))
   refine own_st (fun t_ => XS.iconst (own_here Y0) hx rfl (hb hby at_69) ) ?_
   show own_Ends _ _ _ _ (T0.setTop (mkF m 70 #[.val (.int x0), .val (.int x1), .val (.int (5 : Int32)), .unset, .unset, .unset, .unset] [(.int (4 : Int32)), (.int (5 : Int32))]))
   refine own_st (fun t_ => XS.icmpYes (own_here Y0) hx rfl (pc0 := 70) (pc' := 83) rfl (hb hby at_70) rfl (XT.ii_ne_t (by decide)) (by decide) (by decide)) ?_
   show own_Ends _ _ _ _ (T0.setTop (mkF m 83 #[.val (.int x0), .val (.int x1), .val (.int (5 : Int32)), .unset, .unset, .unset, .unset] []))
   refine own_getS Y0 hx hZ hown (host := "") (Or.inl (hw _ (List.mem_of_getElem? (i := 19) rfl))) Via.refl SNOT_EQUAL rfl (hb hby at_83) (fun T134 Y135 => ?_)
   show own_Ends _ _ _ _ (T134.setTop (mkF m 86 #[.val (.int x0), .val (.int x1), .val (.int (5 : Int32)), .unset, .unset, .unset, .unset] [(.ref rNOT_EQUAL)]))
   refine own_st (fun t_ => XS.astoreN (own_here Y135) hx rfl (hb hby at_86) rfl rfl (l' := #[.val (.int x0), .val (.int x1), .val (.int (5 : Int32)), .val (.ref rNOT_EQUAL), .unset, .unset, .unset]) rfl) ?_
   show own_Ends _ _ _ _ (T134.setTop (mkF m 87 #[.val (.int x0), .val (.int x1), .val (.int (5 : Int32)), .val (.ref rNOT_EQUAL), .unset, .unset, .unset] []))
   refine own_st (fun t_ => XS.iconst (own_here Y135) hx rfl (hb hby at_87) ) ?_
   show own_Ends _ _ _ _ (T134.setTop (mkF m 88 #[.val (.int x0), .val (.int x1), .val (.int (5 : Int32)), .val (.ref rNOT_EQUAL), .unset, .unset, .unset] [(.int (5 : Int32))]))
   refine own_st (fun t_ => XS.istore (own_here Y135) hx rfl (hb hby at_88) rfl (l' := #[.val (.int x0), .val (.int x1), .val (.int (5 : Int32)), .val (.ref rNOT_EQUAL), .val (.int (5 : Int32)), .unset, .unset]) rfl) ?_
   show own_Ends _ _ _ _ (T134.setTop (mkF m 90 #[.val (.int x0), .val (.int x1), .val (.int (5 : Int32)), .val (.ref rNOT_EQUAL), .val (.int (5 : Int32)), .unset, .unset] []))
   refine own_st (fun t_ => XS.iloadN (own_here Y135) hx rfl (hb hby at_90) rfl) ?_
   show own_Ends _ _ _ _ (T134.setTop (mkF m 91 #[.val (.int x0), .val (.int x1), .val (.int (5 : Int32)), .val (.ref rNOT_EQUAL), .val (.int (5 : Int32)), .unset, .unset] [(.int x1)]))
   by_cases c91_136 : x1 < (0 : Int32)
   ·
    refine own_st (fun t_ => XS.ifNo (own_here Y135) hx rfl (hb hby at_91) rfl (XT.i0_ge_f c91_136)) ?_
    show own_Ends _ _ _ _ (T134.setTop (mkF m 94 #[.val (.int x0), .val (.int x1), .val (.int (5 : Int32)), .val (.ref rNOT_EQUAL), .val (.int (5 : Int32)), .unset, .unset] []))
    refine own_st (fun t_ => XS.iconst (own_here Y135) hx rfl (hb hby at_94) ) ?_
    show own_Ends _ _ _ _ (T134.setTop (mkF m 95 #[.val (.int x0), .val (.int x1), .val (.int (5 : Int32)), .val (.ref rNOT_EQUAL), .val (.int (5 : Int32)), .unset, .unset] [(.int (0 : Int32))]))
    refine own_st (fun t_ => XS.istore (own_here Y135) hx rfl (hb hby at_95) rfl (l' := #[.val (.int x0), .val (.int x1), .val (.int (5 : Int32)), .val (.ref rNOT_EQUAL), .val (.int (5 : Int32)), .val (.int (0 : Int32)), .unset]) rfl) ?_
    show own_Ends _ _ _ _ (T134.setTop (mkF m 97 #[.val (.int x0), .val (.int x1), .val (.int (5 : Int32)), .val (.ref rNOT_EQUAL), .val (.int (5 : Int32)), .val (.int (0 : Int32)), .unset] []))
    refine own_st (fun t_ => XS.goto (own_here Y135) hx rfl (pc0 := 97) (pc' := 113) rfl (hb hby at_97) (by decide) (by decide)) ?_
    show own_Ends _ _ _ _ (T134.setTop (mkF m 113 #[.val (.int x0), .val (.int x1), .val (.int (5 : Int32)), .val (.ref rNOT_EQUAL), .val (.int (5 : Int32)), .val (.int (0 : Int32)), .unset] []))
    refine own_st (fun t_ => XS.iload (own_here Y135) hx rfl (hb hby at_113) rfl) ?_
    show own_Ends _ _ _ _ (T134.setTop (mkF m 115 #[.val (.int x0), .val (.int x1), .val (.int (5 : Int32)), .val (.ref rNOT_EQUAL), .val (.int (5 : Int32)), .val (.int (0 : Int32)), .unset] [(.int (5 : Int32))]))
    refine own_st (fun t_ => XS.iload (own_here Y135) hx rfl (hb hby at_115) rfl) ?_
    show own_Ends _ _ _ _ (T134.setTop (mkF m 117 #[.val (.int x0), .val (.int x1), .val (.int (5 : Int32)), .val (.ref rNOT_EQUAL), .val (.int (5 : Int32)), .val (.int (0 : Int32)), .unset] [(.int (0 : Int32)), (.int (5 : Int32))]))
    refine own_st (fun t_ => XS.ishr (own_here Y135) hx rfl (hb hby at_117) rfl) ?_
    show own_Ends _ _ _ _ (T134.setTop (mkF m 118 #[.val (.int x0), .val (.int x1), .val (.int (5 : Int32)), .val (.ref rNOT_EQUAL), .val (.int (5 : Int32)), .val (.int (0 : Int32)), .unset] [(.int (5 : Int32))]))
    refine own_st (fun t_ => XS.iconst (own_here Y135) hx rfl (hb hby at_118) ) ?_
    show own_Ends _ _ _ _ (T134.setTop (mkF m 119 #[.val (.int x0), .val (.int x1), .val (.int (5 : Int32)), .val (.ref rNOT_EQUAL), .val (.int (5 : Int32)), .val (.int (0 : Int32)), .unset] [(.int (1 : Int32)), (.int (5 : Int32))]))
    refine own_st (fun t_ => XS.iand (own_here Y135) hx rfl (hb hby at_119) rfl) ?_
    show own_Ends _ _ _ _ (T134.setTop (mkF m 120 #[.val (.int x0), .val (.int x1), .val (.int (5 : Int32)), .val (.ref rNOT_EQUAL), .val (.int (5 : Int32)), .val (.int (0 : Int32)), .unset] [(.int (1 : Int32))]))
    refine own_st (fun t_ => XS.ifNo (own_here Y135) hx rfl (hb hby at_120) rfl (XT.i0_eq_f (by decide))) ?_
    show own_Ends _ _ _ _ (T134.setTop (mkF m 123 #[.val (.int x0), .val (.int x1), .val (.int (5 : Int32)), .val (.ref rNOT_EQUAL), .val (.int (5 : Int32)), .val (.int (0 : Int32)), .unset] []))
    refine own_st (fun t_ => XS.iconst (own_here Y135) hx rfl (hb hby at_123) ) ?_
    show own_Ends _ _ _ _ (T134.setTop (mkF m 124 #[.val (.int x0), .val (.int x1), .val (.int (5 : Int32)), .val (.ref rNOT_EQUAL), .val (.int (5 : Int32)), .val (.int (0 : Int32)), .unset] [(.int (1 : Int32))]))
    refine own_st (fun t_ => XS.goto (own_here Y135) hx rfl (pc0 := 124) (pc' := 128) rfl (hb hby at_124) (by decide) (by decide)) ?_
    show own_Ends _ _ _ _ (T134.setTop (mkF m 128 #[.val (.int x0), .val (.int x1), .val (.int (5 : Int32)), .val (.ref rNOT_EQUAL), .val (.int (5 : Int32)), .val (.int (0 : Int32)), .unset] [(.int (1 : Int32))]))
    refine own_st (fun t_ => XS.istore (own_here Y135) hx rfl (hb hby at_128) rfl (l' := #[.val (.int x0), .val (.int x1), .val (.int (5 : Int32)), .val (.ref rNOT_EQUAL), .val (.int (5 : Int32)), .val (.int (0 : Int32)), .val (.int (1 : Int32))]) rfl) ?_
    show own_Ends _ _ _ _ (T134.setTop (mkF m 130 #[.val (.int x0), .val (.int x1), .val (.int (5 : Int32)), .val (.ref rNOT_EQUAL), .val (.int (5 : Int32)), .val (.int (0 : Int32)), .val (.int (1 : Int32))] []))
    refine own_st (fun t_ => XS.aloadN (own_here Y135) hx rfl (hb hby at_130) rfl rfl) ?_
    show own_Ends _ _ _ _ (T134.setTop (mkF m 131 #[.val (.int x0), .val (.int x1), .val (.int (5 : Int32)), .val (.ref rNOT_EQUAL), .val (.int (5 : Int32)), .val (.int (0 : Int32)), .val (.int (1 : Int32))] [(.ref rNOT_EQUAL)]))
    refine own_st (fun t_ => XS.iloadN (own_here Y135) hx rfl (hb hby at_131) rfl) ?_
    show own_Ends _ _ _ _ (T134.setTop (mkF m 132 #[.val (.int x0), .val (.int x1), .val (.int (5 : Int32)), .val (.ref rNOT_EQUAL), .val (.int (5 : Int32)), .val (.int (0 : Int32)), .val (.int (1 : Int32))] [(.int x1), (.ref rNOT_EQUAL)]))
    refine own_callV Y135 hx hZ (y := (⟨"com/example/poset/poset/core/Formula$Relation", "holds", "(I)Z"⟩ : MethodName)) (z := (⟨"com/example/poset/poset/core/Formula$Relation", "holds", "(I)Z"⟩ : MethodName)) hown (hw _ (List.mem_of_getElem? (i := 3) rfl)) (hw _ (List.mem_of_getElem? (i := 4) rfl)) (notFace_of_selects (args := #[]) (mvT hZ (hw _ (List.mem_of_getElem? (i := 6) rfl)))) (hw _ (List.mem_of_getElem? (i := 6) rfl)) (hw _ (List.mem_of_getElem? (i := 5) rfl)) (hw _ (List.mem_of_getElem? (i := 1) rfl)) (hw _ (List.mem_of_getElem? (i := 7) rfl)) (by decide) (a := rNOT_EQUAL) ENOT_EQUAL (argsL := [(.int x1)]) (rest := []) (own_rm1_5 l Z a0 hw [] rNOT_EQUAL x1  h0 n0  ENOT_EQUAL FNOT_EQUAL) (W := 0) (by decide) (by decide) (by decide) (by decide) rfl (by rw [hml]; rfl) (lenOf own_pd1 rfl) rfl (by show 2 * 0 + _ ≤ _; exact Nat.le_of_eq rfl) (hb hby at_132) (fun T137 h139 v140 Y138 q141 => ?_)
    obtain ⟨rfl, rfl⟩ := q141
    show own_Ends _ _ _ _ (T137.setTop (mkF m 135 #[.val (.int x0), .val (.int x1), .val (.int (5 : Int32)), .val (.ref rNOT_EQUAL), .val (.int (5 : Int32)), .val (.int (0 : Int32)), .val (.int (1 : Int32))] [(.int (own_b (!decide (x1 = 0))))]))
    refine own_st (fun t_ => XS.iload (own_here Y138) hx rfl (hb hby at_135) rfl) ?_
    show own_Ends _ _ _ _ (T137.setTop (mkF m 137 #[.val (.int x0), .val (.int x1), .val (.int (5 : Int32)), .val (.ref rNOT_EQUAL), .val (.int (5 : Int32)), .val (.int (0 : Int32)), .val (.int (1 : Int32))] [(.int (1 : Int32)), (.int (own_b (!decide (x1 = 0))))]))
    have s0 : ¬ (0 : Int32) < x1 := by have := c91_136; simp only [own_lt] at this ⊢; omega
    have s1 : ¬ x1 = 0 := by have := c91_136; simp only [own_lt, own_eq] at this ⊢; omega
    refine own_st (fun t_ => XS.icmpNo (own_here Y138) hx rfl (hb hby at_137) rfl (XT.ii_ne_f (by simp [own_b, s0, c91_136, s1]))) ?_
    show own_Ends _ _ _ _ (T137.setTop (mkF m 140 #[.val (.int x0), .val (.int x1), .val (.int (5 : Int32)), .val (.ref rNOT_EQUAL), .val (.int (5 : Int32)), .val (.int (0 : Int32)), .val (.int (1 : Int32))] []))
    refine own_st (fun t_ => XS.iconst (own_here Y138) hx rfl (hb hby at_140) ) ?_
    show own_Ends _ _ _ _ (T137.setTop (mkF m 141 #[.val (.int x0), .val (.int x1), .val (.int (5 : Int32)), .val (.ref rNOT_EQUAL), .val (.int (5 : Int32)), .val (.int (0 : Int32)), .val (.int (1 : Int32))] [(.int (1 : Int32))]))
    refine own_st (fun t_ => XS.goto (own_here Y138) hx rfl (pc0 := 141) (pc' := 145) rfl (hb hby at_141) (by decide) (by decide)) ?_
    show own_Ends _ _ _ _ (T137.setTop (mkF m 145 #[.val (.int x0), .val (.int x1), .val (.int (5 : Int32)), .val (.ref rNOT_EQUAL), .val (.int (5 : Int32)), .val (.int (0 : Int32)), .val (.int (1 : Int32))] [(.int (1 : Int32))]))
    refine own_retN Y138 hx hlk (t := .boolean) hret (by simp) (hb hby at_145) (by decide) (by decide) ?_
    exact rfl
   ·
    refine own_st (fun t_ => XS.ifYes (own_here Y135) hx rfl (pc0 := 91) (pc' := 100) rfl (hb hby at_91) rfl (XT.i0_ge_t c91_136) (by decide) (by decide)) ?_
    show own_Ends _ _ _ _ (T134.setTop (mkF m 100 #[.val (.int x0), .val (.int x1), .val (.int (5 : Int32)), .val (.ref rNOT_EQUAL), .val (.int (5 : Int32)), .unset, .unset] []))
    refine own_st (fun t_ => XS.iloadN (own_here Y135) hx rfl (hb hby at_100) rfl) ?_
    show own_Ends _ _ _ _ (T134.setTop (mkF m 101 #[.val (.int x0), .val (.int x1), .val (.int (5 : Int32)), .val (.ref rNOT_EQUAL), .val (.int (5 : Int32)), .unset, .unset] [(.int x1)]))
    by_cases c101_142 : x1 = (0 : Int32)
    ·
     refine own_st (fun t_ => XS.ifNo (own_here Y135) hx rfl (hb hby at_101) rfl (XT.i0_ne_f c101_142)) ?_
     show own_Ends _ _ _ _ (T134.setTop (mkF m 104 #[.val (.int x0), .val (.int x1), .val (.int (5 : Int32)), .val (.ref rNOT_EQUAL), .val (.int (5 : Int32)), .unset, .unset] []))
     refine own_st (fun t_ => XS.iconst (own_here Y135) hx rfl (hb hby at_104) ) ?_
     show own_Ends _ _ _ _ (T134.setTop (mkF m 105 #[.val (.int x0), .val (.int x1), .val (.int (5 : Int32)), .val (.ref rNOT_EQUAL), .val (.int (5 : Int32)), .unset, .unset] [(.int (1 : Int32))]))
     refine own_st (fun t_ => XS.istore (own_here Y135) hx rfl (hb hby at_105) rfl (l' := #[.val (.int x0), .val (.int x1), .val (.int (5 : Int32)), .val (.ref rNOT_EQUAL), .val (.int (5 : Int32)), .val (.int (1 : Int32)), .unset]) rfl) ?_
     show own_Ends _ _ _ _ (T134.setTop (mkF m 107 #[.val (.int x0), .val (.int x1), .val (.int (5 : Int32)), .val (.ref rNOT_EQUAL), .val (.int (5 : Int32)), .val (.int (1 : Int32)), .unset] []))
     refine own_st (fun t_ => XS.goto (own_here Y135) hx rfl (pc0 := 107) (pc' := 113) rfl (hb hby at_107) (by decide) (by decide)) ?_
     show own_Ends _ _ _ _ (T134.setTop (mkF m 113 #[.val (.int x0), .val (.int x1), .val (.int (5 : Int32)), .val (.ref rNOT_EQUAL), .val (.int (5 : Int32)), .val (.int (1 : Int32)), .unset] []))
     refine own_st (fun t_ => XS.iload (own_here Y135) hx rfl (hb hby at_113) rfl) ?_
     show own_Ends _ _ _ _ (T134.setTop (mkF m 115 #[.val (.int x0), .val (.int x1), .val (.int (5 : Int32)), .val (.ref rNOT_EQUAL), .val (.int (5 : Int32)), .val (.int (1 : Int32)), .unset] [(.int (5 : Int32))]))
     refine own_st (fun t_ => XS.iload (own_here Y135) hx rfl (hb hby at_115) rfl) ?_
     show own_Ends _ _ _ _ (T134.setTop (mkF m 117 #[.val (.int x0), .val (.int x1), .val (.int (5 : Int32)), .val (.ref rNOT_EQUAL), .val (.int (5 : Int32)), .val (.int (1 : Int32)), .unset] [(.int (1 : Int32)), (.int (5 : Int32))]))
     refine own_st (fun t_ => XS.ishr (own_here Y135) hx rfl (hb hby at_117) rfl) ?_
     show own_Ends _ _ _ _ (T134.setTop (mkF m 118 #[.val (.int x0), .val (.int x1), .val (.int (5 : Int32)), .val (.ref rNOT_EQUAL), .val (.int (5 : Int32)), .val (.int (1 : Int32)), .unset] [(.int (2 : Int32))]))
     refine own_st (fun t_ => XS.iconst (own_here Y135) hx rfl (hb hby at_118) ) ?_
     show own_Ends _ _ _ _ (T134.setTop (mkF m 119 #[.val (.int x0), .val (.int x1), .val (.int (5 : Int32)), .val (.ref rNOT_EQUAL), .val (.int (5 : Int32)), .val (.int (1 : Int32)), .unset] [(.int (1 : Int32)), (.int (2 : Int32))]))
     refine own_st (fun t_ => XS.iand (own_here Y135) hx rfl (hb hby at_119) rfl) ?_
     show own_Ends _ _ _ _ (T134.setTop (mkF m 120 #[.val (.int x0), .val (.int x1), .val (.int (5 : Int32)), .val (.ref rNOT_EQUAL), .val (.int (5 : Int32)), .val (.int (1 : Int32)), .unset] [(.int (0 : Int32))]))
     refine own_st (fun t_ => XS.ifYes (own_here Y135) hx rfl (pc0 := 120) (pc' := 127) rfl (hb hby at_120) rfl (XT.i0_eq_t (by decide)) (by decide) (by decide)) ?_
     show own_Ends _ _ _ _ (T134.setTop (mkF m 127 #[.val (.int x0), .val (.int x1), .val (.int (5 : Int32)), .val (.ref rNOT_EQUAL), .val (.int (5 : Int32)), .val (.int (1 : Int32)), .unset] []))
     refine own_st (fun t_ => XS.iconst (own_here Y135) hx rfl (hb hby at_127) ) ?_
     show own_Ends _ _ _ _ (T134.setTop (mkF m 128 #[.val (.int x0), .val (.int x1), .val (.int (5 : Int32)), .val (.ref rNOT_EQUAL), .val (.int (5 : Int32)), .val (.int (1 : Int32)), .unset] [(.int (0 : Int32))]))
     refine own_st (fun t_ => XS.istore (own_here Y135) hx rfl (hb hby at_128) rfl (l' := #[.val (.int x0), .val (.int x1), .val (.int (5 : Int32)), .val (.ref rNOT_EQUAL), .val (.int (5 : Int32)), .val (.int (1 : Int32)), .val (.int (0 : Int32))]) rfl) ?_
     show own_Ends _ _ _ _ (T134.setTop (mkF m 130 #[.val (.int x0), .val (.int x1), .val (.int (5 : Int32)), .val (.ref rNOT_EQUAL), .val (.int (5 : Int32)), .val (.int (1 : Int32)), .val (.int (0 : Int32))] []))
     refine own_st (fun t_ => XS.aloadN (own_here Y135) hx rfl (hb hby at_130) rfl rfl) ?_
     show own_Ends _ _ _ _ (T134.setTop (mkF m 131 #[.val (.int x0), .val (.int x1), .val (.int (5 : Int32)), .val (.ref rNOT_EQUAL), .val (.int (5 : Int32)), .val (.int (1 : Int32)), .val (.int (0 : Int32))] [(.ref rNOT_EQUAL)]))
     refine own_st (fun t_ => XS.iloadN (own_here Y135) hx rfl (hb hby at_131) rfl) ?_
     show own_Ends _ _ _ _ (T134.setTop (mkF m 132 #[.val (.int x0), .val (.int x1), .val (.int (5 : Int32)), .val (.ref rNOT_EQUAL), .val (.int (5 : Int32)), .val (.int (1 : Int32)), .val (.int (0 : Int32))] [(.int x1), (.ref rNOT_EQUAL)]))
     refine own_callV Y135 hx hZ (y := (⟨"com/example/poset/poset/core/Formula$Relation", "holds", "(I)Z"⟩ : MethodName)) (z := (⟨"com/example/poset/poset/core/Formula$Relation", "holds", "(I)Z"⟩ : MethodName)) hown (hw _ (List.mem_of_getElem? (i := 3) rfl)) (hw _ (List.mem_of_getElem? (i := 4) rfl)) (notFace_of_selects (args := #[]) (mvT hZ (hw _ (List.mem_of_getElem? (i := 6) rfl)))) (hw _ (List.mem_of_getElem? (i := 6) rfl)) (hw _ (List.mem_of_getElem? (i := 5) rfl)) (hw _ (List.mem_of_getElem? (i := 1) rfl)) (hw _ (List.mem_of_getElem? (i := 7) rfl)) (by decide) (a := rNOT_EQUAL) ENOT_EQUAL (argsL := [(.int x1)]) (rest := []) (own_rm1_5 l Z a0 hw [] rNOT_EQUAL x1  h0 n0  ENOT_EQUAL FNOT_EQUAL) (W := 0) (by decide) (by decide) (by decide) (by decide) rfl (by rw [hml]; rfl) (lenOf own_pd1 rfl) rfl (by show 2 * 0 + _ ≤ _; exact Nat.le_of_eq rfl) (hb hby at_132) (fun T143 h145 v146 Y144 q147 => ?_)
     obtain ⟨rfl, rfl⟩ := q147
     show own_Ends _ _ _ _ (T143.setTop (mkF m 135 #[.val (.int x0), .val (.int x1), .val (.int (5 : Int32)), .val (.ref rNOT_EQUAL), .val (.int (5 : Int32)), .val (.int (1 : Int32)), .val (.int (0 : Int32))] [(.int (own_b (!decide (x1 = 0))))]))
     refine own_st (fun t_ => XS.iload (own_here Y144) hx rfl (hb hby at_135) rfl) ?_
     show own_Ends _ _ _ _ (T143.setTop (mkF m 137 #[.val (.int x0), .val (.int x1), .val (.int (5 : Int32)), .val (.ref rNOT_EQUAL), .val (.int (5 : Int32)), .val (.int (1 : Int32)), .val (.int (0 : Int32))] [(.int (0 : Int32)), (.int (own_b (!decide (x1 = 0))))]))
     have s0 : ¬ (0 : Int32) < x1 := by have := c101_142; simp only [own_lt, own_eq] at this ⊢; omega
     refine own_st (fun t_ => XS.icmpNo (own_here Y144) hx rfl (hb hby at_137) rfl (XT.ii_ne_f (by simp [own_b, s0, c91_136, c101_142]))) ?_
     show own_Ends _ _ _ _ (T143.setTop (mkF m 140 #[.val (.int x0), .val (.int x1), .val (.int (5 : Int32)), .val (.ref rNOT_EQUAL), .val (.int (5 : Int32)), .val (.int (1 : Int32)), .val (.int (0 : Int32))] []))
     refine own_st (fun t_ => XS.iconst (own_here Y144) hx rfl (hb hby at_140) ) ?_
     show own_Ends _ _ _ _ (T143.setTop (mkF m 141 #[.val (.int x0), .val (.int x1), .val (.int (5 : Int32)), .val (.ref rNOT_EQUAL), .val (.int (5 : Int32)), .val (.int (1 : Int32)), .val (.int (0 : Int32))] [(.int (1 : Int32))]))
     refine own_st (fun t_ => XS.goto (own_here Y144) hx rfl (pc0 := 141) (pc' := 145) rfl (hb hby at_141) (by decide) (by decide)) ?_
     show own_Ends _ _ _ _ (T143.setTop (mkF m 145 #[.val (.int x0), .val (.int x1), .val (.int (5 : Int32)), .val (.ref rNOT_EQUAL), .val (.int (5 : Int32)), .val (.int (1 : Int32)), .val (.int (0 : Int32))] [(.int (1 : Int32))]))
     refine own_retN Y144 hx hlk (t := .boolean) hret (by simp) (hb hby at_145) (by decide) (by decide) ?_
     exact rfl
    ·
     refine own_st (fun t_ => XS.ifYes (own_here Y135) hx rfl (pc0 := 101) (pc' := 110) rfl (hb hby at_101) rfl (XT.i0_ne_t c101_142) (by decide) (by decide)) ?_
     show own_Ends _ _ _ _ (T134.setTop (mkF m 110 #[.val (.int x0), .val (.int x1), .val (.int (5 : Int32)), .val (.ref rNOT_EQUAL), .val (.int (5 : Int32)), .unset, .unset] []))
     refine own_st (fun t_ => XS.iconst (own_here Y135) hx rfl (hb hby at_110) ) ?_
     show own_Ends _ _ _ _ (T134.setTop (mkF m 111 #[.val (.int x0), .val (.int x1), .val (.int (5 : Int32)), .val (.ref rNOT_EQUAL), .val (.int (5 : Int32)), .unset, .unset] [(.int (2 : Int32))]))
     refine own_st (fun t_ => XS.istore (own_here Y135) hx rfl (hb hby at_111) rfl (l' := #[.val (.int x0), .val (.int x1), .val (.int (5 : Int32)), .val (.ref rNOT_EQUAL), .val (.int (5 : Int32)), .val (.int (2 : Int32)), .unset]) rfl) ?_
     show own_Ends _ _ _ _ (T134.setTop (mkF m 113 #[.val (.int x0), .val (.int x1), .val (.int (5 : Int32)), .val (.ref rNOT_EQUAL), .val (.int (5 : Int32)), .val (.int (2 : Int32)), .unset] []))
     refine own_st (fun t_ => XS.iload (own_here Y135) hx rfl (hb hby at_113) rfl) ?_
     show own_Ends _ _ _ _ (T134.setTop (mkF m 115 #[.val (.int x0), .val (.int x1), .val (.int (5 : Int32)), .val (.ref rNOT_EQUAL), .val (.int (5 : Int32)), .val (.int (2 : Int32)), .unset] [(.int (5 : Int32))]))
     refine own_st (fun t_ => XS.iload (own_here Y135) hx rfl (hb hby at_115) rfl) ?_
     show own_Ends _ _ _ _ (T134.setTop (mkF m 117 #[.val (.int x0), .val (.int x1), .val (.int (5 : Int32)), .val (.ref rNOT_EQUAL), .val (.int (5 : Int32)), .val (.int (2 : Int32)), .unset] [(.int (2 : Int32)), (.int (5 : Int32))]))
     refine own_st (fun t_ => XS.ishr (own_here Y135) hx rfl (hb hby at_117) rfl) ?_
     show own_Ends _ _ _ _ (T134.setTop (mkF m 118 #[.val (.int x0), .val (.int x1), .val (.int (5 : Int32)), .val (.ref rNOT_EQUAL), .val (.int (5 : Int32)), .val (.int (2 : Int32)), .unset] [(.int (1 : Int32))]))
     refine own_st (fun t_ => XS.iconst (own_here Y135) hx rfl (hb hby at_118) ) ?_
     show own_Ends _ _ _ _ (T134.setTop (mkF m 119 #[.val (.int x0), .val (.int x1), .val (.int (5 : Int32)), .val (.ref rNOT_EQUAL), .val (.int (5 : Int32)), .val (.int (2 : Int32)), .unset] [(.int (1 : Int32)), (.int (1 : Int32))]))
     refine own_st (fun t_ => XS.iand (own_here Y135) hx rfl (hb hby at_119) rfl) ?_
     show own_Ends _ _ _ _ (T134.setTop (mkF m 120 #[.val (.int x0), .val (.int x1), .val (.int (5 : Int32)), .val (.ref rNOT_EQUAL), .val (.int (5 : Int32)), .val (.int (2 : Int32)), .unset] [(.int (1 : Int32))]))
     refine own_st (fun t_ => XS.ifNo (own_here Y135) hx rfl (hb hby at_120) rfl (XT.i0_eq_f (by decide))) ?_
     show own_Ends _ _ _ _ (T134.setTop (mkF m 123 #[.val (.int x0), .val (.int x1), .val (.int (5 : Int32)), .val (.ref rNOT_EQUAL), .val (.int (5 : Int32)), .val (.int (2 : Int32)), .unset] []))
     refine own_st (fun t_ => XS.iconst (own_here Y135) hx rfl (hb hby at_123) ) ?_
     show own_Ends _ _ _ _ (T134.setTop (mkF m 124 #[.val (.int x0), .val (.int x1), .val (.int (5 : Int32)), .val (.ref rNOT_EQUAL), .val (.int (5 : Int32)), .val (.int (2 : Int32)), .unset] [(.int (1 : Int32))]))
     refine own_st (fun t_ => XS.goto (own_here Y135) hx rfl (pc0 := 124) (pc' := 128) rfl (hb hby at_124) (by decide) (by decide)) ?_
     show own_Ends _ _ _ _ (T134.setTop (mkF m 128 #[.val (.int x0), .val (.int x1), .val (.int (5 : Int32)), .val (.ref rNOT_EQUAL), .val (.int (5 : Int32)), .val (.int (2 : Int32)), .unset] [(.int (1 : Int32))]))
     refine own_st (fun t_ => XS.istore (own_here Y135) hx rfl (hb hby at_128) rfl (l' := #[.val (.int x0), .val (.int x1), .val (.int (5 : Int32)), .val (.ref rNOT_EQUAL), .val (.int (5 : Int32)), .val (.int (2 : Int32)), .val (.int (1 : Int32))]) rfl) ?_
     show own_Ends _ _ _ _ (T134.setTop (mkF m 130 #[.val (.int x0), .val (.int x1), .val (.int (5 : Int32)), .val (.ref rNOT_EQUAL), .val (.int (5 : Int32)), .val (.int (2 : Int32)), .val (.int (1 : Int32))] []))
     refine own_st (fun t_ => XS.aloadN (own_here Y135) hx rfl (hb hby at_130) rfl rfl) ?_
     show own_Ends _ _ _ _ (T134.setTop (mkF m 131 #[.val (.int x0), .val (.int x1), .val (.int (5 : Int32)), .val (.ref rNOT_EQUAL), .val (.int (5 : Int32)), .val (.int (2 : Int32)), .val (.int (1 : Int32))] [(.ref rNOT_EQUAL)]))
     refine own_st (fun t_ => XS.iloadN (own_here Y135) hx rfl (hb hby at_131) rfl) ?_
     show own_Ends _ _ _ _ (T134.setTop (mkF m 132 #[.val (.int x0), .val (.int x1), .val (.int (5 : Int32)), .val (.ref rNOT_EQUAL), .val (.int (5 : Int32)), .val (.int (2 : Int32)), .val (.int (1 : Int32))] [(.int x1), (.ref rNOT_EQUAL)]))
     refine own_callV Y135 hx hZ (y := (⟨"com/example/poset/poset/core/Formula$Relation", "holds", "(I)Z"⟩ : MethodName)) (z := (⟨"com/example/poset/poset/core/Formula$Relation", "holds", "(I)Z"⟩ : MethodName)) hown (hw _ (List.mem_of_getElem? (i := 3) rfl)) (hw _ (List.mem_of_getElem? (i := 4) rfl)) (notFace_of_selects (args := #[]) (mvT hZ (hw _ (List.mem_of_getElem? (i := 6) rfl)))) (hw _ (List.mem_of_getElem? (i := 6) rfl)) (hw _ (List.mem_of_getElem? (i := 5) rfl)) (hw _ (List.mem_of_getElem? (i := 1) rfl)) (hw _ (List.mem_of_getElem? (i := 7) rfl)) (by decide) (a := rNOT_EQUAL) ENOT_EQUAL (argsL := [(.int x1)]) (rest := []) (own_rm1_5 l Z a0 hw [] rNOT_EQUAL x1  h0 n0  ENOT_EQUAL FNOT_EQUAL) (W := 0) (by decide) (by decide) (by decide) (by decide) rfl (by rw [hml]; rfl) (lenOf own_pd1 rfl) rfl (by show 2 * 0 + _ ≤ _; exact Nat.le_of_eq rfl) (hb hby at_132) (fun T148 h150 v151 Y149 q152 => ?_)
     obtain ⟨rfl, rfl⟩ := q152
     show own_Ends _ _ _ _ (T148.setTop (mkF m 135 #[.val (.int x0), .val (.int x1), .val (.int (5 : Int32)), .val (.ref rNOT_EQUAL), .val (.int (5 : Int32)), .val (.int (2 : Int32)), .val (.int (1 : Int32))] [(.int (own_b (!decide (x1 = 0))))]))
     refine own_st (fun t_ => XS.iload (own_here Y149) hx rfl (hb hby at_135) rfl) ?_
     show own_Ends _ _ _ _ (T148.setTop (mkF m 137 #[.val (.int x0), .val (.int x1), .val (.int (5 : Int32)), .val (.ref rNOT_EQUAL), .val (.int (5 : Int32)), .val (.int (2 : Int32)), .val (.int (1 : Int32))] [(.int (1 : Int32)), (.int (own_b (!decide (x1 = 0))))]))
     have s0 : (0 : Int32) < x1 := by have e0 : (0 : Int32).toInt = 0 := rfl; have := c91_136; have t := c101_142; simp only [own_lt, own_eq] at this t ⊢; omega
     refine own_st (fun t_ => XS.icmpNo (own_here Y149) hx rfl (hb hby at_137) rfl (XT.ii_ne_f (by simp [own_b, s0, c91_136, c101_142]))) ?_
     show own_Ends _ _ _ _ (T148.setTop (mkF m 140 #[.val (.int x0), .val (.int x1), .val (.int (5 : Int32)), .val (.ref rNOT_EQUAL), .val (.int (5 : Int32)), .val (.int (2 : Int32)), .val (.int (1 : Int32))] []))
     refine own_st (fun t_ => XS.iconst (own_here Y149) hx rfl (hb hby at_140) ) ?_
     show own_Ends _ _ _ _ (T148.setTop (mkF m 141 #[.val (.int x0), .val (.int x1), .val (.int (5 : Int32)), .val (.ref rNOT_EQUAL), .val (.int (5 : Int32)), .val (.int (2 : Int32)), .val (.int (1 : Int32))] [(.int (1 : Int32))]))
     refine own_st (fun t_ => XS.goto (own_here Y149) hx rfl (pc0 := 141) (pc' := 145) rfl (hb hby at_141) (by decide) (by decide)) ?_
     show own_Ends _ _ _ _ (T148.setTop (mkF m 145 #[.val (.int x0), .val (.int x1), .val (.int (5 : Int32)), .val (.ref rNOT_EQUAL), .val (.int (5 : Int32)), .val (.int (2 : Int32)), .val (.int (1 : Int32))] [(.int (1 : Int32))]))
     refine own_retN Y149 hx hlk (t := .boolean) hret (by simp) (hb hby at_145) (by decide) (by decide) ?_
     exact rfl
set_option maxRecDepth 65536 in
set_option maxHeartbeats 40000000 in
theorem own_comes_1 {Post : Tables → Env → Array Value → State → Outcome → State → Prop} (hpost : ∀ tb e args s v u, (limb_1_1.after args s (.returned v) u = true ∧ limb_1_2.after args s (.returned v) u = true ∧ True) → FrameEnd s (.returned v) u (Jvm.fieldLocs frame_1_writes args s ++ Jvm.arrayLocs frame_1_arrays args s ++ Jvm.staticLocs frame_1_statics s) 0 0 → Post tb e args s (.returned v) u) :
    ArmFor flags0 classFile x code maxLocals ret World_1 tables_1 room_1 Calls_1 rest_1 Pre_1 Post := by
  intro l hfl _ _ p e ha hc hk s m args below hf hA hF happ hP
  obtain ⟨hcalls, hrest, hpre⟩ := hP
  obtain ⟨-, -, -, hnamed, -, -, -, hat⟩ := (Spec.applies_iff hf).mp happ
  obtain ⟨hg, hn⟩ := and_e (Cond.before_iff.mp (show (Jvm.Cond.and given_1 narrow_1).before args s = true from hpre))
  obtain ⟨g1, g2⟩ := and_e hg
  obtain ⟨g3, g4⟩ := and_e g2
  obtain ⟨w0, w1, rfl⟩ : ∃ w0 w1 : Value, args = #[w0, w1] := by
    have hs : args.size = 2 := by simpa [Cond.value, given_1] using g1
    obtain ⟨L⟩ := args
    match L, hs with
    | [w0, w1], _ => exact ⟨w0, w1, rfl⟩
  have hw := fun d (hd : d ∈ tables_1) => atoms_spec (ws := Jvm.Cond.code x code maxLocals ret :: tables_1) hat d (List.mem_cons_of_mem _ hd)
  have hfit : Fit s := fun {y c} hc i hi => by
    obtain ⟨ha, rfl⟩ := Array.getElem?_eq_some_iff.mp hc
    have q := List.all_eq_true.mp ((Array.all_eq_true_iff_forall_mem.mp hF) _ (Array.getElem_mem ha)) i (List.mem_range.mpr hi)
    simpa [Array.getElem?_eq_getElem hi] using q
  obtain ⟨i0, ei0⟩ := is_v g3
  obtain rfl : w0 = (.int i0) := Option.some.inj ei0
  obtain ⟨i1, ei1⟩ := is_v g4
  obtain rfl : w1 = (.int i1) := Option.some.inj ei1
  obtain ⟨xLESS, hn0a⟩ := and_e hn
  obtain ⟨oLESS, hn0⟩ := and_e hn0a
  obtain ⟨rLESS, evLESS, SLESS, ELESS⟩ := own_static xLESS (hw _ (List.mem_of_getElem? (i := 1) rfl)) (hw _ (List.mem_of_getElem? (i := 2) rfl))
  have FLESS := own_fldI evLESS oLESS
  obtain ⟨xEQUAL, hn1a⟩ := and_e hn0
  obtain ⟨oEQUAL, hn1⟩ := and_e hn1a
  obtain ⟨rEQUAL, evEQUAL, SEQUAL, EEQUAL⟩ := own_static xEQUAL (hw _ (List.mem_of_getElem? (i := 1) rfl)) (hw _ (List.mem_of_getElem? (i := 18) rfl))
  have FEQUAL := own_fldI evEQUAL oEQUAL
  obtain ⟨xNOT_EQUAL, hn2a⟩ := and_e hn1
  obtain ⟨oNOT_EQUAL, hn2⟩ := and_e hn2a
  obtain ⟨rNOT_EQUAL, evNOT_EQUAL, SNOT_EQUAL, ENOT_EQUAL⟩ := own_static xNOT_EQUAL (hw _ (List.mem_of_getElem? (i := 1) rfl)) (hw _ (List.mem_of_getElem? (i := 20) rfl))
  have FNOT_EQUAL := own_fldI evNOT_EQUAL oNOT_EQUAL
  obtain ⟨xAT_MOST, hn3a⟩ := and_e hn2
  obtain ⟨oAT_MOST, hn3⟩ := and_e hn3a
  obtain ⟨rAT_MOST, evAT_MOST, SAT_MOST, EAT_MOST⟩ := own_static xAT_MOST (hw _ (List.mem_of_getElem? (i := 1) rfl)) (hw _ (List.mem_of_getElem? (i := 22) rfl))
  have FAT_MOST := own_fldI evAT_MOST oAT_MOST
  obtain ⟨xAT_LEAST, hn4a⟩ := and_e hn3
  obtain ⟨oAT_LEAST, hn4⟩ := and_e hn4a
  obtain ⟨rAT_LEAST, evAT_LEAST, SAT_LEAST, EAT_LEAST⟩ := own_static xAT_LEAST (hw _ (List.mem_of_getElem? (i := 1) rfl)) (hw _ (List.mem_of_getElem? (i := 24) rfl))
  have FAT_LEAST := own_fldI evAT_LEAST oAT_LEAST
  obtain ⟨xGREATER, hn5a⟩ := and_e hn4
  have oGREATER := hn5a
  obtain ⟨rGREATER, evGREATER, SGREATER, EGREATER⟩ := own_static xGREATER (hw _ (List.mem_of_getElem? (i := 1) rfl)) (hw _ (List.mem_of_getElem? (i := 26) rfl))
  have FGREATER := own_fldI evGREATER oGREATER
  obtain ⟨n, o, h1, h2, h3, _, L, rfl, ⟨N, rfl⟩, hq⟩ := own_rm0 l s _ hw tables_1 i0 i1 rLESS rAT_MOST rGREATER rAT_LEAST rEQUAL rNOT_EQUAL s.heap s.heap.size (Nat.le_refl _) SLESS ELESS FLESS SAT_MOST EAT_MOST FAT_MOST SGREATER EGREATER FGREATER SAT_LEAST EAT_LEAST FAT_LEAST SEQUAL EEQUAL FEQUAL SNOT_EQUAL ENOT_EQUAL FNOT_EQUAL p e ha hc hk s m _ below hf ((Spec.applies_iff_loose hf).mp happ).1 ⟨rfl, State.Warmed39.refl s, rfl⟩ trivial
  refine ⟨n, _, h1, h2, h3, hpost _ _ _ _ _ _ ⟨Cond.after_iff.mpr rfl, Cond.after_iff.mpr (eq_i res_at (Term.int_eval (1)) rfl), trivial⟩ ⟨hq.1, hq.2.1, (hq.2.2.sift fun y hy => Or.inr (N y hy)).mono (by decide) (by decide)⟩⟩
theorem main_1_1 : Claimed_1_1 := own_comes_1 fun _ _ _ _ _ _ h hF => ⟨h.1, hF⟩
theorem main_1_2 : Claimed_1_2 := own_comes_1 fun _ _ _ _ _ _ h hF => ⟨h.2.1, hF⟩
end Jvm.Pilot.@@N@@
namespace Jvm.Pilot.@@N@@
open Jvm Jvm.ClassFile Sem Op Lib Jvm.Free Jvm.Stand Jvm.Pilot.@@N@@.Jvm.D
/-! MADE BY PROGRAM (witnessworld.py) out of the Statement's table words and the real class files: 12 classes; the members and pool entries that the words name. The judged class is class 1, her method 1. -/
namespace start1
open Jvm.ClassFile
def u (s : String) : CpInfo := .utf8 (stringToUtf16 s)
/-- a pool by its gaps: so many unusable entries, then the entry; so many at the end -/
def gap : Nat → List CpInfo → List CpInfo
  | 0, r => r
  | n + 1, r => .unusable :: gap n r
def poolList (es : List (Nat × CpInfo)) (last : Nat) : List CpInfo := es.foldr (fun e r => gap e.1 (e.2 :: r)) (gap last [])
def pool (es : List (Nat × CpInfo)) (last : Nat) : Array CpInfo := ⟨poolList es last⟩
def fileOf (pool : Array CpInfo) (this : Nat) (attrs : Array Attribute := #[]) (ms : Array MethodInfo := #[]) (fl : Nat := 33) (sup : Nat := 0) (ifs : Array Nat := #[]) (fds : Array FieldInfo := #[]) : ClassFile where
  minorVersion := 0
  majorVersion := 65
  constantPool := pool
  accessFlags := fl
  thisClass := this
  superClass := sup
  interfaces := ifs
  fields := fds
  methods := ms
  attributes := attrs
def plain (name : String) (sup : Option ClassId) : Class where
  name := name
  kind := .ordinary
  loader := none
  accessFlags := 33
  super := sup
  interfaces := #[]
  cf := none
  fields := #[]
  methods := #[]
  instanceTypes := #[]
  staticTypes := #[]
  resolved := #[]
  callSites := []
  init := .initialized
  statics := none
  mirror := none

def pool0 : Array CpInfo := pool [(5, u "<init>"), (0, u "()V"), (1, .class_ 10), (1, u "java/lang/Object")] 113

def k0m0 : Method := { name := "<init>", desc := "()V", sig := { parameters := [], returnType := none }, accessFlags := 1, code := none }
/-- java/lang/Object -/
def k0 : Class := { plain "java/lang/Object" none with
  accessFlags := 33
  interfaces := #[]
  cf := some (fileOf pool0 8 #[] #[{ accessFlags := 1, nameIndex := 5, descriptorIndex := 6, attributes := #[] }] 33 0 #[] #[])
  fields := #[]
  methods := #[k0m0]
  instanceTypes := #[]
  staticTypes := #[]
  resolved := Array.replicate 124 none
  statics := none }

def pool1 : Array CpInfo := pool [(2, .class_ 4), (1, u "java/lang/Object"), (0, u "<init>"), (0, u "()V"), (0, .fieldref 8 9), (0, .class_ 10), (0, .nameAndType 11 12), (0, u "com/example/poset/poset/core/Formula$Relation"), (0, u "LESS"), (0, u "Lcom/example/poset/poset/core/Formula$Relation;"), (0, .fieldref 8 14), (0, .nameAndType 15 12), (0, u "AT_MOST"), (0, .fieldref 8 17), (0, .nameAndType 18 12), (0, u "GREATER"), (0, .fieldref 8 20), (0, .nameAndType 21 12), (0, u "AT_LEAST"), (0, .fieldref 8 23), (0, .nameAndType 24 12), (0, u "EQUAL"), (0, .fieldref 8 26), (0, .nameAndType 27 12), (0, u "NOT_EQUAL"), (0, .methodref 8 29), (0, .nameAndType 30 31), (0, u "holds"), (0, u "(I)Z"), (0, .class_ 33), (0, u "com/example/poset/poset/core/RelationHoldsPinLaw"), (2, u "law"), (0, u "(II)Z")] 7

def k1m0 : Method := { name := "<init>", desc := "()V", sig := { parameters := [], returnType := none }, accessFlags := 1, code := none }
def k1c1 : Code := { maxStack := 2, maxLocals := 7, code := code, exceptionTable := #[], attributes := #[] }
def k1m1 : Method := { name := "law", desc := "(II)Z", sig := { parameters := [.int, .int], returnType := some .boolean }, accessFlags := 9, code := some k1c1 }
/-- com/example/poset/poset/core/RelationHoldsPinLaw -/
def k1 : Class := { plain "com/example/poset/poset/core/RelationHoldsPinLaw" (some 0) with
  accessFlags := 49
  interfaces := #[]
  cf := some (fileOf pool1 32 #[] #[{ accessFlags := 1, nameIndex := 5, descriptorIndex := 6, attributes := #[] }, { accessFlags := 9, nameIndex := 36, descriptorIndex := 37, attributes := #[] }] 49 2 #[] #[])
  fields := #[]
  methods := #[k1m0, k1m1]
  instanceTypes := #[]
  staticTypes := #[]
  resolved := Array.replicate 45 none
  statics := none }

def pool2 : Array CpInfo := pool [(1, .class_ 2), (0, u "java/lang/constant/Constable"), (0, .class_ 4), (0, u "java/lang/Object")] 6

/-- java/lang/constant/Constable -/
def k2 : Class := { plain "java/lang/constant/Constable" (some 0) with
  accessFlags := 1537
  interfaces := #[]
  cf := some (fileOf pool2 1 #[] #[] 1537 3 #[] #[])
  fields := #[]
  methods := #[]
  instanceTypes := #[]
  staticTypes := #[]
  resolved := Array.replicate 11 none
  statics := none }

def pool3 : Array CpInfo := pool [(1, .class_ 2), (0, u "java/lang/Comparable"), (0, .class_ 4), (0, u "java/lang/Object")] 7

/-- java/lang/Comparable -/
def k3 : Class := { plain "java/lang/Comparable" (some 0) with
  accessFlags := 1537
  interfaces := #[]
  cf := some (fileOf pool3 1 #[] #[] 1537 3 #[] #[])
  fields := #[]
  methods := #[]
  instanceTypes := #[]
  staticTypes := #[]
  resolved := Array.replicate 12 none
  statics := none }

def pool4 : Array CpInfo := pool [(1, .class_ 2), (0, u "java/io/Serializable"), (0, .class_ 4), (0, u "java/lang/Object")] 2

/-- java/io/Serializable -/
def k4 : Class := { plain "java/io/Serializable" (some 0) with
  accessFlags := 1537
  interfaces := #[]
  cf := some (fileOf pool4 1 #[] #[] 1537 3 #[] #[])
  fields := #[]
  methods := #[]
  instanceTypes := #[]
  staticTypes := #[]
  resolved := Array.replicate 7 none
  statics := none }

def pool5 : Array CpInfo := pool [(2, .class_ 4), (1, u "java/lang/Enum"), (0, u "name"), (0, u "Ljava/lang/String;"), (0, .fieldref 2 8), (0, .nameAndType 9 10), (0, u "ordinal"), (0, u "I"), (1, .class_ 14), (1, u "java/lang/Object"), (4, u "hash"), (86, .class_ 108), (1, u "java/lang/Enum$EnumDesc"), (2, .class_ 112), (0, u "java/lang/constant/Constable"), (0, .class_ 114), (0, u "java/lang/Comparable"), (0, .class_ 116), (0, u "java/io/Serializable"), (9, u "()I")] 77

def k5c0 : Code := { maxStack := 1, maxLocals := 1, code := jdk_37_method_2_code, exceptionTable := #[], attributes := #[] }
def k5m0 : Method := { name := "ordinal", desc := "()I", sig := { parameters := [], returnType := some .int }, accessFlags := 17, code := some k5c0 }
/-- java/lang/Enum -/
def k5 : Class := { plain "java/lang/Enum" (some 0) with
  accessFlags := 1057
  interfaces := #[2, 3, 4]
  cf := some (fileOf pool5 2 #[.nestMembers #[106]] #[{ accessFlags := 17, nameIndex := 9, descriptorIndex := 126, attributes := #[] }] 1057 12 #[111, 113, 115] #[{ accessFlags := 18, nameIndex := 5, descriptorIndex := 6, attributes := #[] }, { accessFlags := 18, nameIndex := 9, descriptorIndex := 10, attributes := #[] }, { accessFlags := 2, nameIndex := 19, descriptorIndex := 10, attributes := #[] }])
  fields := #[{ name := "name", type := (.object "java/lang/String"), accessFlags := 18, slot := 0, constantValue := 0 }, { name := "ordinal", type := .int, accessFlags := 18, slot := 1, constantValue := 0 }, { name := "hash", type := .int, accessFlags := 2, slot := 2, constantValue := 0 }]
  methods := #[k5m0]
  instanceTypes := #[(.object "java/lang/String"), .int, .int]
  staticTypes := #[]
  resolved := Array.replicate 204 none
  statics := none }

def pool6 : Array CpInfo := pool [(1, .class_ 2), (0, u "com/example/poset/poset/core/Formula$Relation"), (2, u "LESS"), (0, u "Lcom/example/poset/poset/core/Formula$Relation;"), (2, u "AT_MOST"), (2, u "GREATER"), (2, u "AT_LEAST"), (2, u "EQUAL"), (2, u "NOT_EQUAL"), (2, u "$VALUES"), (0, u "[Lcom/example/poset/poset/core/Formula$Relation;"), (6, .class_ 34), (1, u "java/lang/Enum"), (8, u "symbol"), (0, u "Ljava/lang/String;"), (0, .methodref 1 46), (0, .nameAndType 47 48), (0, u "ordinal"), (0, u "()I"), (38, u "holds"), (0, u "(I)Z"), (7, .class_ 97), (0, u "com/example/poset/poset/core/Formula")] 2

def k6c0 : Code := { maxStack := 4, maxLocals := 2, code := prog_38_method_5_code, exceptionTable := #[], attributes := #[] }
def k6m0 : Method := { name := "holds", desc := "(I)Z", sig := { parameters := [.int], returnType := some .boolean }, accessFlags := 1, code := some k6c0 }
/-- com/example/poset/poset/core/Formula$Relation -/
def k6 : Class := { plain "com/example/poset/poset/core/Formula$Relation" (some 5) with
  accessFlags := 16433
  interfaces := #[]
  cf := some (fileOf pool6 1 #[.nestHost 96] #[{ accessFlags := 1, nameIndex := 87, descriptorIndex := 88, attributes := #[] }] 16433 32 #[] #[{ accessFlags := 16409, nameIndex := 5, descriptorIndex := 6, attributes := #[] }, { accessFlags := 16409, nameIndex := 9, descriptorIndex := 6, attributes := #[] }, { accessFlags := 16409, nameIndex := 12, descriptorIndex := 6, attributes := #[] }, { accessFlags := 16409, nameIndex := 15, descriptorIndex := 6, attributes := #[] }, { accessFlags := 16409, nameIndex := 18, descriptorIndex := 6, attributes := #[] }, { accessFlags := 16409, nameIndex := 21, descriptorIndex := 6, attributes := #[] }, { accessFlags := 18, nameIndex := 43, descriptorIndex := 44, attributes := #[] }, { accessFlags := 4122, nameIndex := 24, descriptorIndex := 25, attributes := #[] }])
  fields := #[{ name := "LESS", type := (.object "com/example/poset/poset/core/Formula$Relation"), accessFlags := 16409, slot := 0, constantValue := 0 }, { name := "AT_MOST", type := (.object "com/example/poset/poset/core/Formula$Relation"), accessFlags := 16409, slot := 1, constantValue := 0 }, { name := "GREATER", type := (.object "com/example/poset/poset/core/Formula$Relation"), accessFlags := 16409, slot := 2, constantValue := 0 }, { name := "AT_LEAST", type := (.object "com/example/poset/poset/core/Formula$Relation"), accessFlags := 16409, slot := 3, constantValue := 0 }, { name := "EQUAL", type := (.object "com/example/poset/poset/core/Formula$Relation"), accessFlags := 16409, slot := 4, constantValue := 0 }, { name := "NOT_EQUAL", type := (.object "com/example/poset/poset/core/Formula$Relation"), accessFlags := 16409, slot := 5, constantValue := 0 }, { name := "symbol", type := (.object "java/lang/String"), accessFlags := 18, slot := 3, constantValue := 0 }, { name := "$VALUES", type := (.array (.object "com/example/poset/poset/core/Formula$Relation")), accessFlags := 4122, slot := 6, constantValue := 0 }]
  methods := #[k6m0]
  instanceTypes := #[(.object "java/lang/String"), .int, .int, (.object "java/lang/String")]
  staticTypes := #[(.object "com/example/poset/poset/core/Formula$Relation"), (.object "com/example/poset/poset/core/Formula$Relation"), (.object "com/example/poset/poset/core/Formula$Relation"), (.object "com/example/poset/poset/core/Formula$Relation"), (.object "com/example/poset/poset/core/Formula$Relation"), (.object "com/example/poset/poset/core/Formula$Relation"), (.array (.object "com/example/poset/poset/core/Formula$Relation"))]
  resolved := Array.replicate 100 none
  statics := some 0 }

def pool7 : Array CpInfo := pool [(1, u "java/lang/Cloneable"), (0, .class_ 1), (0, u "java/lang/Object"), (0, .class_ 3)] 3

/-- java/lang/Cloneable -/
def k7 : Class := { plain "java/lang/Cloneable" (some 0) with
  accessFlags := 1537
  interfaces := #[]
  cf := some (fileOf pool7 2 #[] #[] 1537 4 #[] #[])
  fields := #[]
  methods := #[]
  instanceTypes := #[]
  staticTypes := #[]
  resolved := Array.replicate 8 none
  statics := none }

/-- the primitive byte -/
def k8 : Class := { plain "byte" none with kind := .primitive 'B', accessFlags := 0x411 }
/-- [B -/
def k9 : Class := { plain "[B" (some 0) with kind := .array 8 .byte, interfaces := #[7, 4], accessFlags := 1041 }

/-- the primitive int -/
def k10 : Class := { plain "int" none with kind := .primitive 'I', accessFlags := 0x411 }
/-- [I -/
def k11 : Class := { plain "[I" (some 0) with kind := .array 10 .int, interfaces := #[7, 4], accessFlags := 1041 }

def heap : Heap := #[{ cls := 6, slots := #[.ref 1, .ref 2, .ref 3, .ref 4, .ref 5, .ref 6, .null], vm := .statics 6 },
  { cls := 6, slots := #[.null, .int 0, .int 0, .null], vm := .none },
  { cls := 6, slots := #[.null, .int 1, .int 0, .null], vm := .none },
  { cls := 6, slots := #[.null, .int 2, .int 0, .null], vm := .none },
  { cls := 6, slots := #[.null, .int 3, .int 0, .null], vm := .none },
  { cls := 6, slots := #[.null, .int 4, .int 0, .null], vm := .none },
  { cls := 6, slots := #[.null, .int 5, .int 0, .null], vm := .none }]
def classes : Array Class := #[k0, k1, k2, k3, k4, k5, k6, k7, k8, k9, k10, k11]
def interned : List (Array UInt16 × Addr) := []
def slotsUsed : Nat := 31
def theMethod : MethodId := ⟨1, 1⟩
def args0 : Array Value := #[.int 5, .int 3]
def aboutOver (below : List Frame) : State where
  vm := { classes := classes, interned := interned.toArray }
  heap := heap
  slotsUsed := slotsUsed
  threads := #[{ frames := .invoking theMethod args0 :: below }]
def below0 : List Frame := [.native { method := ⟨0, 0⟩, args := #[] }]
def about1 : State := aboutOver below0
def p0 : Program := .bare "" "" ""
def e0 : Env := launch0.env 0 0 0
theorem w_frames : about1.frames = Frame.invoking theMethod args0 :: below0 := rfl
set_option maxRecDepth 65536 in
theorem w_args : argsFit about1.vm theMethod args0 = true := by decide +kernel
set_option maxRecDepth 65536 in
theorem w_heap : heapFits about1 = true := by decide +kernel
set_option maxRecDepth 65536 in
theorem w_runnable : about1.curStatus? = some .runnable := by decide +kernel
set_option maxRecDepth 65536 in
theorem w_alone : about1.alone = true := by decide +kernel
set_option maxRecDepth 65536 in
theorem w_named : about1.methodNamed? x = some theMethod := by decide +kernel
set_option maxRecDepth 65536 in
theorem w_hears : about1.hears theMethod below0 = true := by decide +kernel
set_option maxRecDepth 65536 in
theorem w_ripe : about1.ripe theMethod args0 below0 = true := by decide +kernel
theorem w_running : about1.status = .running := rfl
set_option maxRecDepth 65536 in
theorem w_room : about1.hasRoom e0.platform room_1 = true :=
  launch0.hasRoom_least _ room_1 (by decide +kernel) (by decide +kernel) (by decide +kernel) (by decide +kernel) (by decide +kernel) (by decide +kernel)
theorem allAtoms_all (ts : List Jvm.Cond) (a : Array Jvm.Value) (st : Jvm.State) : (allAtoms ts).before a st = ts.all (fun c => c.before a st) := by
  induction ts with
  | nil => rfl
  | cons c t ih =>
    show (Jvm.Cond.and c (allAtoms t)).before a st = _
    rw [Jvm.Cond.before_and, ih, List.all_cons]
def words1 : List Jvm.Cond := Jvm.Cond.code x code maxLocals ret :: tables_1
/-- a 'code' word, met by the world's own term for the bytes: nothing is compared byte by byte -/
theorem code_word {y : MethodName} {bytes : ByteArray} {mx : Nat} {rt : Option FieldType} {a : Array Value} {s : State} {m : MethodId} {meth : Method} {c : Code} (h1 : s.methodNamed? y = some m) (h2 : s.vm.method? m = some meth) (h3 : meth.code = some c) (h4 : c.code = bytes)
    (h5 : (c.maxLocals == mx && c.exceptionTable.isEmpty && decide (c.maxStack ≤ mostOperands) && decide (meth.sig.returnType = rt) && !meth.locks && decide (parseMethodDescriptor y.desc = some meth.sig)) = true) : (Jvm.Cond.code y bytes mx rt).before a s = true := by
  simp only [Bool.and_eq_true, beq_iff_eq, Bool.not_eq_true', decide_eq_true_eq] at h5
  obtain ⟨⟨⟨⟨⟨g1, g2⟩, g3⟩, g4⟩, g5⟩, g6⟩ := h5
  simp [Cond.before, Cond.holds, Cond.value, h1, h2, h3, h4, g1, g2, g3, g4, g5, g6]
def isCode : Jvm.Cond → Bool
  | .code _ _ _ _ => true
  | _ => false
theorem all_split {L : List Jvm.Cond} {P : Jvm.Cond → Bool} (h1 : L.all (fun c => isCode c || P c) = true) (h2 : ∀ c ∈ L.filter isCode, P c = true) : L.all P = true := by
  refine List.all_eq_true.mpr fun c hc => ?_
  have h := List.all_eq_true.mp h1 c hc
  rcases Bool.eq_false_or_eq_true (isCode c) with hi | hi
  · exact h2 c (List.mem_filter.mpr ⟨hc, hi⟩)
  · simpa [hi] using h
set_option maxRecDepth 65536 in
theorem w_c0 : (Jvm.Cond.code x code maxLocals ret).before args0 about1 = true := code_word (m := ⟨1, 1⟩) (meth := k1m1) (c := k1c1) (by decide +kernel) rfl rfl rfl (by decide +kernel)
set_option maxRecDepth 65536 in
theorem w_c1 : (Jvm.Cond.code ({ cls := "com/example/poset/poset/core/Formula$Relation", name := "holds", desc := "(I)Z" } : Jvm.MethodName) prog_38_method_5_code (2 : Nat) (Option.some Jvm.ClassFile.FieldType.boolean)).before args0 about1 = true := code_word (m := ⟨6, 0⟩) (meth := k6m0) (c := k6c0) (by decide +kernel) rfl rfl rfl (by decide +kernel)
set_option maxRecDepth 65536 in
theorem w_c2 : (Jvm.Cond.code ({ cls := "java/lang/Enum", name := "ordinal", desc := "()I" } : Jvm.MethodName) jdk_37_method_2_code (1 : Nat) (Option.some Jvm.ClassFile.FieldType.int)).before args0 about1 = true := code_word (m := ⟨5, 0⟩) (meth := k5m0) (c := k5c0) (by decide +kernel) rfl rfl rfl (by decide +kernel)
def codes1 : List Jvm.Cond := [Jvm.Cond.code x code maxLocals ret, Jvm.Cond.code ({ cls := "com/example/poset/poset/core/Formula$Relation", name := "holds", desc := "(I)Z" } : Jvm.MethodName) prog_38_method_5_code (2 : Nat) (Option.some Jvm.ClassFile.FieldType.boolean), Jvm.Cond.code ({ cls := "java/lang/Enum", name := "ordinal", desc := "()I" } : Jvm.MethodName) jdk_37_method_2_code (1 : Nat) (Option.some Jvm.ClassFile.FieldType.int)]
set_option maxRecDepth 65536 in
theorem codes_eq : words1.filter isCode = codes1 := rfl
theorem w_codes : ∀ c ∈ words1.filter isCode, c.before args0 about1 = true := by
  rw [codes_eq]
  intro c hc
  simp only [codes1, List.mem_cons, List.not_mem_nil, or_false] at hc
  rcases hc with rfl | rfl | rfl
  · exact w_c0
  · exact w_c1
  · exact w_c2
set_option maxRecDepth 65536 in
theorem w_t1 : (words1.take 24).all (fun c => isCode c || c.before args0 about1) = true := by decide +kernel
set_option maxRecDepth 65536 in
theorem w_t2 : (words1.drop 24).all (fun c => isCode c || c.before args0 about1) = true := by decide +kernel
theorem w_tables : (allAtoms (Jvm.Cond.code x code maxLocals ret :: tables_1)).before args0 about1 = true := by
  rw [allAtoms_all]
  show words1.all (fun c => c.before args0 about1) = true
  refine all_split ?_ w_codes
  rw [← List.take_append_drop 24 words1, List.all_append, w_t1, w_t2]
  rfl
set_option maxRecDepth 65536 in
theorem w_case : (Jvm.Cond.and given_1 narrow_1).before args0 about1 = true := by decide +kernel
theorem w_applies : (headSpec (Jvm.Cond.code x code maxLocals ret :: tables_1) room_1).applies x e0.platform about1 = true :=
  (Spec.applies_iff w_frames).mpr ⟨w_running, w_runnable, w_alone, w_named, w_hears, w_ripe, w_room, w_tables⟩
theorem atStart : AtStart classFile x code maxLocals ret World_1 tables_1 room_1 Calls_1 rest_1 Pre_1 launch0 p0 e0 about1 theMethod args0 below0 :=
  ⟨lists_1, trivial, launch0.admits_env _ _ _, launch0.least_env, fairChoices_fair.cas, fairChoices_fair.clock, w_frames, w_args, w_heap, w_applies, trivial, trivial, w_case⟩
end start1
theorem witness_1 : WitnessClaimed_1 := ⟨start1.p0, start1.e0, start1.about1, start1.theMethod, start1.args0, start1.below0, start1.atStart⟩
end Jvm.Pilot.@@N@@
