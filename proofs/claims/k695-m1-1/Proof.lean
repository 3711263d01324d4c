import JvmDerived
import JvmDerived.Pilot.@@N@@Statement
import JvmDerived.Pilot.@@N@@Code
set_option linter.unusedVariables false
set_option linter.unusedSimpArgs false
namespace Jvm.Pilot.@@N@@
open Jvm Jvm.ClassFile Sem Op Lib Jvm.Free Jvm.Stand Jvm.LawKit Jvm.RoadKit Bundle Jvm.Pilot.@@N@@.Jvm.D
section OwnLayer
/-- the run from A ends, and P holds of how it ends -/
def own_Ends (tb : Tables) (e : Env) (below : List Frame) (P : Outcome → State → Prop) (A : State) : Prop :=
  ∃ s₂ o, Steps tb e below A s₂ ∧ s₂.status = .running ∧ Ended s₂ below o ∧ P o s₂
theorem own_st {tb : Tables} {e : Env} {below : List Frame} {P : Outcome → State → Prop} {A B : State} (h : ∀ t, Steps tb e below B t → Steps tb e below A t) (k : own_Ends tb e below P B) : own_Ends tb e below P A := by
  obtain ⟨s2, o, h1, h2⟩ := k
  exact ⟨s2, o, h _ h1, h2⟩
/-- where the walk stands: the state T, its heap h, k cells and n slots made, nothing below n0 written -/
def own_S (p : Program) (l : Launch) (e : Env) (R : Room) (s : State) (m : MethodId) (args : Array Value) (below : List Frame) (meth : Method) (c : Code) (n0 : Nat) (T : State) (h : Heap) (k n : Nat) : Prop :=
  ∃ locs, Stand p l e R s m args below meth c T locs k n ∧ T.heap = h ∧ Fr n0 locs
def own_P (s : State) (n0 : Nat) (Qf : Option Value → Heap → Prop) (C S : Nat) (o : Outcome) (U' : State) : Prop := ∃ v L, o = .returned v ∧ (Fr n0 L ∧ Qf v U'.heap) ∧ FrameEnd s o U' L C S
/-- a body's contract: called with 'as' at the heap h0 it returns, and Qf holds of what it returns and of the heap -/
def own_Con (l : Launch) (Z : State) (y : MethodName) (bytes : ByteArray) (maxL : Nat) (ret : Option FieldType) (ws : List Jvm.Cond) (rm : Room) (as' : Array Value) (h0 : Heap) (n0 : Nat) (Qf : Option Value → Heap → Prop) : Prop :=
  MetFree l y (head1 (Jvm.Cond.code y bytes maxL ret :: ws) rm) (fun a U => a = as' ∧ Z.Warmed39 U.vm ∧ U.heap = h0) (fun _ _ _ _ _ => True) (fun _ U o U' => ∃ v L, o = .returned v ∧ (Fr n0 L ∧ Qf v U'.heap) ∧ FrameEnd U o U' L rm.cells rm.slots)
variable {p : Program} {l : Launch} {e : Env} {R : Room} {s : State} {m : MethodId} {args : Array Value} {below : List Frame} {meth : Method} {c : Code} {n0 : Nat} {T : State} {h : Heap} {k n : Nat} {Z : State} {a0 : Array Value} {P : Outcome → State → Prop}
theorem own_here (Y : own_S p l e R s m args below meth c n0 T h k n) : At T m c below := by
  obtain ⟨_, X, -⟩ := Y
  exact X.here
theorem own_body {y : MethodName} {bytes : ByteArray} {maxL : Nat} {ret : Option FieldType} {ws : List Jvm.Cond} {rm : Room} {as' : Array Value} {h0 : Heap} {Qf : Option Value → Heap → Prop} (hpn : plainFor y = true)
    (hbody : ∀ (p : Program) (e : Env) (s : State) (m : MethodId) (below : List Frame) (meth : Method) (c : Code) (T : State), p.tables.exec = Jvm.exec → Z.Warmed39 s.vm → c.code = bytes → c.maxLocals = maxL → s.vm.findClass y.cls = some m.cls → meth.name = y.name → meth.sig.returnType = ret → meth.locks = false →
      own_S p l e rm s m as' below meth c n0 T h0 0 0 → own_Ends p.tables e below (own_P s n0 Qf rm.cells rm.slots) (T.setTop (entryFrame m as' maxL))) : own_Con l Z y bytes maxL ret ws rm as' h0 n0 Qf := by
  refine MetFree.of_bodySF hpn hisR ?_
  intro p e s m args below meth c s₁ Bd hml0 hP hK
  obtain ⟨rfl, hZ, hh⟩ := hP
  have hown : s.vm.findClass y.cls = some m.cls := findClass_of_methodNamed Bd.named
  have hnm := (name_of_methodNamed Bd.named Bd.method).1
  exact hbody p e s m below meth c s₁ Bd.exec hZ Bd.bytes hml0 hown hnm Bd.returns Bd.notSynchronized ⟨[], Stand.of_body Bd, by rw [← hh, Bd.state]; rfl, Fr.nil n0⟩
theorem own_leave (Y : own_S p l e R s m args below meth c n0 T h k n) (hlk : meth.locks = false) {v : Option Value} (hv : meth.sig.returnType = none → v = none) {Qf : Option Value → Heap → Prop} {C S : Nat} (hk : k ≤ C) (hn : n ≤ S) (hQ : Qf v h) {A : State}
    (st : ∀ (locs : List Loc) (fs : List Frame), Stand p l e R s m args below meth c T locs k n → (∀ (f : JFrame) (acts : List Action), f.method = m → f.locked = none → f.entered = [] → (doReturn e (T.setTop f) acts v).1 = T.setFrames fs) → Steps p.tables e below A (T.setFrames fs)) : own_Ends p.tables e below (own_P s n0 Qf C S) A := by
  obtain ⟨locs, X, e1, N⟩ := Y
  obtain ⟨fs, hr, hrun, hended, hW, hsame⟩ := X.leave hv hlk
  refine ⟨_, _, st locs fs X hr, hrun, hended, v, locs, rfl, ⟨N, ?_⟩, ⟨_, rfl⟩, hW, hsame.mono hk hn⟩
  show Qf v T.heap
  rw [e1]; exact hQ
theorem own_ret (Y : own_S p l e R s m args below meth c n0 T h k n) (hx : p.tables.exec = Jvm.exec) (hlk : meth.locks = false) {pc : Nat} {Ls : Array Slot} {w : Value} {t : FieldType} {i : Instr} {rest : List Value} (hret : meth.sig.returnType = some t) (hd : decode c.code pc = .ok (i, 1)) (hn : narrow t w = w)
    (hi : (i = .ireturn ∧ (t = .int ∨ t = .boolean ∨ t = .byte ∨ t = .char ∨ t = .short) ∧ ∃ z, w = .int z) ∨ (i = .lreturn ∧ t = .long ∧ ∃ z, w = .long z) ∨ (i = .dreturn ∧ t = .double ∧ ∃ z, w = .double z) ∨ (i = .freturn ∧ t = .float ∧ ∃ z, w = .float z) ∨ (i = .areturn ∧ t.isReference = true ∧ w.isRef = true))
    {Qf : Option Value → Heap → Prop} {C S : Nat} (hk : k ≤ C) (hs : n ≤ S) (hQ : Qf (some w) h) : own_Ends p.tables e below (own_P s n0 Qf C S) (T.setTop (mkF m pc Ls (w :: rest))) :=
  own_leave Y hlk (fun q => by rw [hret] at q; cases q) hk hs hQ fun _ _ X hr => retOut X hx hret hn hi hd hr
theorem own_retI (Y : own_S p l e R s m args below meth c n0 T h k n) (hx : p.tables.exec = Jvm.exec) (hlk : meth.locks = false) {pc : Nat} {Ls : Array Slot} {z : Int32} {rest : List Value} (hret : meth.sig.returnType = some .int) (hd : decode c.code pc = .ok (.ireturn, 1))
    {Qf : Option Value → Heap → Prop} {C S : Nat} (hk : k ≤ C) (hs : n ≤ S) (hQ : Qf (some (.int z)) h) : own_Ends p.tables e below (own_P s n0 Qf C S) (T.setTop (mkF m pc Ls (.int z :: rest))) :=
  own_ret Y hx hlk hret hd rfl (Or.inl ⟨rfl, Or.inl rfl, _, rfl⟩) hk hs hQ
theorem own_retN (Y : own_S p l e R s m args below meth c n0 T h k n) (hx : p.tables.exec = Jvm.exec) (hlk : meth.locks = false) {pc : Nat} {Ls : Array Slot} {z : Int32} {t : FieldType} {rest : List Value} (hret : meth.sig.returnType = some t) (ht : t = .boolean ∨ t = .byte ∨ t = .char ∨ t = .short) (hd : decode c.code pc = .ok (.ireturn, 1))
    {Qf : Option Value → Heap → Prop} {C S : Nat} (hk : k ≤ C) (hs : n ≤ S) (hQ : Qf (some (.int (nar t z))) h) : own_Ends p.tables e below (own_P s n0 Qf C S) (T.setTop (mkF m pc Ls (.int z :: rest))) :=
  own_leave Y hlk (fun q => by rw [hret] at q; cases q) hk hs hQ fun _ _ X hr => retN X hx hret ht hd hr
theorem own_retJ (Y : own_S p l e R s m args below meth c n0 T h k n) (hx : p.tables.exec = Jvm.exec) (hlk : meth.locks = false) {pc : Nat} {Ls : Array Slot} {z : Int64} {rest : List Value} (hret : meth.sig.returnType = some .long) (hd : decode c.code pc = .ok (.lreturn, 1))
    {Qf : Option Value → Heap → Prop} {C S : Nat} (hk : k ≤ C) (hs : n ≤ S) (hQ : Qf (some (.long z)) h) : own_Ends p.tables e below (own_P s n0 Qf C S) (T.setTop (mkF m pc Ls (.long z :: rest))) :=
  own_ret Y hx hlk hret hd rfl (Or.inr (Or.inl ⟨rfl, rfl, _, rfl⟩)) hk hs hQ
theorem own_retA (Y : own_S p l e R s m args below meth c n0 T h k n) (hx : p.tables.exec = Jvm.exec) (hlk : meth.locks = false) {pc : Nat} {Ls : Array Slot} {w : Value} {t : FieldType} {rest : List Value} (hret : meth.sig.returnType = some t) (ht : t.isReference = true) (hw : w.isRef = true) (hn : narrow t w = w) (hd : decode c.code pc = .ok (.areturn, 1))
    {Qf : Option Value → Heap → Prop} {C S : Nat} (hk : k ≤ C) (hs : n ≤ S) (hQ : Qf (some w) h) : own_Ends p.tables e below (own_P s n0 Qf C S) (T.setTop (mkF m pc Ls (w :: rest))) :=
  own_ret Y hx hlk hret hd hn (Or.inr (Or.inr (Or.inr (Or.inr ⟨rfl, ht, hw⟩)))) hk hs hQ
theorem own_retV (Y : own_S p l e R s m args below meth c n0 T h k n) (hx : p.tables.exec = Jvm.exec) (hlk : meth.locks = false) {pc : Nat} {Ls : Array Slot} (hret : meth.sig.returnType = none) (hd : decode c.code pc = .ok (.return_, 1))
    {Qf : Option Value → Heap → Prop} {C S : Nat} (hk : k ≤ C) (hs : n ≤ S) (hQ : Qf none h) : own_Ends p.tables e below (own_P s n0 Qf C S) (T.setTop (mkF m pc Ls [])) :=
  own_leave Y hlk (fun _ => rfl) hk hs hQ fun _ _ X hr => X.returnOut hx hret hd hr
/-! fields -/
theorem own_getF (Y : own_S p l e R s m args below meth c n0 T h k n) (hx : p.tables.exec = Jvm.exec) (hZ : Z.Warmed39 s.vm) {own R0 O f d host : String} {index : Nat} (hown : s.vm.findClass own = some m.cls) (w : (Jvm.Cond.fieldLink own index R0 f d).before a0 Z = true ∨ (Jvm.Cond.fieldLinkNest own index R0 f d host).before a0 Z = true) (via : Via Z R0 O f d) {a : Addr} {v : Value} (F : Fld Z h a O f d v)
    {g : JFrame} (hg : g.method = m) {rest : List Value} (hs : g.stack = .ref a :: rest) (hd : decode c.code g.pc = .ok (.getfield index, 3)) (K : ∀ T', own_S p l e R s m args below meth c n0 T' h k n → own_Ends p.tables e below P (T'.setTop { g with pc := g.pc + 3, stack := v :: rest })) : own_Ends p.tables e below P (T.setTop g) := by
  obtain ⟨locs, X, e1, N⟩ := Y
  obtain ⟨T', X', e', st⟩ := getF X hx hZ hown w via e1 F hg hs hd
  exact own_st st (K T' ⟨locs, X', e', N⟩)
theorem own_putF (Y : own_S p l e R s m args below meth c n0 T h k n) (hx : p.tables.exec = Jvm.exec) (hZ : Z.Warmed39 s.vm) {own R0 O f d host C : String} {index kk : Nat} {ty : FieldType} (hown : s.vm.findClass own = some m.cls) (w : (Jvm.Cond.fieldLink own index R0 f d).before a0 Z = true ∨ (Jvm.Cond.fieldLinkNest own index R0 f d host).before a0 Z = true) (via : Via Z R0 O f d) {a : Addr} {v old : Value} (F : Fld Z h a O f d old) (E : Exa Z h a C)
    (L : (Jvm.Cond.lays C O f d).before a0 Z = true ∨ ((Jvm.Cond.laysFinal C O f d).before a0 Z = true ∧ own = O ∧ meth.name = "<init>")) (wi : (Jvm.Cond.instantiable C kk).before a0 Z = true) (ha : n0 ≤ a) (hty : parseFieldDescriptor d = some ty) (hn : narrow ty v = v) (hf : fits ty v = true) {g : JFrame} (hg : g.method = m) {rest : List Value} (hs : g.stack = v :: .ref a :: rest) (hd : decode c.code g.pc = .ok (.putfield index, 3))
    (K : ∀ T' h', own_S p l e R s m args below meth c n0 T' h' k n → Wr h h' a (Jvm.RoadKit.slotOf Z O f d) v → Fld Z h' a O f d v → own_Ends p.tables e below P (T'.setTop { g with pc := g.pc + 3, stack := rest })) : own_Ends p.tables e below P (T.setTop g) := by
  obtain ⟨locs, X, e1, N⟩ := Y
  obtain ⟨T', h', X', e', W, st⟩ := putF X hx hZ hown w via e1 F E L wi hty hn hf hg hs hd
  exact own_st st (K T' h' ⟨_, X', e', Fr.snoc X' N ha⟩ W (F.same W))
theorem own_putFN (Y : own_S p l e R s m args below meth c n0 T h k n) (hx : p.tables.exec = Jvm.exec) (hZ : Z.Warmed39 s.vm) {own R0 O f d C : String} {index kk : Nat} {ty : FieldType} (hown : s.vm.findClass own = some m.cls) (w : (Jvm.Cond.fieldLink own index R0 f d).before a0 Z = true) (via : Via Z R0 O f d) {a : Addr} {v v' old : Value} (F : Fld Z h a O f d old) (E : Exa Z h a C)
    (L : (Jvm.Cond.lays C O f d).before a0 Z = true ∨ ((Jvm.Cond.laysFinal C O f d).before a0 Z = true ∧ own = O ∧ meth.name = "<init>")) (wi : (Jvm.Cond.instantiable C kk).before a0 Z = true) (ha : n0 ≤ a) (hty : parseFieldDescriptor d = some ty) (hn : narrow ty v = v') (hf : fits ty v' = true) {g : JFrame} (hg : g.method = m) {rest : List Value} (hs : g.stack = v :: .ref a :: rest) (hd : decode c.code g.pc = .ok (.putfield index, 3))
    (K : ∀ T' h', own_S p l e R s m args below meth c n0 T' h' k n → Wr h h' a (Jvm.RoadKit.slotOf Z O f d) v' → Fld Z h' a O f d v' → own_Ends p.tables e below P (T'.setTop { g with pc := g.pc + 3, stack := rest })) : own_Ends p.tables e below P (T.setTop g) := by
  obtain ⟨locs, X, e1, N⟩ := Y
  obtain ⟨T', h', X', e', W, st⟩ := putFN X hx hZ hown w via e1 F E L wi hty hn hf hg hs hd
  exact own_st st (K T' h' ⟨_, X', e', Fr.snoc X' N ha⟩ W (F.same W))
theorem own_getS (Y : own_S p l e R s m args below meth c n0 T h k n) (hx : p.tables.exec = Jvm.exec) (hZ : Z.Warmed39 s.vm) {own R0 O f d host : String} {index : Nat} (hown : s.vm.findClass own = some m.cls) (w : (Jvm.Cond.fieldLink own index R0 f d).before a0 Z = true ∨ (Jvm.Cond.fieldLinkNest own index R0 f d host).before a0 Z = true) (via : Via Z R0 O f d) {v : Value} (F : Sta Z h O f d v)
    {g : JFrame} (hg : g.method = m) (hd : decode c.code g.pc = .ok (.getstatic index, 3)) (K : ∀ T', own_S p l e R s m args below meth c n0 T' h k n → own_Ends p.tables e below P (T'.setTop { g with pc := g.pc + 3, stack := v :: g.stack })) : own_Ends p.tables e below P (T.setTop g) := by
  obtain ⟨locs, X, e1, N⟩ := Y
  obtain ⟨T', X', e', st⟩ := getS2 X hx hZ hown w via e1 F hg hd
  exact own_st st (K T' ⟨locs, X', e', N⟩)
/-! new objects -/
theorem own_new (Y : own_S p l e R s m args below meth c n0 T h k n) (hx : p.tables.exec = Jvm.exec) (hZ : Z.Warmed39 s.vm) {own C : String} {index nn : Nat} (hown : s.vm.findClass own = some m.cls) (w : (Jvm.Cond.classLink own index C).before a0 Z = true) (wi : (Jvm.Cond.instantiable C nn).before a0 Z = true) (wz : (Jvm.Cond.initialized C).before a0 Z = true)
    {g : JFrame} (hg : g.method = m) (hd : decode c.code g.pc = .ok (.new index, 3)) (hc : k + 1 ≤ R.cells) (hl : n + nn ≤ R.slots)
    (K : ∀ T' h' b, b = h.size → own_S p l e R s m args below meth c n0 T' h' (k + 1) (n + nn) → Ext h h' → Exa Z h' b C → (∀ (O nm d : String) (ty : FieldType), Laid Z a0 C O nm d → parseFieldDescriptor d = some ty → Fld Z h' b O nm d (defaultValue ty)) →
      own_Ends p.tables e below P (T'.setTop { g with pc := g.pc + 3, stack := .ref b :: g.stack })) : own_Ends p.tables e below P (T.setTop g) := by
  obtain ⟨locs, X, e1, N⟩ := Y
  obtain ⟨T', h', X', e', E, A, D, -, st⟩ := newO X hx hZ hown w wi wz e1 hg hd hc hl
  exact own_st st (K T' h' _ rfl ⟨locs, X', e', N⟩ E A (fun _ _ _ _ q r => D q r))
theorem own_initO (Y : own_S p l e R s m args below meth c n0 T h k n) (hx : p.tables.exec = Jvm.exec) (hZ : Z.Warmed39 s.vm) {own : String} {idx : Nat} (hown : s.vm.findClass own = some m.cls) (w1 : (Jvm.Cond.methodLink own idx Lib.objectInit).before a0 Z = true) (w2 : (Jvm.Cond.instanceMethod Lib.objectInit).before a0 Z = true) (w3 : (Jvm.Cond.code Lib.objectInit ⟨#[0xb1]⟩ 1 none).before a0 Z = true)
    {g : JFrame} (hg : g.method = m) (hsize : g.locals.size = c.maxLocals) {a : Addr} {rest : List Value} (hs : g.stack = .ref a :: rest) (hd : decode c.code g.pc = .ok (.invokespecial idx, 3)) (hf : 1 ≤ R.frames) {W : Nat} (hW : 2 * g.monitorRoom + (rest.map fun v => v.category).sum ≤ W) (hl : W + 12 ≤ R.locals)
    (K : ∀ T', own_S p l e R s m args below meth c n0 T' h k n → own_Ends p.tables e below P (T'.setTop { g with pc := g.pc + 3, stack := rest })) : own_Ends p.tables e below P (T.setTop g) := by
  obtain ⟨locs, X, e1, N⟩ := Y
  obtain ⟨T', X', e', st⟩ := initO X hx hZ hown w1 w2 w3 e1 hg hsize hs hd hf hW hl
  exact own_st st (K T' ⟨locs, X', e', N⟩)
/-! arrays: the cell's slots are the list vs -/
def own_A (Z : State) (h : Heap) (a : Addr) (ty : FieldType) (vs : List Value) : Prop := ∃ c : Cell, Arr Z h a c ty ∧ c.slots.toList = vs ∧ vs.length < 2 ^ 31
theorem own_A.lt {a : Addr} {ty : FieldType} {vs : List Value} (A : own_A Z h a ty vs) : a < h.size := by obtain ⟨c, A, -⟩ := A; exact A.lt
theorem own_A.ext {h' : Heap} {a : Addr} {ty : FieldType} {vs : List Value} (A : own_A Z h a ty vs) (E : Ext h h') : own_A Z h' a ty vs := by obtain ⟨c, A, r⟩ := A; exact ⟨c, A.ext E, r⟩
theorem own_A.other {h' : Heap} {a b : Addr} {sl : Nat} {v : Value} {ty : FieldType} {vs : List Value} (A : own_A Z h a ty vs) (W : Wr h h' b sl v) (q : a ≠ b) : own_A Z h' a ty vs := by obtain ⟨c, A, r⟩ := A; exact ⟨c, A.other W q, r⟩
theorem own_A.keep {h' : Heap} {a : Addr} {ws : List Addr} {ty : FieldType} {vs : List Value} (A : own_A Z h a ty vs) (K : Keep h h' ws) (q : a ∉ ws) : own_A Z h' a ty vs := by obtain ⟨c, A, r⟩ := A; exact ⟨c, ⟨K.2.1 a c A.1 q, A.2⟩, r⟩
theorem own_sz {c : Cell} {vs : List Value} (q : c.slots.toList = vs) : c.slots.size = vs.length := by rw [← q]; simp
theorem own_in {c : Cell} {vs : List Value} {j : Int32} {i : Nat} (q : c.slots.toList = vs) (hj : ¬ j < 0) (hi : j.toNatClampNeg = i) (hl : i < vs.length) : ¬ (j < 0 ∨ c.slots.size ≤ j.toNatClampNeg) := by
  rw [own_sz q, hi]; intro z; rcases z with z | z
  · exact hj z
  · omega
theorem own_get {c : Cell} {vs : List Value} {j : Int32} {i : Nat} {v : Value} (q : c.slots.toList = vs) (hi : j.toNatClampNeg = i) (hv : vs[i]? = some v) : c.slots[j.toNatClampNeg]? = some v := by
  rw [hi, ← Array.getElem?_toList, q, hv]
theorem own_A.set {h' : Heap} {a : Addr} {ty : FieldType} {vs : List Value} {cl : Cell} {i : Nat} {v : Value} (A : Arr Z h a cl ty) (q : cl.slots.toList = vs) (hl : vs.length < 2 ^ 31) (W : Wr h h' a i v) : own_A Z h' a ty (vs.set i v) :=
  ⟨_, A.same W, by simp [Cell.setSlot, q], by simpa using hl⟩
theorem own_newP (Y : own_S p l e R s m args below meth c n0 T h k n) (hx : p.tables.exec = Jvm.exec) (hZ : Z.Warmed39 s.vm) {aty : ArrayType} (w : (Jvm.Cond.arrayClass (newarray.typeOf aty)).before a0 Z = true) {g : JFrame} (hg : g.method = m) (hd : decode c.code g.pc = .ok (.newarray aty, 2)) {z : Int32} {rest : List Value} (hs : g.stack = .int z :: rest)
    (hz : ¬ z < 0) {nz cap : Nat} (hn : z.toNatClampNeg = nz) (hcap : nz ≤ cap) (hb : cap * 8 ≤ 536870912) (hc : k + 1 ≤ R.cells) (hl : n + cap ≤ R.slots) {ty : FieldType} (hty : newarray.typeOf aty = ty)
    (K : ∀ T' h' b, b = h.size → own_S p l e R s m args below meth c n0 T' h' (k + 1) (n + cap) → Ext h h' → own_A Z h' b ty (List.replicate nz (defaultValue ty)) → own_Ends p.tables e below P (T'.setTop { g with pc := g.pc + 2, stack := .ref b :: rest })) : own_Ends p.tables e below P (T.setTop g) := by
  obtain ⟨locs, X, e1, N⟩ := Y
  subst hty
  obtain ⟨T', h', cA, X', e', E, A, st⟩ := newP X hx hZ w e1 hg hd hs hz (cap := cap) (by rw [hn]; exact hcap) hb hc hl
  refine own_st st (K T' h' _ rfl ⟨locs, X', e', N⟩ E ⟨_, A, ?_, ?_⟩)
  · simp [newA, hn]
  · simp; omega
theorem own_newR (Y : own_S p l e R s m args below meth c n0 T h k n) (hx : p.tables.exec = Jvm.exec) (hZ : Z.Warmed39 s.vm) {own C : String} {index : Nat} (hown : s.vm.findClass own = some m.cls) (w1 : (Jvm.Cond.classLink own index C).before a0 Z = true) (w2 : (Jvm.Cond.arrayOver (.object C)).before a0 Z = true) {g : JFrame} (hg : g.method = m) (hd : decode c.code g.pc = .ok (.anewarray index, 3)) {z : Int32} {rest : List Value} (hs : g.stack = .int z :: rest)
    (hz : ¬ z < 0) {nz cap : Nat} (hn : z.toNatClampNeg = nz) (hcap : nz ≤ cap) (hb : cap * 8 ≤ 536870912) (hc : k + 1 ≤ R.cells) (hl : n + cap ≤ R.slots)
    (K : ∀ T' h' b, b = h.size → own_S p l e R s m args below meth c n0 T' h' (k + 1) (n + cap) → Ext h h' → own_A Z h' b (.object C) (List.replicate nz .null) → own_Ends p.tables e below P (T'.setTop { g with pc := g.pc + 3, stack := .ref b :: rest })) : own_Ends p.tables e below P (T.setTop g) := by
  obtain ⟨locs, X, e1, N⟩ := Y
  obtain ⟨T', h', cA, X', e', E, A, O, st⟩ := newR X hx hZ hown w1 w2 e1 hg hd hs hz (cap := cap) (by rw [hn]; exact hcap) hb hc hl
  refine own_st st (K T' h' _ rfl ⟨locs, X', e', N⟩ E ⟨_, A, ?_, ?_⟩)
  · simp [newA, hn, defaultValue]
  · simp; omega
theorem own_mono (Y : own_S p l e R s m args below meth c n0 T h k n) {k' n' : Nat} (hk : k ≤ k') (hn : n ≤ n') : own_S p l e R s m args below meth c n0 T h k' n' := by
  obtain ⟨locs, X, r⟩ := Y
  exact ⟨locs, { X with same := X.same.mono hk hn }, r⟩
theorem own_stI (Y : own_S p l e R s m args below meth c n0 T h k n) (hx : p.tables.exec = Jvm.exec) (hZ : Z.Warmed39 s.vm) {a : Addr} {vs : List Value} (A : own_A Z h a .int vs) (ha : n0 ≤ a) {j x : Int32} {i : Nat} (hj : ¬ j < 0) (hi : j.toNatClampNeg = i) (hl : i < vs.length) {g : JFrame} (hg : g.method = m) {rest : List Value} (hs : g.stack = .int x :: .int j :: .ref a :: rest) (hd : decode c.code g.pc = .ok (.iastore, 1))
    (K : ∀ T' h', own_S p l e R s m args below meth c n0 T' h' k n → Wr h h' a i (.int x) → own_A Z h' a .int (vs.set i (.int x)) → own_Ends p.tables e below P (T'.setTop { g with pc := g.pc + 1, stack := rest })) : own_Ends p.tables e below P (T.setTop g) := by
  obtain ⟨locs, X, e1, N⟩ := Y
  obtain ⟨cl, A, q, r⟩ := A
  obtain ⟨T', h', X', e', W, st⟩ := stI X hx hZ e1 A (own_in q hj hi hl) hg hs hd
  have W' := W; rw [hi] at W'
  exact own_st st (K T' h' ⟨_, X', e', Fr.snoc X' N ha⟩ W' (own_A.set A q r W'))
theorem own_stJ (Y : own_S p l e R s m args below meth c n0 T h k n) (hx : p.tables.exec = Jvm.exec) (hZ : Z.Warmed39 s.vm) {a : Addr} {vs : List Value} (A : own_A Z h a .long vs) (ha : n0 ≤ a) {j : Int32} {x : Int64} {i : Nat} (hj : ¬ j < 0) (hi : j.toNatClampNeg = i) (hl : i < vs.length) {g : JFrame} (hg : g.method = m) {rest : List Value} (hs : g.stack = .long x :: .int j :: .ref a :: rest) (hd : decode c.code g.pc = .ok (.lastore, 1))
    (K : ∀ T' h', own_S p l e R s m args below meth c n0 T' h' k n → Wr h h' a i (.long x) → own_A Z h' a .long (vs.set i (.long x)) → own_Ends p.tables e below P (T'.setTop { g with pc := g.pc + 1, stack := rest })) : own_Ends p.tables e below P (T.setTop g) := by
  obtain ⟨locs, X, e1, N⟩ := Y
  obtain ⟨cl, A, q, r⟩ := A
  obtain ⟨T', h', X', e', W, st⟩ := stJ X hx hZ e1 A (own_in q hj hi hl) hg hs hd
  have W' := W; rw [hi] at W'
  exact own_st st (K T' h' ⟨_, X', e', Fr.snoc X' N ha⟩ W' (own_A.set A q r W'))
theorem own_stB (Y : own_S p l e R s m args below meth c n0 T h k n) (hx : p.tables.exec = Jvm.exec) (hZ : Z.Warmed39 s.vm) {a : Addr} {vs : List Value} (A : own_A Z h a .byte vs) (ha : n0 ≤ a) {j x : Int32} {i : Nat} (hj : ¬ j < 0) (hi : j.toNatClampNeg = i) (hl : i < vs.length) {g : JFrame} (hg : g.method = m) {rest : List Value} (hs : g.stack = .int x :: .int j :: .ref a :: rest) (hd : decode c.code g.pc = .ok (.bastore, 1))
    (K : ∀ T' h', own_S p l e R s m args below meth c n0 T' h' k n → Wr h h' a i (.int x.toInt8.toInt32) → own_A Z h' a .byte (vs.set i (.int x.toInt8.toInt32)) → own_Ends p.tables e below P (T'.setTop { g with pc := g.pc + 1, stack := rest })) : own_Ends p.tables e below P (T.setTop g) := by
  obtain ⟨locs, X, e1, N⟩ := Y
  obtain ⟨cl, A, q, r⟩ := A
  obtain ⟨T', h', X', e', W, st⟩ := stB X hx hZ e1 A (own_in q hj hi hl) hg hs hd
  have W' := W; rw [hi] at W'
  exact own_st st (K T' h' ⟨_, X', e', Fr.snoc X' N ha⟩ W' (own_A.set A q r W'))
theorem own_stC (Y : own_S p l e R s m args below meth c n0 T h k n) (hx : p.tables.exec = Jvm.exec) (hZ : Z.Warmed39 s.vm) {a : Addr} {vs : List Value} (A : own_A Z h a .char vs) (ha : n0 ≤ a) {j x : Int32} {i : Nat} (hj : ¬ j < 0) (hi : j.toNatClampNeg = i) (hl : i < vs.length) {g : JFrame} (hg : g.method = m) {rest : List Value} (hs : g.stack = .int x :: .int j :: .ref a :: rest) (hd : decode c.code g.pc = .ok (.castore, 1))
    (K : ∀ T' h', own_S p l e R s m args below meth c n0 T' h' k n → Wr h h' a i (.int x.toUInt32.toUInt16.toUInt32.toInt32) → own_A Z h' a .char (vs.set i (.int x.toUInt32.toUInt16.toUInt32.toInt32)) → own_Ends p.tables e below P (T'.setTop { g with pc := g.pc + 1, stack := rest })) : own_Ends p.tables e below P (T.setTop g) := by
  obtain ⟨locs, X, e1, N⟩ := Y
  obtain ⟨cl, A, q, r⟩ := A
  obtain ⟨T', h', X', e', W, st⟩ := stC X hx hZ e1 A (own_in q hj hi hl) hg hs hd
  have W' := W; rw [hi] at W'
  exact own_st st (K T' h' ⟨_, X', e', Fr.snoc X' N ha⟩ W' (own_A.set A q r W'))
theorem own_len (Y : own_S p l e R s m args below meth c n0 T h k n) (hx : p.tables.exec = Jvm.exec) (hZ : Z.Warmed39 s.vm) {a : Addr} {ty : FieldType} {vs : List Value} (A : own_A Z h a ty vs) {z : Int32} (hz : vs.length.toInt32 = z) {g : JFrame} (hg : g.method = m) {rest : List Value} (hs : g.stack = .ref a :: rest) (hd : decode c.code g.pc = .ok (.arraylength, 1))
    (K : own_Ends p.tables e below P (T.setTop { g with pc := g.pc + 1, stack := .int z :: rest })) : own_Ends p.tables e below P (T.setTop g) := by
  obtain ⟨locs, X, e1, N⟩ := Y
  obtain ⟨cl, A, q, r⟩ := A
  refine own_st (fun t => X.arraylength hx (by rw [e1]; exact A.1) (State.isArrayOf_alike hZ.alike A.2.1) hg hs hd t) ?_
  rw [own_sz q, hz]; exact K
theorem own_ldI (Y : own_S p l e R s m args below meth c n0 T h k n) (hx : p.tables.exec = Jvm.exec) (hZ : Z.Warmed39 s.vm) {a : Addr} {vs : List Value} (A : own_A Z h a .int vs) {j : Int32} {i : Nat} (hj : ¬ j < 0) (hi : j.toNatClampNeg = i) (hl : i < vs.length) {v : Value} (hv : vs[i]? = some v) {g : JFrame} (hg : g.method = m) {rest : List Value} (hs : g.stack = .int j :: .ref a :: rest) (hd : decode c.code g.pc = .ok (.iaload, 1))
    (K : own_Ends p.tables e below P (T.setTop { g with pc := g.pc + 1, stack := v :: rest })) : own_Ends p.tables e below P (T.setTop g) := by
  obtain ⟨locs, X, e1, N⟩ := Y
  obtain ⟨cl, A, q, r⟩ := A
  exact own_st (fun t => X.iaload hx (by rw [e1]; exact A.1) (State.isArrayOf_alike hZ.alike A.2.1) A.2.2 (own_in q hj hi hl) (own_get q hi hv) hg hs hd t) K
theorem own_ldB (Y : own_S p l e R s m args below meth c n0 T h k n) (hx : p.tables.exec = Jvm.exec) (hZ : Z.Warmed39 s.vm) {a : Addr} {vs : List Value} (A : own_A Z h a .byte vs) {j : Int32} {i : Nat} (hj : ¬ j < 0) (hi : j.toNatClampNeg = i) (hl : i < vs.length) {v : Value} (hv : vs[i]? = some v) {g : JFrame} (hg : g.method = m) {rest : List Value} (hs : g.stack = .int j :: .ref a :: rest) (hd : decode c.code g.pc = .ok (.baload, 1))
    (K : own_Ends p.tables e below P (T.setTop { g with pc := g.pc + 1, stack := v :: rest })) : own_Ends p.tables e below P (T.setTop g) := by
  obtain ⟨locs, X, e1, N⟩ := Y
  obtain ⟨cl, A, q, r⟩ := A
  exact own_st (fun t => X.baloadBytes hx (by rw [e1]; exact A.1) (State.isArrayOf_alike hZ.alike A.2.1) A.2.2 (own_in q hj hi hl) (own_get q hi hv) hg hs hd t) K
theorem own_ldC (Y : own_S p l e R s m args below meth c n0 T h k n) (hx : p.tables.exec = Jvm.exec) (hZ : Z.Warmed39 s.vm) {a : Addr} {vs : List Value} (A : own_A Z h a .char vs) {j : Int32} {i : Nat} (hj : ¬ j < 0) (hi : j.toNatClampNeg = i) (hl : i < vs.length) {v : Value} (hv : vs[i]? = some v) {g : JFrame} (hg : g.method = m) {rest : List Value} (hs : g.stack = .int j :: .ref a :: rest) (hd : decode c.code g.pc = .ok (.caload, 1))
    (K : own_Ends p.tables e below P (T.setTop { g with pc := g.pc + 1, stack := v :: rest })) : own_Ends p.tables e below P (T.setTop g) := by
  obtain ⟨locs, X, e1, N⟩ := Y
  obtain ⟨cl, A, q, r⟩ := A
  exact own_st (fun t => X.caload hx (by rw [e1]; exact A.1) (State.isArrayOf_alike hZ.alike A.2.1) A.2.2 (own_in q hj hi hl) (own_get q hi hv) hg hs hd t) K
theorem own_ldJ (Y : own_S p l e R s m args below meth c n0 T h k n) (hx : p.tables.exec = Jvm.exec) (hZ : Z.Warmed39 s.vm) {a : Addr} {vs : List Value} (A : own_A Z h a .long vs) {j : Int32} {i : Nat} (hj : ¬ j < 0) (hi : j.toNatClampNeg = i) (hl : i < vs.length) {v : Value} (hv : vs[i]? = some v) {g : JFrame} (hg : g.method = m) {rest : List Value} (hs : g.stack = .int j :: .ref a :: rest) (hd : decode c.code g.pc = .ok (.laload, 1))
    (K : own_Ends p.tables e below P (T.setTop { g with pc := g.pc + 1, stack := v :: rest })) : own_Ends p.tables e below P (T.setTop g) := by
  obtain ⟨locs, X, e1, N⟩ := Y
  obtain ⟨cl, A, q, r⟩ := A
  exact own_st (fun t => X.laload hx (by rw [e1]; exact A.1) (State.isArrayOf_alike hZ.alike A.2.1) A.2.2 (own_in q hj hi hl) (own_get q hi hv) hg hs hd t) K
/-! constants -/
theorem own_ldcI (Y : own_S p l e R s m args below meth c n0 T h k n) (hx : p.tables.exec = Jvm.exec) (hZ : Z.Warmed39 s.vm) {own : String} {index : Nat} {v : Int32} (hown : s.vm.findClass own = some m.cls) (w : (Jvm.Cond.constant own index v).before a0 Z = true) {g : JFrame} (hg : g.method = m) (hd : decode c.code g.pc = .ok (.ldc index, 2))
    (K : own_Ends p.tables e below P (T.setTop { g with pc := g.pc + 2, stack := .int v :: g.stack })) : own_Ends p.tables e below P (T.setTop g) := by
  obtain ⟨locs, X, e1, N⟩ := Y
  exact own_st (X.ldcInt hx hown (mvT hZ w) hg hd) K
theorem own_ldcJ (Y : own_S p l e R s m args below meth c n0 T h k n) (hx : p.tables.exec = Jvm.exec) (hZ : Z.Warmed39 s.vm) {own : String} {index : Nat} {v : Int64} (hown : s.vm.findClass own = some m.cls) (w : (Jvm.Cond.constantLong own index v).before a0 Z = true) {g : JFrame} (hg : g.method = m) (hd : decode c.code g.pc = .ok (.ldc2_w index, 3))
    (K : own_Ends p.tables e below P (T.setTop { g with pc := g.pc + 3, stack := .long v :: g.stack })) : own_Ends p.tables e below P (T.setTop g) := by
  obtain ⟨locs, X, e1, N⟩ := Y
  exact own_st (X.ldc2Long hx hown (mvT hZ w) hg hd) K
theorem own_irem (Y : own_S p l e R s m args below meth c n0 T h k n) (hx : p.tables.exec = Jvm.exec) {g : JFrame} (hg : g.method = m) {x y : Int32} {rest : List Value} (hd : decode c.code g.pc = .ok (.irem, 1)) (hs : g.stack = .int y :: .int x :: rest) (hy : y ≠ 0)
    (K : own_Ends p.tables e below P (T.setTop { g with pc := g.pc + 1, stack := .int (x % y) :: rest })) : own_Ends p.tables e below P (T.setTop g) := by
  obtain ⟨locs, X, e1, N⟩ := Y
  exact own_st (fun t => iremM X hx hg hd hs hy) K
/-! calls by contract -/
theorem own_callS (Y : own_S p l e R s m args below meth c n0 T h k n) (hx : p.tables.exec = Jvm.exec) (hZ : Z.Warmed39 s.vm) {own : String} {index : Nat} {y : MethodName} {bytes : ByteArray} {maxL : Nat} {ret : Option FieldType} (hown : s.vm.findClass own = some m.cls) (wl : (Jvm.Cond.methodLink own index y).before a0 Z = true) (wst : (Jvm.Cond.static y).before a0 Z = true) (wi : (Jvm.Cond.initialized y.cls).before a0 Z = true) (wc : (Jvm.Cond.code y bytes maxL ret).before a0 Z = true)
    (hy : y.cls ≠ "java/lang/invoke/MethodHandle" ∧ y.cls ≠ "java/lang/invoke/VarHandle") {rm : Room} {argsL rest : List Value} {Qf : Option Value → Heap → Prop} (hM : own_Con l Z y bytes maxL ret [] rm argsL.toArray h n0 Qf) {W : Nat} (hfr : rm.frames + 1 ≤ R.frames) (hlo : W + (maxL + 11) + rm.locals ≤ R.locals) (hc : k + rm.cells ≤ R.cells) (hsl : n + rm.slots ≤ R.slots)
    {g : JFrame} (hg : g.method = m) (hsize : g.locals.size = c.maxLocals) (hlen : ∀ sig, parseMethodDescriptor y.desc = some sig → argsL.length = sig.parameters.length) (hs : g.stack = argsL.reverse ++ rest) (hW : 2 * g.monitorRoom + (rest.map fun v => v.category).sum ≤ W) (hd : decode c.code g.pc = .ok (.invokestatic index, 3))
    (K : ∀ T' h' v, own_S p l e R s m args below meth c n0 T' h' (k + rm.cells) (n + rm.slots) → Qf v h' → own_Ends p.tables e below P (T'.setTop { g with pc := g.pc + 3, stack := v.toList ++ rest })) : own_Ends p.tables e below P (T.setTop g) := by
  obtain ⟨locs, X, e1, N⟩ := Y
  obtain ⟨v, vm1, ⟨T', L', k', n'⟩, -, X', ⟨L, hQ, l1, y1, z1⟩, st⟩ := Jvm.LawKit.callS X hx hown (mvT hZ wl) (mvT hZ wst) (mvT hZ wi) (mvT hZ wc) hy (backOf (W := W) (Q := fun v h L => Fr n0 L ∧ Qf v h) hM hZ wc wi hfr hlo) hg hsize hlen hs hW hd (fun _ _ => ⟨rfl, e1, hc, hsl⟩)
  dsimp only [Pt.U, Pt.locs, Pt.cells, Pt.slots] at X' l1 y1 z1 st hQ
  subst l1 y1 z1
  exact own_st st (K T' _ v ⟨_, X', rfl, Fr.app N hQ.1⟩ hQ.2)
theorem own_callN (Y : own_S p l e R s m args below meth c n0 T h k n) (hx : p.tables.exec = Jvm.exec) (hZ : Z.Warmed39 s.vm) {own : String} {index : Nat} {y : MethodName} {bytes : ByteArray} {maxL : Nat} (hy1 : y.name = "<init>") (hown : s.vm.findClass own = some m.cls) (wl : (Jvm.Cond.methodLink own index y).before a0 Z = true) (win : (Jvm.Cond.instanceMethod y).before a0 Z = true) (wi : (Jvm.Cond.initialized y.cls).before a0 Z = true) (wc : (Jvm.Cond.code y bytes maxL none).before a0 Z = true)
    (hy : y.cls ≠ "java/lang/invoke/MethodHandle" ∧ y.cls ≠ "java/lang/invoke/VarHandle") {rm : Room} {a : Addr} {argsL rest : List Value} {Qf : Option Value → Heap → Prop} (hM : own_Con l Z y bytes maxL none [] rm (.ref a :: argsL).toArray h n0 Qf) {W : Nat} (hfr : rm.frames + 1 ≤ R.frames) (hlo : W + (maxL + 11) + rm.locals ≤ R.locals) (hc : k + rm.cells ≤ R.cells) (hsl : n + rm.slots ≤ R.slots)
    {g : JFrame} (hg : g.method = m) (hsize : g.locals.size = c.maxLocals) (hlen : ∀ sig, parseMethodDescriptor y.desc = some sig → argsL.length = sig.parameters.length) (hs : g.stack = argsL.reverse ++ .ref a :: rest) (hW : 2 * g.monitorRoom + (rest.map fun v => v.category).sum ≤ W) (hd : decode c.code g.pc = .ok (.invokespecial index, 3))
    (K : ∀ T' h' v, own_S p l e R s m args below meth c n0 T' h' (k + rm.cells) (n + rm.slots) → Qf v h' → own_Ends p.tables e below P (T'.setTop { g with pc := g.pc + 3, stack := v.toList ++ rest })) : own_Ends p.tables e below P (T.setTop g) := by
  obtain ⟨locs, X, e1, N⟩ := Y
  obtain ⟨v, vm1, ⟨T', L', k', n'⟩, -, X', ⟨L, hQ, l1, y1, z1⟩, st⟩ := X.specialBack hx hy1 hown (mvT hZ wl) (mvT hZ win) (mvT hZ wc) hy (backOf (W := W) (Q := fun v h L => Fr n0 L ∧ Qf v h) hM hZ wc wi hfr hlo) hg hsize (Steps.refl _) hlen hs hW hd (fun _ _ => ⟨rfl, e1, hc, hsl⟩)
  dsimp only [Pt.U, Pt.locs, Pt.cells, Pt.slots] at X' l1 y1 z1 st hQ
  subst l1 y1 z1
  exact own_st (fun t q => st.trans q) (K T' _ v ⟨_, X', rfl, Fr.app N hQ.1⟩ hQ.2)
theorem own_callV (Y : own_S p l e R s m args below meth c n0 T h k n) (hx : p.tables.exec = Jvm.exec) (hZ : Z.Warmed39 s.vm) {own C : String} {index : Nat} {y z : MethodName} {bytes : ByteArray} {maxL : Nat} {ret : Option FieldType} (hown : s.vm.findClass own = some m.cls) (wl : (Jvm.Cond.methodLink own index y).before a0 Z = true) (wd : (Jvm.Cond.declares y).before a0 Z = true) (hnf : NotFace s y) (wse : (Jvm.Cond.selects C y z).before a0 Z = true) (win : (Jvm.Cond.instanceMethod z).before a0 Z = true) (wi : (Jvm.Cond.initialized z.cls).before a0 Z = true) (wc : (Jvm.Cond.code z bytes maxL ret).before a0 Z = true)
    (hy : y.cls ≠ "java/lang/invoke/MethodHandle" ∧ y.cls ≠ "java/lang/invoke/VarHandle") {rm : Room} {a : Addr} (E : Exa Z h a C) {argsL rest : List Value} {Qf : Option Value → Heap → Prop} (hM : own_Con l Z z bytes maxL ret [] rm (.ref a :: argsL).toArray h n0 Qf) {W : Nat} (hfr : rm.frames + 1 ≤ R.frames) (hlo : W + (maxL + 11) + rm.locals ≤ R.locals) (hc : k + rm.cells ≤ R.cells) (hsl : n + rm.slots ≤ R.slots)
    {g : JFrame} (hg : g.method = m) (hsize : g.locals.size = c.maxLocals) (hlen : ∀ sig, parseMethodDescriptor y.desc = some sig → argsL.length = sig.parameters.length) (hs : g.stack = argsL.reverse ++ .ref a :: rest) (hW : 2 * g.monitorRoom + (rest.map fun v => v.category).sum ≤ W) (hd : decode c.code g.pc = .ok (.invokevirtual index, 3))
    (K : ∀ T' h' v, own_S p l e R s m args below meth c n0 T' h' (k + rm.cells) (n + rm.slots) → Qf v h' → own_Ends p.tables e below P (T'.setTop { g with pc := g.pc + 3, stack := v.toList ++ rest })) : own_Ends p.tables e below P (T.setTop g) := by
  obtain ⟨locs, X, e1, N⟩ := Y
  obtain ⟨cq, kq, qa, qb, qc⟩ := isOf hZ e1 E
  obtain ⟨v, vm1, ⟨T', L', k', n'⟩, -, X', ⟨L, hQ, l1, y1, z1⟩, st⟩ := X.virtualBack hx hown (mvT hZ wl) (mvT hZ wd) hnf (mvT hZ wse) (mvT hZ win) hy (backOf (W := W) (Q := fun v h L => Fr n0 L ∧ Qf v h) hM hZ wc wi hfr hlo) qa qc hg hsize (Steps.refl _) hlen hs hW hd (fun _ _ => ⟨rfl, e1, hc, hsl⟩)
  dsimp only [Pt.U, Pt.locs, Pt.cells, Pt.slots] at X' l1 y1 z1 st hQ
  subst l1 y1 z1
  exact own_st (fun t q => st.trans q) (K T' _ v ⟨_, X', rfl, Fr.app N hQ.1⟩ hQ.2)
theorem own_callU (Y : own_S p l e R s m args below meth c n0 T h k n) (hx : p.tables.exec = Jvm.exec) (hZ : Z.Warmed39 s.vm) {own C owner : String} {index : Nat} {y z : MethodName} {bytes : ByteArray} {maxL : Nat} {ret : Option FieldType} (hown : s.vm.findClass own = some m.cls) (wl : (Jvm.Cond.methodLink own index y).before a0 Z = true) (wsm : (Jvm.Cond.sameMethod y.cls owner y.name y.desc).before a0 Z = true) (wd : (Jvm.Cond.declares ⟨owner, y.name, y.desc⟩).before a0 Z = true) (wse : (Jvm.Cond.selects C y z).before a0 Z = true) (win : (Jvm.Cond.instanceMethod z).before a0 Z = true) (wi : (Jvm.Cond.initialized z.cls).before a0 Z = true) (wc : (Jvm.Cond.code z bytes maxL ret).before a0 Z = true)
    (hy : owner ≠ "java/lang/invoke/MethodHandle" ∧ owner ≠ "java/lang/invoke/VarHandle") {rm : Room} {a : Addr} (E : Exa Z h a C) {argsL rest : List Value} {Qf : Option Value → Heap → Prop} (hM : own_Con l Z z bytes maxL ret [] rm (.ref a :: argsL).toArray h n0 Qf) {W : Nat} (hfr : rm.frames + 1 ≤ R.frames) (hlo : W + (maxL + 11) + rm.locals ≤ R.locals) (hc : k + rm.cells ≤ R.cells) (hsl : n + rm.slots ≤ R.slots)
    {g : JFrame} (hg : g.method = m) (hsize : g.locals.size = c.maxLocals) (hlen : ∀ sig, parseMethodDescriptor y.desc = some sig → argsL.length = sig.parameters.length) (hs : g.stack = argsL.reverse ++ .ref a :: rest) (hW : 2 * g.monitorRoom + (rest.map fun v => v.category).sum ≤ W) (hd : decode c.code g.pc = .ok (.invokevirtual index, 3))
    (K : ∀ T' h' v, own_S p l e R s m args below meth c n0 T' h' (k + rm.cells) (n + rm.slots) → Qf v h' → own_Ends p.tables e below P (T'.setTop { g with pc := g.pc + 3, stack := v.toList ++ rest })) : own_Ends p.tables e below P (T.setTop g) := by
  obtain ⟨locs, X, e1, N⟩ := Y
  obtain ⟨cq, kq, qa, qb, qc⟩ := isOf hZ e1 E
  obtain ⟨v, vm1, ⟨T', L', k', n'⟩, -, X', ⟨L, hQ, l1, y1, z1⟩, st⟩ := X.virtualBackUp hx hown (mvT hZ wl) (mvT hZ wsm) (mvT hZ wd) hy (mvT hZ wse) (mvT hZ win) (backOf (W := W) (Q := fun v h L => Fr n0 L ∧ Qf v h) hM hZ wc wi hfr hlo) qa qc hg hsize (Steps.refl _) hlen hs hW hd (fun _ _ => ⟨rfl, e1, hc, hsl⟩)
  dsimp only [Pt.U, Pt.locs, Pt.cells, Pt.slots] at X' l1 y1 z1 st hQ
  subst l1 y1 z1
  exact own_st (fun t q => st.trans q) (K T' _ v ⟨_, X', rfl, Fr.app N hQ.1⟩ hQ.2)
theorem own_callP (Y : own_S p l e R s m args below meth c n0 T h k n) (hx : p.tables.exec = Jvm.exec) (hZ : Z.Warmed39 s.vm) {own C : String} {index : Nat} {y : MethodName} {bytes : ByteArray} {maxL : Nat} {ret : Option FieldType} (hown : s.vm.findClass own = some m.cls) (wl : (Jvm.Cond.methodLink own index y).before a0 Z = true) {nn : Nat} (win : (Jvm.Cond.instanceMethod y).before a0 Z = true) (wn : (Jvm.Cond.instantiable y.cls nn).before a0 Z = true) (wp : (Jvm.Cond.privateMethod y).before a0 Z = true) (wi : (Jvm.Cond.initialized y.cls).before a0 Z = true) (wc : (Jvm.Cond.code y bytes maxL ret).before a0 Z = true)
    (hy : y.cls ≠ "java/lang/invoke/MethodHandle" ∧ y.cls ≠ "java/lang/invoke/VarHandle") {rm : Room} {a : Addr} (E : Exa Z h a C) {argsL rest : List Value} {Qf : Option Value → Heap → Prop} (hM : own_Con l Z y bytes maxL ret [] rm (.ref a :: argsL).toArray h n0 Qf) {W : Nat} (hfr : rm.frames + 1 ≤ R.frames) (hlo : W + (maxL + 11) + rm.locals ≤ R.locals) (hc : k + rm.cells ≤ R.cells) (hsl : n + rm.slots ≤ R.slots)
    {g : JFrame} (hg : g.method = m) (hsize : g.locals.size = c.maxLocals) (hlen : ∀ sig, parseMethodDescriptor y.desc = some sig → argsL.length = sig.parameters.length) (hs : g.stack = argsL.reverse ++ .ref a :: rest) (hW : 2 * g.monitorRoom + (rest.map fun v => v.category).sum ≤ W) (hd : decode c.code g.pc = .ok (.invokevirtual index, 3))
    (K : ∀ T' h' v, own_S p l e R s m args below meth c n0 T' h' (k + rm.cells) (n + rm.slots) → Qf v h' → own_Ends p.tables e below P (T'.setTop { g with pc := g.pc + 3, stack := v.toList ++ rest })) : own_Ends p.tables e below P (T.setTop g) := by
  obtain ⟨locs, X, e1, N⟩ := Y
  obtain ⟨cell, q, q'⟩ := E.cell
  have wn' : (Jvm.Cond.instantiable y.cls nn).before #[] s = true := mvT hZ wn
  obtain ⟨ci, ki, hi1, hi2, -, hi4, -⟩ := Cond.instantiable_spec wn'
  have wse : (Jvm.Cond.selects y.cls y y).before args s = true := selects_self_of_private hi1 hi2 (by simpa using (Bool.or_eq_false_iff.mp hi4).1) (Cond.privateMethod_at (mvP hZ wp (args := #[]))) (mvT hZ win) hy
  obtain ⟨v, vm1, ⟨T', L', k', n'⟩, -, X', ⟨L, hQ, l1, y1, z1⟩, st⟩ := X.privateBack hx hown (mvT hZ wl) (mvT hZ win) wse (Cond.privateMethod_at (mvP hZ wp (args := #[]))) (mvT hZ wc) hy (backOf (W := W) (Q := fun v h L => Fr n0 L ∧ Qf v h) hM hZ wc wi hfr hlo) hg hsize (Steps.refl _) (by rw [e1]; exact q) q' hlen hs hW hd (fun _ _ => ⟨rfl, e1, hc, hsl⟩)
  dsimp only [Pt.U, Pt.locs, Pt.cells, Pt.slots] at X' l1 y1 z1 st hQ
  subst l1 y1 z1
  exact own_st (fun t q => st.trans q) (K T' _ v ⟨_, X', rfl, Fr.app N hQ.1⟩ hQ.2)
end OwnLayer
section OwnNums
def own_b (b : Bool) : Int32 := if b then 1 else 0
theorem own_b_t {b : Bool} (h : b = true) : own_b b = 1 := by subst h; rfl
theorem own_b_f {b : Bool} (h : b = false) : own_b b = 0 := by subst h; rfl
theorem own_b_0 (b : Bool) : own_b b = 0 ↔ b = false := by cases b <;> simp [own_b]
theorem own_b_n (b : Bool) : nar .boolean (own_b b) = own_b b := by cases b <;> rfl
theorem own_b_inj {a b : Bool} : own_b a = own_b b ↔ a = b := by cases a <;> cases b <;> simp [own_b]
theorem own_idx {j : Int32} {n : Nat} (h0 : 0 ≤ j.toInt) (h1 : j.toInt < (n : Int)) : ¬ j < 0 ∧ j.toNatClampNeg < n := by
  refine ⟨?_, ?_⟩
  · rw [Int32.lt_iff_toInt_lt]; show ¬ j.toInt < 0; omega
  · show j.toInt.toNat < n; omega
theorem own_ints {xs : List Int32} {i : Nat} (h : i < xs.length) : ∃ d, (xs.map Value.int)[i]? = some (.int d) ∧ d = xs[i] := ⟨xs[i], by simp [h], rfl⟩
theorem own_longs {xs : List Int64} {i : Nat} (h : i < xs.length) : ∃ d, (xs.map Value.long)[i]? = some (.long d) ∧ d = xs[i] := ⟨xs[i], by simp [h], rfl⟩
/-- p i, p (i + 1), .., k of them, all hold -/
def own_all (p : Nat → Bool) : Nat → Nat → Bool
  | _, 0 => true
  | i, k + 1 => p i && own_all p (i + 1) k
def own_g (xs : List Int32) (i : Nat) : Int32 := xs.getD i 0
theorem own_mget {xs : List Int32} {i : Nat} (h : i < (xs.map Value.int).length) : (xs.map Value.int)[i]? = some (.int (own_g xs i)) := by
  have h' : i < xs.length := by simpa using h
  simp [h', own_g]
theorem own_mlen {xs : List Int32} {i : Nat} (h : i < xs.length) : i < (xs.map Value.int).length := by simpa using h
theorem own_nat {j : Int32} {i : Nat} (h : j.toInt = (i : Int)) : ¬ j < 0 ∧ j.toNatClampNeg = i := by
  refine ⟨?_, ?_⟩
  · rw [Int32.lt_iff_toInt_lt]; show ¬ j.toInt < 0; omega
  · show j.toInt.toNat = i; omega
theorem own_inc {j : Int32} {i : Nat} (h : j.toInt = (i : Int)) (hi : i + 1 < 2147483648) : (j + 1).toInt = ((i + 1 : Nat) : Int) := by
  have := c_iadd j 1
  have h1 : (1 : Int32).toInt = 1 := rfl
  have := rng32 (j + 1)
  omega
theorem own_lt {x y : Int32} : x < y ↔ x.toInt < y.toInt := Int32.lt_iff_toInt_lt
theorem own_eq {x y : Int32} : x = y ↔ x.toInt = y.toInt := Int32.toInt_inj.symm
theorem own_tolen {ys : List Int32} {z : Int32} (h : z.toInt = (ys.length : Int)) : (ys.map Value.int).length.toInt32 = z := by
  have q := rng32 z
  have e : (ys.map Value.int).length = ys.length := by simp
  rw [own_eq, len_toInt (by rw [e]; omega), e, h]
theorem own_add {x y : Int32} {a b : Nat} (h1 : x.toInt = (a : Int)) (h2 : y.toInt = (b : Int)) (hi : a + b < 2147483648) : (x + y).toInt = ((a + b : Nat) : Int) := by
  have := c_iadd x y
  have := rng32 (x + y)
  omega
theorem own_sub {x y : Int32} {a b : Nat} (h1 : x.toInt = (a : Int)) (h2 : y.toInt = (b : Int)) : (x - y).toInt = (a : Int) - (b : Int) := by
  have := c_isub x y
  have := rng32 (x - y)
  have := rng32 x
  have := rng32 y
  omega
theorem own_l1 : (1 : Int32).toInt = ((1 : Nat) : Int) := rfl
theorem own_l2 : (2 : Int32).toInt = ((2 : Nat) : Int) := rfl
theorem own_l3 : (3 : Int32).toInt = ((3 : Nat) : Int) := rfl
theorem own_l4 : (4 : Int32).toInt = ((4 : Nat) : Int) := rfl
theorem own_l5 : (5 : Int32).toInt = ((5 : Nat) : Int) := rfl
theorem own_l6 : (6 : Int32).toInt = ((6 : Nat) : Int) := rfl
theorem own_l7 : (7 : Int32).toInt = ((7 : Nat) : Int) := rfl
theorem own_l8 : (8 : Int32).toInt = ((8 : Nat) : Int) := rfl
end OwnNums
def own_m (xs ys : List Int32) (s n i : Nat) : Bool := decide (n ≤ i) || decide (own_g xs (s + i) = own_g ys i)
def own_sw (xs ys : List Int32) (s e : Nat) : Bool := decide (ys.length ≤ e - s) && own_all (fun i => decide (own_g xs (s + i) = own_g ys i)) 0 ys.length
theorem own_law (xs ys : List Int32) (s e n : Nat) (hn : ys.length = n) (h8 : n ≤ 8) : own_sw xs ys s e = (decide (n ≤ e - s) && (own_m xs ys s n 0 && own_m xs ys s n 1 && own_m xs ys s n 2 && own_m xs ys s n 3 && own_m xs ys s n 4 && own_m xs ys s n 5 && own_m xs ys s n 6 && own_m xs ys s n 7)) := by
  unfold own_sw own_m
  rw [hn]
  have q : n = 0 ∨ n = 1 ∨ n = 2 ∨ n = 3 ∨ n = 4 ∨ n = 5 ∨ n = 6 ∨ n = 7 ∨ n = 8 := by omega
  rcases q with h | h | h | h | h | h | h | h | h <;> subst h <;> simp [own_all, own_g, Bool.and_assoc]
theorem own_bb (y : Int32) : y.toInt8.toInt32.toInt8.toInt32 = y.toInt8.toInt32 := by simp
theorem own_pn0 : plainName "com/example/tagwire/tagwire/wire/BytesStartsWithPinLaw" = true := by first | (simp [plainName, overriddenIn]; done) | decide +kernel
theorem own_d1_0 : decode method_4_code 0 = .ok (.iload_n 2, 1) := by decide +kernel
theorem own_d1_1 : decode method_4_code 1 = .ok (.ifCond .ne 10, 3) := by decide +kernel
theorem own_d1_4 : decode method_4_code 4 = .ok (.iconst 0, 1) := by decide +kernel
theorem own_d1_5 : decode method_4_code 5 = .ok (.newarray .byte, 2) := by decide +kernel
theorem own_d1_7 : decode method_4_code 7 = .ok (.astore_n 3, 1) := by decide +kernel
theorem own_d1_8 : decode method_4_code 8 = .ok (.goto 96, 3) := by decide +kernel
theorem own_d1_104 : decode method_4_code 104 = .ok (.iload_n 2, 1) := by decide +kernel
theorem own_d1_105 : decode method_4_code 105 = .ok (.ifCond .le 9, 3) := by decide +kernel
theorem own_d1_114 : decode method_4_code 114 = .ok (.iload_n 2, 1) := by decide +kernel
theorem own_d1_115 : decode method_4_code 115 = .ok (.iconst 1, 1) := by decide +kernel
theorem own_d1_116 : decode method_4_code 116 = .ok (.if_icmp .le 12, 3) := by decide +kernel
theorem own_d1_128 : decode method_4_code 128 = .ok (.iload_n 2, 1) := by decide +kernel
theorem own_d1_129 : decode method_4_code 129 = .ok (.iconst 2, 1) := by decide +kernel
theorem own_d1_130 : decode method_4_code 130 = .ok (.if_icmp .le 12, 3) := by decide +kernel
theorem own_d1_142 : decode method_4_code 142 = .ok (.iload_n 2, 1) := by decide +kernel
theorem own_d1_143 : decode method_4_code 143 = .ok (.iconst 3, 1) := by decide +kernel
theorem own_d1_144 : decode method_4_code 144 = .ok (.if_icmp .le 12, 3) := by decide +kernel
theorem own_d1_156 : decode method_4_code 156 = .ok (.iload_n 2, 1) := by decide +kernel
theorem own_d1_157 : decode method_4_code 157 = .ok (.iconst 4, 1) := by decide +kernel
theorem own_d1_158 : decode method_4_code 158 = .ok (.if_icmp .le 12, 3) := by decide +kernel
theorem own_d1_170 : decode method_4_code 170 = .ok (.iload_n 2, 1) := by decide +kernel
theorem own_d1_171 : decode method_4_code 171 = .ok (.iconst 5, 1) := by decide +kernel
theorem own_d1_172 : decode method_4_code 172 = .ok (.if_icmp .le 12, 3) := by decide +kernel
theorem own_d1_184 : decode method_4_code 184 = .ok (.iload_n 2, 1) := by decide +kernel
theorem own_d1_185 : decode method_4_code 185 = .ok (.bipush 6, 2) := by decide +kernel
theorem own_d1_187 : decode method_4_code 187 = .ok (.if_icmp .le 13, 3) := by decide +kernel
theorem own_d1_200 : decode method_4_code 200 = .ok (.iload_n 2, 1) := by decide +kernel
theorem own_d1_201 : decode method_4_code 201 = .ok (.bipush 7, 2) := by decide +kernel
theorem own_d1_203 : decode method_4_code 203 = .ok (.if_icmp .le 13, 3) := by decide +kernel
theorem own_d1_216 : decode method_4_code 216 = .ok (.aload_n 3, 1) := by decide +kernel
theorem own_d1_217 : decode method_4_code 217 = .ok (.areturn, 1) := by decide +kernel
theorem own_ef_own_rm1_0 (m : MethodId) (x0 : Int64) : entryFrame m #[(.long x0), (.int (0 : Int32))] 4 = mkF m 0 #[.val (.long x0), .second, .val (.int (0 : Int32)), .unset] [] := by first | (simp [entryFrame, mkF, argsToLocals, Value.category]; done) | rfl
def own_Q_own_rm1_0 (Z : State) (x0 : Int64) (h0 : Heap) (n0 : Nat) (v : Option Value) (h : Heap) : Prop := ∃ b : Addr, v = some (.ref b) ∧ Keep h0 h [] ∧ own_A Z h b .byte []
set_option maxRecDepth 65536 in
set_option maxHeartbeats 40000000 in
theorem own_rm1_0 (l : Launch) (Z : State) (a0 : Array Value) (hw : ∀ d ∈ tables_1, d.before a0 Z = true) (ws : List Jvm.Cond) (x0 : Int64)  (h0 : Heap) (n0 : Nat) (Z0 : n0 ≤ h0.size)  :
    own_Con l Z (⟨"com/example/tagwire/tagwire/wire/BytesStartsWithPinLaw", "prefixOf", "(JI)[B"⟩ : MethodName) method_4_code 4 (some (.array .byte)) ws ({ frames := 0, cells := 1, slots := 0, locals := 0 } : Room) #[(.long x0), (.int (0 : Int32))] h0 n0 (own_Q_own_rm1_0 Z x0 h0 n0) := by
  refine own_body (plainFor_of_name own_pn0) ?_
  intro p e s m below meth c T0 hx hZ hby hml hown hnm hret hlk Y0
  replace hown : s.vm.findClass "com/example/tagwire/tagwire/wire/BytesStartsWithPinLaw" = some m.cls := hown
  replace hnm : meth.name = "prefixOf" := hnm
  rw [own_ef_own_rm1_0 m x0]
  show own_Ends _ _ _ _ (T0.setTop (mkF m 0 #[.val (.long x0), .second, .val (.int (0 : Int32)), .unset] []))
  refine own_st (fun t_ => XS.iloadN (own_here Y0) hx rfl (hb hby own_d1_0) rfl) ?_
  show own_Ends _ _ _ _ (T0.setTop (mkF m 1 #[.val (.long x0), .second, .val (.int (0 : Int32)), .unset] [(.int (0 : Int32))]))
  refine own_st (fun t_ => XS.ifNo (own_here Y0) hx rfl (hb hby own_d1_1) rfl (XT.i0_ne_f (by decide))) ?_
  show own_Ends _ _ _ _ (T0.setTop (mkF m 4 #[.val (.long x0), .second, .val (.int (0 : Int32)), .unset] []))
  refine own_st (fun t_ => XS.iconst (own_here Y0) hx rfl (hb hby own_d1_4) ) ?_
  show own_Ends _ _ _ _ (T0.setTop (mkF m 5 #[.val (.long x0), .second, .val (.int (0 : Int32)), .unset] [(.int (0 : Int32))]))
  refine own_newP Y0 hx hZ (hw _ (List.mem_of_getElem? (i := 0) rfl)) rfl (hb hby own_d1_5) rfl (by decide) (nz := 0) (cap := 0) (by decide) (by decide) (by decide) (by decide) (by decide) (ty := .byte) rfl (fun T1 h3 b6 eb7 Y2 E4 A5 => ?_)
  have g8 : n0 ≤ b6 := by rw [eb7]; exact Z0
  replace A5 : own_A Z h3 b6 .byte [] := A5
  show own_Ends _ _ _ _ (T1.setTop (mkF m 7 #[.val (.long x0), .second, .val (.int (0 : Int32)), .unset] [(.ref b6)]))
  refine own_st (fun t_ => XS.astoreN (own_here Y2) hx rfl (hb hby own_d1_7) rfl rfl (l' := #[.val (.long x0), .second, .val (.int (0 : Int32)), .val (.ref b6)]) rfl) ?_
  show own_Ends _ _ _ _ (T1.setTop (mkF m 8 #[.val (.long x0), .second, .val (.int (0 : Int32)), .val (.ref b6)] []))
  refine own_st (fun t_ => XS.goto (own_here Y2) hx rfl (pc0 := 8) (pc' := 104) rfl (hb hby own_d1_8) (by decide) (by decide)) ?_
  show own_Ends _ _ _ _ (T1.setTop (mkF m 104 #[.val (.long x0), .second, .val (.int (0 : Int32)), .val (.ref b6)] []))
  refine own_st (fun t_ => XS.iloadN (own_here Y2) hx rfl (hb hby own_d1_104) rfl) ?_
  show own_Ends _ _ _ _ (T1.setTop (mkF m 105 #[.val (.long x0), .second, .val (.int (0 : Int32)), .val (.ref b6)] [(.int (0 : Int32))]))
  refine own_st (fun t_ => XS.ifYes (own_here Y2) hx rfl (pc0 := 105) (pc' := 114) rfl (hb hby own_d1_105) rfl (XT.i0_le_t (by decide)) (by decide) (by decide)) ?_
  show own_Ends _ _ _ _ (T1.setTop (mkF m 114 #[.val (.long x0), .second, .val (.int (0 : Int32)), .val (.ref b6)] []))
  refine own_st (fun t_ => XS.iloadN (own_here Y2) hx rfl (hb hby own_d1_114) rfl) ?_
  show own_Ends _ _ _ _ (T1.setTop (mkF m 115 #[.val (.long x0), .second, .val (.int (0 : Int32)), .val (.ref b6)] [(.int (0 : Int32))]))
  refine own_st (fun t_ => XS.iconst (own_here Y2) hx rfl (hb hby own_d1_115) ) ?_
  show own_Ends _ _ _ _ (T1.setTop (mkF m 116 #[.val (.long x0), .second, .val (.int (0 : Int32)), .val (.ref b6)] [(.int (1 : Int32)), (.int (0 : Int32))]))
  refine own_st (fun t_ => XS.icmpYes (own_here Y2) hx rfl (pc0 := 116) (pc' := 128) rfl (hb hby own_d1_116) rfl (XT.ii_le_t (by decide)) (by decide) (by decide)) ?_
  show own_Ends _ _ _ _ (T1.setTop (mkF m 128 #[.val (.long x0), .second, .val (.int (0 : Int32)), .val (.ref b6)] []))
  refine own_st (fun t_ => XS.iloadN (own_here Y2) hx rfl (hb hby own_d1_128) rfl) ?_
  show own_Ends _ _ _ _ (T1.setTop (mkF m 129 #[.val (.long x0), .second, .val (.int (0 : Int32)), .val (.ref b6)] [(.int (0 : Int32))]))
  refine own_st (fun t_ => XS.iconst (own_here Y2) hx rfl (hb hby own_d1_129) ) ?_
  show own_Ends _ _ _ _ (T1.setTop (mkF m 130 #[.val (.long x0), .second, .val (.int (0 : Int32)), .val (.ref b6)] [(.int (2 : Int32)), (.int (0 : Int32))]))
  refine own_st (fun t_ => XS.icmpYes (own_here Y2) hx rfl (pc0 := 130) (pc' := 142) rfl (hb hby own_d1_130) rfl (XT.ii_le_t (by decide)) (by decide) (by decide)) ?_
  show own_Ends _ _ _ _ (T1.setTop (mkF m 142 #[.val (.long x0), .second, .val (.int (0 : Int32)), .val (.ref b6)] []))
  refine own_st (fun t_ => XS.iloadN (own_here Y2) hx rfl (hb hby own_d1_142) rfl) ?_
  show own_Ends _ _ _ _ (T1.setTop (mkF m 143 #[.val (.long x0), .second, .val (.int (0 : Int32)), .val (.ref b6)] [(.int (0 : Int32))]))
  refine own_st (fun t_ => XS.iconst (own_here Y2) hx rfl (hb hby own_d1_143) ) ?_
  show own_Ends _ _ _ _ (T1.setTop (mkF m 144 #[.val (.long x0), .second, .val (.int (0 : Int32)), .val (.ref b6)] [(.int (3 : Int32)), (.int (0 : Int32))]))
  refine own_st (fun t_ => XS.icmpYes (own_here Y2) hx rfl (pc0 := 144) (pc' := 156) rfl (hb hby own_d1_144) rfl (XT.ii_le_t (by decide)) (by decide) (by decide)) ?_
  show own_Ends _ _ _ _ (T1.setTop (mkF m 156 #[.val (.long x0), .second, .val (.int (0 : Int32)), .val (.ref b6)] []))
  refine own_st (fun t_ => XS.iloadN (own_here Y2) hx rfl (hb hby own_d1_156) rfl) ?_
  show own_Ends _ _ _ _ (T1.setTop (mkF m 157 #[.val (.long x0), .second, .val (.int (0 : Int32)), .val (.ref b6)] [(.int (0 : Int32))]))
  refine own_st (fun t_ => XS.iconst (own_here Y2) hx rfl (hb hby own_d1_157) ) ?_
  show own_Ends _ _ _ _ (T1.setTop (mkF m 158 #[.val (.long x0), .second, .val (.int (0 : Int32)), .val (.ref b6)] [(.int (4 : Int32)), (.int (0 : Int32))]))
  refine own_st (fun t_ => XS.icmpYes (own_here Y2) hx rfl (pc0 := 158) (pc' := 170) rfl (hb hby own_d1_158) rfl (XT.ii_le_t (by decide)) (by decide) (by decide)) ?_
  show own_Ends _ _ _ _ (T1.setTop (mkF m 170 #[.val (.long x0), .second, .val (.int (0 : Int32)), .val (.ref b6)] []))
  refine own_st (fun t_ => XS.iloadN (own_here Y2) hx rfl (hb hby own_d1_170) rfl) ?_
  show own_Ends _ _ _ _ (T1.setTop (mkF m 171 #[.val (.long x0), .second, .val (.int (0 : Int32)), .val (.ref b6)] [(.int (0 : Int32))]))
  refine own_st (fun t_ => XS.iconst (own_here Y2) hx rfl (hb hby own_d1_171) ) ?_
  show own_Ends _ _ _ _ (T1.setTop (mkF m 172 #[.val (.long x0), .second, .val (.int (0 : Int32)), .val (.ref b6)] [(.int (5 : Int32)), (.int (0 : Int32))]))
  refine own_st (fun t_ => XS.icmpYes (own_here Y2) hx rfl (pc0 := 172) (pc' := 184) rfl (hb hby own_d1_172) rfl (XT.ii_le_t (by decide)) (by decide) (by decide)) ?_
  show own_Ends _ _ _ _ (T1.setTop (mkF m 184 #[.val (.long x0), .second, .val (.int (0 : Int32)), .val (.ref b6)] []))
  refine own_st (fun t_ => XS.iloadN (own_here Y2) hx rfl (hb hby own_d1_184) rfl) ?_
  show own_Ends _ _ _ _ (T1.setTop (mkF m 185 #[.val (.long x0), .second, .val (.int (0 : Int32)), .val (.ref b6)] [(.int (0 : Int32))]))
  refine own_st (fun t_ => XS.bipush (own_here Y2) hx rfl (hb hby own_d1_185) ) ?_
  show own_Ends _ _ _ _ (T1.setTop (mkF m 187 #[.val (.long x0), .second, .val (.int (0 : Int32)), .val (.ref b6)] [(.int (6 : Int32)), (.int (0 : Int32))]))
  refine own_st (fun t_ => XS.icmpYes (own_here Y2) hx rfl (pc0 := 187) (pc' := 200) rfl (hb hby own_d1_187) rfl (XT.ii_le_t (by decide)) (by decide) (by decide)) ?_
  show own_Ends _ _ _ _ (T1.setTop (mkF m 200 #[.val (.long x0), .second, .val (.int (0 : Int32)), .val (.ref b6)] []))
  refine own_st (fun t_ => XS.iloadN (own_here Y2) hx rfl (hb hby own_d1_200) rfl) ?_
  show own_Ends _ _ _ _ (T1.setTop (mkF m 201 #[.val (.long x0), .second, .val (.int (0 : Int32)), .val (.ref b6)] [(.int (0 : Int32))]))
  refine own_st (fun t_ => XS.bipush (own_here Y2) hx rfl (hb hby own_d1_201) ) ?_
  show own_Ends _ _ _ _ (T1.setTop (mkF m 203 #[.val (.long x0), .second, .val (.int (0 : Int32)), .val (.ref b6)] [(.int (7 : Int32)), (.int (0 : Int32))]))
  refine own_st (fun t_ => XS.icmpYes (own_here Y2) hx rfl (pc0 := 203) (pc' := 216) rfl (hb hby own_d1_203) rfl (XT.ii_le_t (by decide)) (by decide) (by decide)) ?_
  show own_Ends _ _ _ _ (T1.setTop (mkF m 216 #[.val (.long x0), .second, .val (.int (0 : Int32)), .val (.ref b6)] []))
  refine own_st (fun t_ => XS.aloadN (own_here Y2) hx rfl (hb hby own_d1_216) rfl rfl) ?_
  show own_Ends _ _ _ _ (T1.setTop (mkF m 217 #[.val (.long x0), .second, .val (.int (0 : Int32)), .val (.ref b6)] [(.ref b6)]))
  have K9 : Keep h0 h3 [] := (Keep.refl h0 []).ext E4
  refine own_retA Y2 hx hlk hret rfl rfl rfl (hb hby own_d1_217) (by decide) (by decide) ?_
  exact ⟨_, rfl, K9, by have q := A5; exact q⟩
theorem own_d1_11 : decode method_4_code 11 = .ok (.iload_n 2, 1) := by decide +kernel
theorem own_d1_12 : decode method_4_code 12 = .ok (.iconst 1, 1) := by decide +kernel
theorem own_d1_13 : decode method_4_code 13 = .ok (.if_icmp .ne 10, 3) := by decide +kernel
theorem own_d1_16 : decode method_4_code 16 = .ok (.iconst 1, 1) := by decide +kernel
theorem own_d1_17 : decode method_4_code 17 = .ok (.newarray .byte, 2) := by decide +kernel
theorem own_d1_19 : decode method_4_code 19 = .ok (.astore_n 3, 1) := by decide +kernel
theorem own_d1_20 : decode method_4_code 20 = .ok (.goto 84, 3) := by decide +kernel
theorem own_d1_108 : decode method_4_code 108 = .ok (.aload_n 3, 1) := by decide +kernel
theorem own_d1_109 : decode method_4_code 109 = .ok (.iconst 0, 1) := by decide +kernel
theorem own_d1_110 : decode method_4_code 110 = .ok (.lload_n 0, 1) := by decide +kernel
theorem own_d1_111 : decode method_4_code 111 = .ok (.l2i, 1) := by decide +kernel
theorem own_d1_112 : decode method_4_code 112 = .ok (.i2b, 1) := by decide +kernel
theorem own_d1_113 : decode method_4_code 113 = .ok (.bastore, 1) := by decide +kernel
theorem own_ef_own_rm1_1 (m : MethodId) (x0 : Int64) : entryFrame m #[(.long x0), (.int (1 : Int32))] 4 = mkF m 0 #[.val (.long x0), .second, .val (.int (1 : Int32)), .unset] [] := by first | (simp [entryFrame, mkF, argsToLocals, Value.category]; done) | rfl
def own_Q_own_rm1_1 (Z : State) (x0 : Int64) (h0 : Heap) (n0 : Nat) (v : Option Value) (h : Heap) : Prop := ∃ b : Addr, v = some (.ref b) ∧ Keep h0 h [] ∧ own_A Z h b .byte [(.int (x0.toInt32.toInt8.toInt32))]
set_option maxRecDepth 65536 in
set_option maxHeartbeats 40000000 in
theorem own_rm1_1 (l : Launch) (Z : State) (a0 : Array Value) (hw : ∀ d ∈ tables_1, d.before a0 Z = true) (ws : List Jvm.Cond) (x0 : Int64)  (h0 : Heap) (n0 : Nat) (Z0 : n0 ≤ h0.size)  :
    own_Con l Z (⟨"com/example/tagwire/tagwire/wire/BytesStartsWithPinLaw", "prefixOf", "(JI)[B"⟩ : MethodName) method_4_code 4 (some (.array .byte)) ws ({ frames := 0, cells := 1, slots := 1, locals := 0 } : Room) #[(.long x0), (.int (1 : Int32))] h0 n0 (own_Q_own_rm1_1 Z x0 h0 n0) := by
  refine own_body (plainFor_of_name own_pn0) ?_
  intro p e s m below meth c T0 hx hZ hby hml hown hnm hret hlk Y0
  replace hown : s.vm.findClass "com/example/tagwire/tagwire/wire/BytesStartsWithPinLaw" = some m.cls := hown
  replace hnm : meth.name = "prefixOf" := hnm
  rw [own_ef_own_rm1_1 m x0]
  show own_Ends _ _ _ _ (T0.setTop (mkF m 0 #[.val (.long x0), .second, .val (.int (1 : Int32)), .unset] []))
  refine own_st (fun t_ => XS.iloadN (own_here Y0) hx rfl (hb hby own_d1_0) rfl) ?_
  show own_Ends _ _ _ _ (T0.setTop (mkF m 1 #[.val (.long x0), .second, .val (.int (1 : Int32)), .unset] [(.int (1 : Int32))]))
  refine own_st (fun t_ => XS.ifYes (own_here Y0) hx rfl (pc0 := 1) (pc' := 11) rfl (hb hby own_d1_1) rfl (XT.i0_ne_t (by decide)) (by decide) (by decide)) ?_
  show own_Ends _ _ _ _ (T0.setTop (mkF m 11 #[.val (.long x0), .second, .val (.int (1 : Int32)), .unset] []))
  refine own_st (fun t_ => XS.iloadN (own_here Y0) hx rfl (hb hby own_d1_11) rfl) ?_
  show own_Ends _ _ _ _ (T0.setTop (mkF m 12 #[.val (.long x0), .second, .val (.int (1 : Int32)), .unset] [(.int (1 : Int32))]))
  refine own_st (fun t_ => XS.iconst (own_here Y0) hx rfl (hb hby own_d1_12) ) ?_
  show own_Ends _ _ _ _ (T0.setTop (mkF m 13 #[.val (.long x0), .second, .val (.int (1 : Int32)), .unset] [(.int (1 : Int32)), (.int (1 : Int32))]))
  refine own_st (fun t_ => XS.icmpNo (own_here Y0) hx rfl (hb hby own_d1_13) rfl (XT.ii_ne_f (by decide))) ?_
  show own_Ends _ _ _ _ (T0.setTop (mkF m 16 #[.val (.long x0), .second, .val (.int (1 : Int32)), .unset] []))
  refine own_st (fun t_ => XS.iconst (own_here Y0) hx rfl (hb hby own_d1_16) ) ?_
  show own_Ends _ _ _ _ (T0.setTop (mkF m 17 #[.val (.long x0), .second, .val (.int (1 : Int32)), .unset] [(.int (1 : Int32))]))
  refine own_newP Y0 hx hZ (hw _ (List.mem_of_getElem? (i := 0) rfl)) rfl (hb hby own_d1_17) rfl (by decide) (nz := 1) (cap := 1) (by decide) (by decide) (by decide) (by decide) (by decide) (ty := .byte) rfl (fun T10 h12 b15 eb16 Y11 E13 A14 => ?_)
  have g17 : n0 ≤ b15 := by rw [eb16]; exact Z0
  replace A14 : own_A Z h12 b15 .byte [(.int (0 : Int32))] := A14
  show own_Ends _ _ _ _ (T10.setTop (mkF m 19 #[.val (.long x0), .second, .val (.int (1 : Int32)), .unset] [(.ref b15)]))
  refine own_st (fun t_ => XS.astoreN (own_here Y11) hx rfl (hb hby own_d1_19) rfl rfl (l' := #[.val (.long x0), .second, .val (.int (1 : Int32)), .val (.ref b15)]) rfl) ?_
  show own_Ends _ _ _ _ (T10.setTop (mkF m 20 #[.val (.long x0), .second, .val (.int (1 : Int32)), .val (.ref b15)] []))
  refine own_st (fun t_ => XS.goto (own_here Y11) hx rfl (pc0 := 20) (pc' := 104) rfl (hb hby own_d1_20) (by decide) (by decide)) ?_
  show own_Ends _ _ _ _ (T10.setTop (mkF m 104 #[.val (.long x0), .second, .val (.int (1 : Int32)), .val (.ref b15)] []))
  refine own_st (fun t_ => XS.iloadN (own_here Y11) hx rfl (hb hby own_d1_104) rfl) ?_
  show own_Ends _ _ _ _ (T10.setTop (mkF m 105 #[.val (.long x0), .second, .val (.int (1 : Int32)), .val (.ref b15)] [(.int (1 : Int32))]))
  refine own_st (fun t_ => XS.ifNo (own_here Y11) hx rfl (hb hby own_d1_105) rfl (XT.i0_le_f (by decide))) ?_
  show own_Ends _ _ _ _ (T10.setTop (mkF m 108 #[.val (.long x0), .second, .val (.int (1 : Int32)), .val (.ref b15)] []))
  refine own_st (fun t_ => XS.aloadN (own_here Y11) hx rfl (hb hby own_d1_108) rfl rfl) ?_
  show own_Ends _ _ _ _ (T10.setTop (mkF m 109 #[.val (.long x0), .second, .val (.int (1 : Int32)), .val (.ref b15)] [(.ref b15)]))
  refine own_st (fun t_ => XS.iconst (own_here Y11) hx rfl (hb hby own_d1_109) ) ?_
  show own_Ends _ _ _ _ (T10.setTop (mkF m 110 #[.val (.long x0), .second, .val (.int (1 : Int32)), .val (.ref b15)] [(.int (0 : Int32)), (.ref b15)]))
  refine own_st (fun t_ => XS.lloadN (own_here Y11) hx rfl (hb hby own_d1_110) rfl) ?_
  show own_Ends _ _ _ _ (T10.setTop (mkF m 111 #[.val (.long x0), .second, .val (.int (1 : Int32)), .val (.ref b15)] [(.long x0), (.int (0 : Int32)), (.ref b15)]))
  refine own_st (fun t_ => XS.l2i (own_here Y11) hx rfl (hb hby own_d1_111) rfl) ?_
  show own_Ends _ _ _ _ (T10.setTop (mkF m 112 #[.val (.long x0), .second, .val (.int (1 : Int32)), .val (.ref b15)] [(.int (x0.toInt32)), (.int (0 : Int32)), (.ref b15)]))
  refine own_st (fun t_ => XS.i2b (own_here Y11) hx rfl (hb hby own_d1_112) rfl) ?_
  show own_Ends _ _ _ _ (T10.setTop (mkF m 113 #[.val (.long x0), .second, .val (.int (1 : Int32)), .val (.ref b15)] [(.int ((x0.toInt32).toInt8.toInt32)), (.int (0 : Int32)), (.ref b15)]))
  refine own_stB Y11 hx hZ A14 g17 (i := 0) (by decide) (by decide) (Nat.le_of_ble_eq_true rfl) rfl rfl (hb hby own_d1_113) (fun T18 h20 Y19 W21 A22 => ?_)
  replace A22 : own_A Z h20 b15 .byte [(.int (((x0.toInt32).toInt8.toInt32).toInt8.toInt32))] := A22
  show own_Ends _ _ _ _ (T18.setTop (mkF m 114 #[.val (.long x0), .second, .val (.int (1 : Int32)), .val (.ref b15)] []))
  refine own_st (fun t_ => XS.iloadN (own_here Y19) hx rfl (hb hby own_d1_114) rfl) ?_
  show own_Ends _ _ _ _ (T18.setTop (mkF m 115 #[.val (.long x0), .second, .val (.int (1 : Int32)), .val (.ref b15)] [(.int (1 : Int32))]))
  refine own_st (fun t_ => XS.iconst (own_here Y19) hx rfl (hb hby own_d1_115) ) ?_
  show own_Ends _ _ _ _ (T18.setTop (mkF m 116 #[.val (.long x0), .second, .val (.int (1 : Int32)), .val (.ref b15)] [(.int (1 : Int32)), (.int (1 : Int32))]))
  refine own_st (fun t_ => XS.icmpYes (own_here Y19) hx rfl (pc0 := 116) (pc' := 128) rfl (hb hby own_d1_116) rfl (XT.ii_le_t (by decide)) (by decide) (by decide)) ?_
  show own_Ends _ _ _ _ (T18.setTop (mkF m 128 #[.val (.long x0), .second, .val (.int (1 : Int32)), .val (.ref b15)] []))
  refine own_st (fun t_ => XS.iloadN (own_here Y19) hx rfl (hb hby own_d1_128) rfl) ?_
  show own_Ends _ _ _ _ (T18.setTop (mkF m 129 #[.val (.long x0), .second, .val (.int (1 : Int32)), .val (.ref b15)] [(.int (1 : Int32))]))
  refine own_st (fun t_ => XS.iconst (own_here Y19) hx rfl (hb hby own_d1_129) ) ?_
  show own_Ends _ _ _ _ (T18.setTop (mkF m 130 #[.val (.long x0), .second, .val (.int (1 : Int32)), .val (.ref b15)] [(.int (2 : Int32)), (.int (1 : Int32))]))
  refine own_st (fun t_ => XS.icmpYes (own_here Y19) hx rfl (pc0 := 130) (pc' := 142) rfl (hb hby own_d1_130) rfl (XT.ii_le_t (by decide)) (by decide) (by decide)) ?_
  show own_Ends _ _ _ _ (T18.setTop (mkF m 142 #[.val (.long x0), .second, .val (.int (1 : Int32)), .val (.ref b15)] []))
  refine own_st (fun t_ => XS.iloadN (own_here Y19) hx rfl (hb hby own_d1_142) rfl) ?_
  show own_Ends _ _ _ _ (T18.setTop (mkF m 143 #[.val (.long x0), .second, .val (.int (1 : Int32)), .val (.ref b15)] [(.int (1 : Int32))]))
  refine own_st (fun t_ => XS.iconst (own_here Y19) hx rfl (hb hby own_d1_143) ) ?_
  show own_Ends _ _ _ _ (T18.setTop (mkF m 144 #[.val (.long x0), .second, .val (.int (1 : Int32)), .val (.ref b15)] [(.int (3 : Int32)), (.int (1 : Int32))]))
  refine own_st (fun t_ => XS.icmpYes (own_here Y19) hx rfl (pc0 := 144) (pc' := 156) rfl (hb hby own_d1_144) rfl (XT.ii_le_t (by decide)) (by decide) (by decide)) ?_
  show own_Ends _ _ _ _ (T18.setTop (mkF m 156 #[.val (.long x0), .second, .val (.int (1 : Int32)), .val (.ref b15)] []))
  refine own_st (fun t_ => XS.iloadN (own_here Y19) hx rfl (hb hby own_d1_156) rfl) ?_
  show own_Ends _ _ _ _ (T18.setTop (mkF m 157 #[.val (.long x0), .second, .val (.int (1 : Int32)), .val (.ref b15)] [(.int (1 : Int32))]))
  refine own_st (fun t_ => XS.iconst (own_here Y19) hx rfl (hb hby own_d1_157) ) ?_
  show own_Ends _ _ _ _ (T18.setTop (mkF m 158 #[.val (.long x0), .second, .val (.int (1 : Int32)), .val (.ref b15)] [(.int (4 : Int32)), (.int (1 : Int32))]))
  refine own_st (fun t_ => XS.icmpYes (own_here Y19) hx rfl (pc0 := 158) (pc' := 170) rfl (hb hby own_d1_158) rfl (XT.ii_le_t (by decide)) (by decide) (by decide)) ?_
  show own_Ends _ _ _ _ (T18.setTop (mkF m 170 #[.val (.long x0), .second, .val (.int (1 : Int32)), .val (.ref b15)] []))
  refine own_st (fun t_ => XS.iloadN (own_here Y19) hx rfl (hb hby own_d1_170) rfl) ?_
  show own_Ends _ _ _ _ (T18.setTop (mkF m 171 #[.val (.long x0), .second, .val (.int (1 : Int32)), .val (.ref b15)] [(.int (1 : Int32))]))
  refine own_st (fun t_ => XS.iconst (own_here Y19) hx rfl (hb hby own_d1_171) ) ?_
  show own_Ends _ _ _ _ (T18.setTop (mkF m 172 #[.val (.long x0), .second, .val (.int (1 : Int32)), .val (.ref b15)] [(.int (5 : Int32)), (.int (1 : Int32))]))
  refine own_st (fun t_ => XS.icmpYes (own_here Y19) hx rfl (pc0 := 172) (pc' := 184) rfl (hb hby own_d1_172) rfl (XT.ii_le_t (by decide)) (by decide) (by decide)) ?_
  show own_Ends _ _ _ _ (T18.setTop (mkF m 184 #[.val (.long x0), .second, .val (.int (1 : Int32)), .val (.ref b15)] []))
  refine own_st (fun t_ => XS.iloadN (own_here Y19) hx rfl (hb hby own_d1_184) rfl) ?_
  show own_Ends _ _ _ _ (T18.setTop (mkF m 185 #[.val (.long x0), .second, .val (.int (1 : Int32)), .val (.ref b15)] [(.int (1 : Int32))]))
  refine own_st (fun t_ => XS.bipush (own_here Y19) hx rfl (hb hby own_d1_185) ) ?_
  show own_Ends _ _ _ _ (T18.setTop (mkF m 187 #[.val (.long x0), .second, .val (.int (1 : Int32)), .val (.ref b15)] [(.int (6 : Int32)), (.int (1 : Int32))]))
  refine own_st (fun t_ => XS.icmpYes (own_here Y19) hx rfl (pc0 := 187) (pc' := 200) rfl (hb hby own_d1_187) rfl (XT.ii_le_t (by decide)) (by decide) (by decide)) ?_
  show own_Ends _ _ _ _ (T18.setTop (mkF m 200 #[.val (.long x0), .second, .val (.int (1 : Int32)), .val (.ref b15)] []))
  refine own_st (fun t_ => XS.iloadN (own_here Y19) hx rfl (hb hby own_d1_200) rfl) ?_
  show own_Ends _ _ _ _ (T18.setTop (mkF m 201 #[.val (.long x0), .second, .val (.int (1 : Int32)), .val (.ref b15)] [(.int (1 : Int32))]))
  refine own_st (fun t_ => XS.bipush (own_here Y19) hx rfl (hb hby own_d1_201) ) ?_
  show own_Ends _ _ _ _ (T18.setTop (mkF m 203 #[.val (.long x0), .second, .val (.int (1 : Int32)), .val (.ref b15)] [(.int (7 : Int32)), (.int (1 : Int32))]))
  refine own_st (fun t_ => XS.icmpYes (own_here Y19) hx rfl (pc0 := 203) (pc' := 216) rfl (hb hby own_d1_203) rfl (XT.ii_le_t (by decide)) (by decide) (by decide)) ?_
  show own_Ends _ _ _ _ (T18.setTop (mkF m 216 #[.val (.long x0), .second, .val (.int (1 : Int32)), .val (.ref b15)] []))
  refine own_st (fun t_ => XS.aloadN (own_here Y19) hx rfl (hb hby own_d1_216) rfl rfl) ?_
  show own_Ends _ _ _ _ (T18.setTop (mkF m 217 #[.val (.long x0), .second, .val (.int (1 : Int32)), .val (.ref b15)] [(.ref b15)]))
  have K23 : Keep h0 h12 [] := (Keep.refl h0 []).ext E13
  have K24 : Keep h0 h20 [] := K23.wr W21 (Or.inr (by rw [eb16]; exact (Keep.refl h0 []).1))
  refine own_retA Y19 hx hlk hret rfl rfl rfl (hb hby own_d1_217) (by decide) (by decide) ?_
  exact ⟨_, rfl, K24, by have q := A22; simp only [own_bb] at q; exact q⟩
theorem own_d1_23 : decode method_4_code 23 = .ok (.iload_n 2, 1) := by decide +kernel
theorem own_d1_24 : decode method_4_code 24 = .ok (.iconst 2, 1) := by decide +kernel
theorem own_d1_25 : decode method_4_code 25 = .ok (.if_icmp .ne 10, 3) := by decide +kernel
theorem own_d1_28 : decode method_4_code 28 = .ok (.iconst 2, 1) := by decide +kernel
theorem own_d1_29 : decode method_4_code 29 = .ok (.newarray .byte, 2) := by decide +kernel
theorem own_d1_31 : decode method_4_code 31 = .ok (.astore_n 3, 1) := by decide +kernel
theorem own_d1_32 : decode method_4_code 32 = .ok (.goto 72, 3) := by decide +kernel
theorem own_d1_119 : decode method_4_code 119 = .ok (.aload_n 3, 1) := by decide +kernel
theorem own_d1_120 : decode method_4_code 120 = .ok (.iconst 1, 1) := by decide +kernel
theorem own_d1_121 : decode method_4_code 121 = .ok (.lload_n 0, 1) := by decide +kernel
theorem own_d1_122 : decode method_4_code 122 = .ok (.bipush 8, 2) := by decide +kernel
theorem own_d1_124 : decode method_4_code 124 = .ok (.lushr, 1) := by decide +kernel
theorem own_d1_125 : decode method_4_code 125 = .ok (.l2i, 1) := by decide +kernel
theorem own_d1_126 : decode method_4_code 126 = .ok (.i2b, 1) := by decide +kernel
theorem own_d1_127 : decode method_4_code 127 = .ok (.bastore, 1) := by decide +kernel
theorem own_ef_own_rm1_2 (m : MethodId) (x0 : Int64) : entryFrame m #[(.long x0), (.int (2 : Int32))] 4 = mkF m 0 #[.val (.long x0), .second, .val (.int (2 : Int32)), .unset] [] := by first | (simp [entryFrame, mkF, argsToLocals, Value.category]; done) | rfl
def own_Q_own_rm1_2 (Z : State) (x0 : Int64) (h0 : Heap) (n0 : Nat) (v : Option Value) (h : Heap) : Prop := ∃ b : Addr, v = some (.ref b) ∧ Keep h0 h [] ∧ own_A Z h b .byte [(.int (x0.toInt32.toInt8.toInt32)), (.int (((x0.toUInt64 >>> ((8 : Int32) &&& 0x3f).toInt64.toUInt64).toInt64).toInt32.toInt8.toInt32))]
set_option maxRecDepth 65536 in
set_option maxHeartbeats 40000000 in
theorem own_rm1_2 (l : Launch) (Z : State) (a0 : Array Value) (hw : ∀ d ∈ tables_1, d.before a0 Z = true) (ws : List Jvm.Cond) (x0 : Int64)  (h0 : Heap) (n0 : Nat) (Z0 : n0 ≤ h0.size)  :
    own_Con l Z (⟨"com/example/tagwire/tagwire/wire/BytesStartsWithPinLaw", "prefixOf", "(JI)[B"⟩ : MethodName) method_4_code 4 (some (.array .byte)) ws ({ frames := 0, cells := 1, slots := 2, locals := 0 } : Room) #[(.long x0), (.int (2 : Int32))] h0 n0 (own_Q_own_rm1_2 Z x0 h0 n0) := by
  refine own_body (plainFor_of_name own_pn0) ?_
  intro p e s m below meth c T0 hx hZ hby hml hown hnm hret hlk Y0
  replace hown : s.vm.findClass "com/example/tagwire/tagwire/wire/BytesStartsWithPinLaw" = some m.cls := hown
  replace hnm : meth.name = "prefixOf" := hnm
  rw [own_ef_own_rm1_2 m x0]
  show own_Ends _ _ _ _ (T0.setTop (mkF m 0 #[.val (.long x0), .second, .val (.int (2 : Int32)), .unset] []))
  refine own_st (fun t_ => XS.iloadN (own_here Y0) hx rfl (hb hby own_d1_0) rfl) ?_
  show own_Ends _ _ _ _ (T0.setTop (mkF m 1 #[.val (.long x0), .second, .val (.int (2 : Int32)), .unset] [(.int (2 : Int32))]))
  refine own_st (fun t_ => XS.ifYes (own_here Y0) hx rfl (pc0 := 1) (pc' := 11) rfl (hb hby own_d1_1) rfl (XT.i0_ne_t (by decide)) (by decide) (by decide)) ?_
  show own_Ends _ _ _ _ (T0.setTop (mkF m 11 #[.val (.long x0), .second, .val (.int (2 : Int32)), .unset] []))
  refine own_st (fun t_ => XS.iloadN (own_here Y0) hx rfl (hb hby own_d1_11) rfl) ?_
  show own_Ends _ _ _ _ (T0.setTop (mkF m 12 #[.val (.long x0), .second, .val (.int (2 : Int32)), .unset] [(.int (2 : Int32))]))
  refine own_st (fun t_ => XS.iconst (own_here Y0) hx rfl (hb hby own_d1_12) ) ?_
  show own_Ends _ _ _ _ (T0.setTop (mkF m 13 #[.val (.long x0), .second, .val (.int (2 : Int32)), .unset] [(.int (1 : Int32)), (.int (2 : Int32))]))
  refine own_st (fun t_ => XS.icmpYes (own_here Y0) hx rfl (pc0 := 13) (pc' := 23) rfl (hb hby own_d1_13) rfl (XT.ii_ne_t (by decide)) (by decide) (by decide)) ?_
  show own_Ends _ _ _ _ (T0.setTop (mkF m 23 #[.val (.long x0), .second, .val (.int (2 : Int32)), .unset] []))
  refine own_st (fun t_ => XS.iloadN (own_here Y0) hx rfl (hb hby own_d1_23) rfl) ?_
  show own_Ends _ _ _ _ (T0.setTop (mkF m 24 #[.val (.long x0), .second, .val (.int (2 : Int32)), .unset] [(.int (2 : Int32))]))
  refine own_st (fun t_ => XS.iconst (own_here Y0) hx rfl (hb hby own_d1_24) ) ?_
  show own_Ends _ _ _ _ (T0.setTop (mkF m 25 #[.val (.long x0), .second, .val (.int (2 : Int32)), .unset] [(.int (2 : Int32)), (.int (2 : Int32))]))
  refine own_st (fun t_ => XS.icmpNo (own_here Y0) hx rfl (hb hby own_d1_25) rfl (XT.ii_ne_f (by decide))) ?_
  show own_Ends _ _ _ _ (T0.setTop (mkF m 28 #[.val (.long x0), .second, .val (.int (2 : Int32)), .unset] []))
  refine own_st (fun t_ => XS.iconst (own_here Y0) hx rfl (hb hby own_d1_28) ) ?_
  show own_Ends _ _ _ _ (T0.setTop (mkF m 29 #[.val (.long x0), .second, .val (.int (2 : Int32)), .unset] [(.int (2 : Int32))]))
  refine own_newP Y0 hx hZ (hw _ (List.mem_of_getElem? (i := 0) rfl)) rfl (hb hby own_d1_29) rfl (by decide) (nz := 2) (cap := 2) (by decide) (by decide) (by decide) (by decide) (by decide) (ty := .byte) rfl (fun T25 h27 b30 eb31 Y26 E28 A29 => ?_)
  have g32 : n0 ≤ b30 := by rw [eb31]; exact Z0
  replace A29 : own_A Z h27 b30 .byte [(.int (0 : Int32)), (.int (0 : Int32))] := A29
  show own_Ends _ _ _ _ (T25.setTop (mkF m 31 #[.val (.long x0), .second, .val (.int (2 : Int32)), .unset] [(.ref b30)]))
  refine own_st (fun t_ => XS.astoreN (own_here Y26) hx rfl (hb hby own_d1_31) rfl rfl (l' := #[.val (.long x0), .second, .val (.int (2 : Int32)), .val (.ref b30)]) rfl) ?_
  show own_Ends _ _ _ _ (T25.setTop (mkF m 32 #[.val (.long x0), .second, .val (.int (2 : Int32)), .val (.ref b30)] []))
  refine own_st (fun t_ => XS.goto (own_here Y26) hx rfl (pc0 := 32) (pc' := 104) rfl (hb hby own_d1_32) (by decide) (by decide)) ?_
  show own_Ends _ _ _ _ (T25.setTop (mkF m 104 #[.val (.long x0), .second, .val (.int (2 : Int32)), .val (.ref b30)] []))
  refine own_st (fun t_ => XS.iloadN (own_here Y26) hx rfl (hb hby own_d1_104) rfl) ?_
  show own_Ends _ _ _ _ (T25.setTop (mkF m 105 #[.val (.long x0), .second, .val (.int (2 : Int32)), .val (.ref b30)] [(.int (2 : Int32))]))
  refine own_st (fun t_ => XS.ifNo (own_here Y26) hx rfl (hb hby own_d1_105) rfl (XT.i0_le_f (by decide))) ?_
  show own_Ends _ _ _ _ (T25.setTop (mkF m 108 #[.val (.long x0), .second, .val (.int (2 : Int32)), .val (.ref b30)] []))
  refine own_st (fun t_ => XS.aloadN (own_here Y26) hx rfl (hb hby own_d1_108) rfl rfl) ?_
  show own_Ends _ _ _ _ (T25.setTop (mkF m 109 #[.val (.long x0), .second, .val (.int (2 : Int32)), .val (.ref b30)] [(.ref b30)]))
  refine own_st (fun t_ => XS.iconst (own_here Y26) hx rfl (hb hby own_d1_109) ) ?_
  show own_Ends _ _ _ _ (T25.setTop (mkF m 110 #[.val (.long x0), .second, .val (.int (2 : Int32)), .val (.ref b30)] [(.int (0 : Int32)), (.ref b30)]))
  refine own_st (fun t_ => XS.lloadN (own_here Y26) hx rfl (hb hby own_d1_110) rfl) ?_
  show own_Ends _ _ _ _ (T25.setTop (mkF m 111 #[.val (.long x0), .second, .val (.int (2 : Int32)), .val (.ref b30)] [(.long x0), (.int (0 : Int32)), (.ref b30)]))
  refine own_st (fun t_ => XS.l2i (own_here Y26) hx rfl (hb hby own_d1_111) rfl) ?_
  show own_Ends _ _ _ _ (T25.setTop (mkF m 112 #[.val (.long x0), .second, .val (.int (2 : Int32)), .val (.ref b30)] [(.int (x0.toInt32)), (.int (0 : Int32)), (.ref b30)]))
  refine own_st (fun t_ => XS.i2b (own_here Y26) hx rfl (hb hby own_d1_112) rfl) ?_
  show own_Ends _ _ _ _ (T25.setTop (mkF m 113 #[.val (.long x0), .second, .val (.int (2 : Int32)), .val (.ref b30)] [(.int ((x0.toInt32).toInt8.toInt32)), (.int (0 : Int32)), (.ref b30)]))
  refine own_stB Y26 hx hZ A29 g32 (i := 0) (by decide) (by decide) (Nat.le_of_ble_eq_true rfl) rfl rfl (hb hby own_d1_113) (fun T33 h35 Y34 W36 A37 => ?_)
  replace A37 : own_A Z h35 b30 .byte [(.int (((x0.toInt32).toInt8.toInt32).toInt8.toInt32)), (.int (0 : Int32))] := A37
  show own_Ends _ _ _ _ (T33.setTop (mkF m 114 #[.val (.long x0), .second, .val (.int (2 : Int32)), .val (.ref b30)] []))
  refine own_st (fun t_ => XS.iloadN (own_here Y34) hx rfl (hb hby own_d1_114) rfl) ?_
  show own_Ends _ _ _ _ (T33.setTop (mkF m 115 #[.val (.long x0), .second, .val (.int (2 : Int32)), .val (.ref b30)] [(.int (2 : Int32))]))
  refine own_st (fun t_ => XS.iconst (own_here Y34) hx rfl (hb hby own_d1_115) ) ?_
  show own_Ends _ _ _ _ (T33.setTop (mkF m 116 #[.val (.long x0), .second, .val (.int (2 : Int32)), .val (.ref b30)] [(.int (1 : Int32)), (.int (2 : Int32))]))
  refine own_st (fun t_ => XS.icmpNo (own_here Y34) hx rfl (hb hby own_d1_116) rfl (XT.ii_le_f (by decide))) ?_
  show own_Ends _ _ _ _ (T33.setTop (mkF m 119 #[.val (.long x0), .second, .val (.int (2 : Int32)), .val (.ref b30)] []))
  refine own_st (fun t_ => XS.aloadN (own_here Y34) hx rfl (hb hby own_d1_119) rfl rfl) ?_
  show own_Ends _ _ _ _ (T33.setTop (mkF m 120 #[.val (.long x0), .second, .val (.int (2 : Int32)), .val (.ref b30)] [(.ref b30)]))
  refine own_st (fun t_ => XS.iconst (own_here Y34) hx rfl (hb hby own_d1_120) ) ?_
  show own_Ends _ _ _ _ (T33.setTop (mkF m 121 #[.val (.long x0), .second, .val (.int (2 : Int32)), .val (.ref b30)] [(.int (1 : Int32)), (.ref b30)]))
  refine own_st (fun t_ => XS.lloadN (own_here Y34) hx rfl (hb hby own_d1_121) rfl) ?_
  show own_Ends _ _ _ _ (T33.setTop (mkF m 122 #[.val (.long x0), .second, .val (.int (2 : Int32)), .val (.ref b30)] [(.long x0), (.int (1 : Int32)), (.ref b30)]))
  refine own_st (fun t_ => XS.bipush (own_here Y34) hx rfl (hb hby own_d1_122) ) ?_
  show own_Ends _ _ _ _ (T33.setTop (mkF m 124 #[.val (.long x0), .second, .val (.int (2 : Int32)), .val (.ref b30)] [(.int (8 : Int32)), (.long x0), (.int (1 : Int32)), (.ref b30)]))
  refine own_st (fun t_ => XS.lushr (own_here Y34) hx rfl (hb hby own_d1_124) rfl) ?_
  show own_Ends _ _ _ _ (T33.setTop (mkF m 125 #[.val (.long x0), .second, .val (.int (2 : Int32)), .val (.ref b30)] [(.long ((x0.toUInt64 >>> ((8 : Int32) &&& 0x3f).toInt64.toUInt64).toInt64)), (.int (1 : Int32)), (.ref b30)]))
  refine own_st (fun t_ => XS.l2i (own_here Y34) hx rfl (hb hby own_d1_125) rfl) ?_
  show own_Ends _ _ _ _ (T33.setTop (mkF m 126 #[.val (.long x0), .second, .val (.int (2 : Int32)), .val (.ref b30)] [(.int (((x0.toUInt64 >>> ((8 : Int32) &&& 0x3f).toInt64.toUInt64).toInt64).toInt32)), (.int (1 : Int32)), (.ref b30)]))
  refine own_st (fun t_ => XS.i2b (own_here Y34) hx rfl (hb hby own_d1_126) rfl) ?_
  show own_Ends _ _ _ _ (T33.setTop (mkF m 127 #[.val (.long x0), .second, .val (.int (2 : Int32)), .val (.ref b30)] [(.int ((((x0.toUInt64 >>> ((8 : Int32) &&& 0x3f).toInt64.toUInt64).toInt64).toInt32).toInt8.toInt32)), (.int (1 : Int32)), (.ref b30)]))
  refine own_stB Y34 hx hZ A37 g32 (i := 1) (by decide) (by decide) (Nat.le_of_ble_eq_true rfl) rfl rfl (hb hby own_d1_127) (fun T38 h40 Y39 W41 A42 => ?_)
  replace A42 : own_A Z h40 b30 .byte [(.int (((x0.toInt32).toInt8.toInt32).toInt8.toInt32)), (.int (((((x0.toUInt64 >>> ((8 : Int32) &&& 0x3f).toInt64.toUInt64).toInt64).toInt32).toInt8.toInt32).toInt8.toInt32))] := A42
  show own_Ends _ _ _ _ (T38.setTop (mkF m 128 #[.val (.long x0), .second, .val (.int (2 : Int32)), .val (.ref b30)] []))
  refine own_st (fun t_ => XS.iloadN (own_here Y39) hx rfl (hb hby own_d1_128) rfl) ?_
  show own_Ends _ _ _ _ (T38.setTop (mkF m 129 #[.val (.long x0), .second, .val (.int (2 : Int32)), .val (.ref b30)] [(.int (2 : Int32))]))
  refine own_st (fun t_ => XS.iconst (own_here Y39) hx rfl (hb hby own_d1_129) ) ?_
  show own_Ends _ _ _ _ (T38.setTop (mkF m 130 #[.val (.long x0), .second, .val (.int (2 : Int32)), .val (.ref b30)] [(.int (2 : Int32)), (.int (2 : Int32))]))
  refine own_st (fun t_ => XS.icmpYes (own_here Y39) hx rfl (pc0 := 130) (pc' := 142) rfl (hb hby own_d1_130) rfl (XT.ii_le_t (by decide)) (by decide) (by decide)) ?_
  show own_Ends _ _ _ _ (T38.setTop (mkF m 142 #[.val (.long x0), .second, .val (.int (2 : Int32)), .val (.ref b30)] []))
  refine own_st (fun t_ => XS.iloadN (own_here Y39) hx rfl (hb hby own_d1_142) rfl) ?_
  show own_Ends _ _ _ _ (T38.setTop (mkF m 143 #[.val (.long x0), .second, .val (.int (2 : Int32)), .val (.ref b30)] [(.int (2 : Int32))]))
  refine own_st (fun t_ => XS.iconst (own_here Y39) hx rfl (hb hby own_d1_143) ) ?_
  show own_Ends _ _ _ _ (T38.setTop (mkF m 144 #[.val (.long x0), .second, .val (.int (2 : Int32)), .val (.ref b30)] [(.int (3 : Int32)), (.int (2 : Int32))]))
  refine own_st (fun t_ => XS.icmpYes (own_here Y39) hx rfl (pc0 := 144) (pc' := 156) rfl (hb hby own_d1_144) rfl (XT.ii_le_t (by decide)) (by decide) (by decide)) ?_
  show own_Ends _ _ _ _ (T38.setTop (mkF m 156 #[.val (.long x0), .second, .val (.int (2 : Int32)), .val (.ref b30)] []))
  refine own_st (fun t_ => XS.iloadN (own_here Y39) hx rfl (hb hby own_d1_156) rfl) ?_
  show own_Ends _ _ _ _ (T38.setTop (mkF m 157 #[.val (.long x0), .second, .val (.int (2 : Int32)), .val (.ref b30)] [(.int (2 : Int32))]))
  refine own_st (fun t_ => XS.iconst (own_here Y39) hx rfl (hb hby own_d1_157) ) ?_
  show own_Ends _ _ _ _ (T38.setTop (mkF m 158 #[.val (.long x0), .second, .val (.int (2 : Int32)), .val (.ref b30)] [(.int (4 : Int32)), (.int (2 : Int32))]))
  refine own_st (fun t_ => XS.icmpYes (own_here Y39) hx rfl (pc0 := 158) (pc' := 170) rfl (hb hby own_d1_158) rfl (XT.ii_le_t (by decide)) (by decide) (by decide)) ?_
  show own_Ends _ _ _ _ (T38.setTop (mkF m 170 #[.val (.long x0), .second, .val (.int (2 : Int32)), .val (.ref b30)] []))
  refine own_st (fun t_ => XS.iloadN (own_here Y39) hx rfl (hb hby own_d1_170) rfl) ?_
  show own_Ends _ _ _ _ (T38.setTop (mkF m 171 #[.val (.long x0), .second, .val (.int (2 : Int32)), .val (.ref b30)] [(.int (2 : Int32))]))
  refine own_st (fun t_ => XS.iconst (own_here Y39) hx rfl (hb hby own_d1_171) ) ?_
  show own_Ends _ _ _ _ (T38.setTop (mkF m 172 #[.val (.long x0), .second, .val (.int (2 : Int32)), .val (.ref b30)] [(.int (5 : Int32)), (.int (2 : Int32))]))
  refine own_st (fun t_ => XS.icmpYes (own_here Y39) hx rfl (pc0 := 172) (pc' := 184) rfl (hb hby own_d1_172) rfl (XT.ii_le_t (by decide)) (by decide) (by decide)) ?_
  show own_Ends _ _ _ _ (T38.setTop (mkF m 184 #[.val (.long x0), .second, .val (.int (2 : Int32)), .val (.ref b30)] []))
  refine own_st (fun t_ => XS.iloadN (own_here Y39) hx rfl (hb hby own_d1_184) rfl) ?_
  show own_Ends _ _ _ _ (T38.setTop (mkF m 185 #[.val (.long x0), .second, .val (.int (2 : Int32)), .val (.ref b30)] [(.int (2 : Int32))]))
  refine own_st (fun t_ => XS.bipush (own_here Y39) hx rfl (hb hby own_d1_185) ) ?_
  show own_Ends _ _ _ _ (T38.setTop (mkF m 187 #[.val (.long x0), .second, .val (.int (2 : Int32)), .val (.ref b30)] [(.int (6 : Int32)), (.int (2 : Int32))]))
  refine own_st (fun t_ => XS.icmpYes (own_here Y39) hx rfl (pc0 := 187) (pc' := 200) rfl (hb hby own_d1_187) rfl (XT.ii_le_t (by decide)) (by decide) (by decide)) ?_
  show own_Ends _ _ _ _ (T38.setTop (mkF m 200 #[.val (.long x0), .second, .val (.int (2 : Int32)), .val (.ref b30)] []))
  refine own_st (fun t_ => XS.iloadN (own_here Y39) hx rfl (hb hby own_d1_200) rfl) ?_
  show own_Ends _ _ _ _ (T38.setTop (mkF m 201 #[.val (.long x0), .second, .val (.int (2 : Int32)), .val (.ref b30)] [(.int (2 : Int32))]))
  refine own_st (fun t_ => XS.bipush (own_here Y39) hx rfl (hb hby own_d1_201) ) ?_
  show own_Ends _ _ _ _ (T38.setTop (mkF m 203 #[.val (.long x0), .second, .val (.int (2 : Int32)), .val (.ref b30)] [(.int (7 : Int32)), (.int (2 : Int32))]))
  refine own_st (fun t_ => XS.icmpYes (own_here Y39) hx rfl (pc0 := 203) (pc' := 216) rfl (hb hby own_d1_203) rfl (XT.ii_le_t (by decide)) (by decide) (by decide)) ?_
  show own_Ends _ _ _ _ (T38.setTop (mkF m 216 #[.val (.long x0), .second, .val (.int (2 : Int32)), .val (.ref b30)] []))
  refine own_st (fun t_ => XS.aloadN (own_here Y39) hx rfl (hb hby own_d1_216) rfl rfl) ?_
  show own_Ends _ _ _ _ (T38.setTop (mkF m 217 #[.val (.long x0), .second, .val (.int (2 : Int32)), .val (.ref b30)] [(.ref b30)]))
  have K43 : Keep h0 h27 [] := (Keep.refl h0 []).ext E28
  have K44 : Keep h0 h35 [] := K43.wr W36 (Or.inr (by rw [eb31]; exact (Keep.refl h0 []).1))
  have K45 : Keep h0 h40 [] := K44.wr W41 (Or.inr (by rw [eb31]; exact (Keep.refl h0 []).1))
  refine own_retA Y39 hx hlk hret rfl rfl rfl (hb hby own_d1_217) (by decide) (by decide) ?_
  exact ⟨_, rfl, K45, by have q := A42; simp only [own_bb] at q; exact q⟩
theorem own_d1_35 : decode method_4_code 35 = .ok (.iload_n 2, 1) := by decide +kernel
theorem own_d1_36 : decode method_4_code 36 = .ok (.iconst 3, 1) := by decide +kernel
theorem own_d1_37 : decode method_4_code 37 = .ok (.if_icmp .ne 10, 3) := by decide +kernel
theorem own_d1_40 : decode method_4_code 40 = .ok (.iconst 3, 1) := by decide +kernel
theorem own_d1_41 : decode method_4_code 41 = .ok (.newarray .byte, 2) := by decide +kernel
theorem own_d1_43 : decode method_4_code 43 = .ok (.astore_n 3, 1) := by decide +kernel
theorem own_d1_44 : decode method_4_code 44 = .ok (.goto 60, 3) := by decide +kernel
theorem own_d1_133 : decode method_4_code 133 = .ok (.aload_n 3, 1) := by decide +kernel
theorem own_d1_134 : decode method_4_code 134 = .ok (.iconst 2, 1) := by decide +kernel
theorem own_d1_135 : decode method_4_code 135 = .ok (.lload_n 0, 1) := by decide +kernel
theorem own_d1_136 : decode method_4_code 136 = .ok (.bipush 16, 2) := by decide +kernel
theorem own_d1_138 : decode method_4_code 138 = .ok (.lushr, 1) := by decide +kernel
theorem own_d1_139 : decode method_4_code 139 = .ok (.l2i, 1) := by decide +kernel
theorem own_d1_140 : decode method_4_code 140 = .ok (.i2b, 1) := by decide +kernel
theorem own_d1_141 : decode method_4_code 141 = .ok (.bastore, 1) := by decide +kernel
theorem own_ef_own_rm1_3 (m : MethodId) (x0 : Int64) : entryFrame m #[(.long x0), (.int (3 : Int32))] 4 = mkF m 0 #[.val (.long x0), .second, .val (.int (3 : Int32)), .unset] [] := by first | (simp [entryFrame, mkF, argsToLocals, Value.category]; done) | rfl
def own_Q_own_rm1_3 (Z : State) (x0 : Int64) (h0 : Heap) (n0 : Nat) (v : Option Value) (h : Heap) : Prop := ∃ b : Addr, v = some (.ref b) ∧ Keep h0 h [] ∧ own_A Z h b .byte [(.int (x0.toInt32.toInt8.toInt32)), (.int (((x0.toUInt64 >>> ((8 : Int32) &&& 0x3f).toInt64.toUInt64).toInt64).toInt32.toInt8.toInt32)), (.int (((x0.toUInt64 >>> ((16 : Int32) &&& 0x3f).toInt64.toUInt64).toInt64).toInt32.toInt8.toInt32))]
set_option maxRecDepth 65536 in
set_option maxHeartbeats 40000000 in
theorem own_rm1_3 (l : Launch) (Z : State) (a0 : Array Value) (hw : ∀ d ∈ tables_1, d.before a0 Z = true) (ws : List Jvm.Cond) (x0 : Int64)  (h0 : Heap) (n0 : Nat) (Z0 : n0 ≤ h0.size)  :
    own_Con l Z (⟨"com/example/tagwire/tagwire/wire/BytesStartsWithPinLaw", "prefixOf", "(JI)[B"⟩ : MethodName) method_4_code 4 (some (.array .byte)) ws ({ frames := 0, cells := 1, slots := 3, locals := 0 } : Room) #[(.long x0), (.int (3 : Int32))] h0 n0 (own_Q_own_rm1_3 Z x0 h0 n0) := by
  refine own_body (plainFor_of_name own_pn0) ?_
  intro p e s m below meth c T0 hx hZ hby hml hown hnm hret hlk Y0
  replace hown : s.vm.findClass "com/example/tagwire/tagwire/wire/BytesStartsWithPinLaw" = some m.cls := hown
  replace hnm : meth.name = "prefixOf" := hnm
  rw [own_ef_own_rm1_3 m x0]
  show own_Ends _ _ _ _ (T0.setTop (mkF m 0 #[.val (.long x0), .second, .val (.int (3 : Int32)), .unset] []))
  refine own_st (fun t_ => XS.iloadN (own_here Y0) hx rfl (hb hby own_d1_0) rfl) ?_
  show own_Ends _ _ _ _ (T0.setTop (mkF m 1 #[.val (.long x0), .second, .val (.int (3 : Int32)), .unset] [(.int (3 : Int32))]))
  refine own_st (fun t_ => XS.ifYes (own_here Y0) hx rfl (pc0 := 1) (pc' := 11) rfl (hb hby own_d1_1) rfl (XT.i0_ne_t (by decide)) (by decide) (by decide)) ?_
  show own_Ends _ _ _ _ (T0.setTop (mkF m 11 #[.val (.long x0), .second, .val (.int (3 : Int32)), .unset] []))
  refine own_st (fun t_ => XS.iloadN (own_here Y0) hx rfl (hb hby own_d1_11) rfl) ?_
  show own_Ends _ _ _ _ (T0.setTop (mkF m 12 #[.val (.long x0), .second, .val (.int (3 : Int32)), .unset] [(.int (3 : Int32))]))
  refine own_st (fun t_ => XS.iconst (own_here Y0) hx rfl (hb hby own_d1_12) ) ?_
  show own_Ends _ _ _ _ (T0.setTop (mkF m 13 #[.val (.long x0), .second, .val (.int (3 : Int32)), .unset] [(.int (1 : Int32)), (.int (3 : Int32))]))
  refine own_st (fun t_ => XS.icmpYes (own_here Y0) hx rfl (pc0 := 13) (pc' := 23) rfl (hb hby own_d1_13) rfl (XT.ii_ne_t (by decide)) (by decide) (by decide)) ?_
  show own_Ends _ _ _ _ (T0.setTop (mkF m 23 #[.val (.long x0), .second, .val (.int (3 : Int32)), .unset] []))
  refine own_st (fun t_ => XS.iloadN (own_here Y0) hx rfl (hb hby own_d1_23) rfl) ?_
  show own_Ends _ _ _ _ (T0.setTop (mkF m 24 #[.val (.long x0), .second, .val (.int (3 : Int32)), .unset] [(.int (3 : Int32))]))
  refine own_st (fun t_ => XS.iconst (own_here Y0) hx rfl (hb hby own_d1_24) ) ?_
  show own_Ends _ _ _ _ (T0.setTop (mkF m 25 #[.val (.long x0), .second, .val (.int (3 : Int32)), .unset] [(.int (2 : Int32)), (.int (3 : Int32))]))
  refine own_st (fun t_ => XS.icmpYes (own_here Y0) hx rfl (pc0 := 25) (pc' := 35) rfl (hb hby own_d1_25) rfl (XT.ii_ne_t (by decide)) (by decide) (by decide)) ?_
  show own_Ends _ _ _ _ (T0.setTop (mkF m 35 #[.val (.long x0), .second, .val (.int (3 : Int32)), .unset] []))
  refine own_st (fun t_ => XS.iloadN (own_here Y0) hx rfl (hb hby own_d1_35) rfl) ?_
  show own_Ends _ _ _ _ (T0.setTop (mkF m 36 #[.val (.long x0), .second, .val (.int (3 : Int32)), .unset] [(.int (3 : Int32))]))
  refine own_st (fun t_ => XS.iconst (own_here Y0) hx rfl (hb hby own_d1_36) ) ?_
  show own_Ends _ _ _ _ (T0.setTop (mkF m 37 #[.val (.long x0), .second, .val (.int (3 : Int32)), .unset] [(.int (3 : Int32)), (.int (3 : Int32))]))
  refine own_st (fun t_ => XS.icmpNo (own_here Y0) hx rfl (hb hby own_d1_37) rfl (XT.ii_ne_f (by decide))) ?_
  show own_Ends _ _ _ _ (T0.setTop (mkF m 40 #[.val (.long x0), .second, .val (.int (3 : Int32)), .unset] []))
  refine own_st (fun t_ => XS.iconst (own_here Y0) hx rfl (hb hby own_d1_40) ) ?_
  show own_Ends _ _ _ _ (T0.setTop (mkF m 41 #[.val (.long x0), .second, .val (.int (3 : Int32)), .unset] [(.int (3 : Int32))]))
  refine own_newP Y0 hx hZ (hw _ (List.mem_of_getElem? (i := 0) rfl)) rfl (hb hby own_d1_41) rfl (by decide) (nz := 3) (cap := 3) (by decide) (by decide) (by decide) (by decide) (by decide) (ty := .byte) rfl (fun T46 h48 b51 eb52 Y47 E49 A50 => ?_)
  have g53 : n0 ≤ b51 := by rw [eb52]; exact Z0
  replace A50 : own_A Z h48 b51 .byte [(.int (0 : Int32)), (.int (0 : Int32)), (.int (0 : Int32))] := A50
  show own_Ends _ _ _ _ (T46.setTop (mkF m 43 #[.val (.long x0), .second, .val (.int (3 : Int32)), .unset] [(.ref b51)]))
  refine own_st (fun t_ => XS.astoreN (own_here Y47) hx rfl (hb hby own_d1_43) rfl rfl (l' := #[.val (.long x0), .second, .val (.int (3 : Int32)), .val (.ref b51)]) rfl) ?_
  show own_Ends _ _ _ _ (T46.setTop (mkF m 44 #[.val (.long x0), .second, .val (.int (3 : Int32)), .val (.ref b51)] []))
  refine own_st (fun t_ => XS.goto (own_here Y47) hx rfl (pc0 := 44) (pc' := 104) rfl (hb hby own_d1_44) (by decide) (by decide)) ?_
  show own_Ends _ _ _ _ (T46.setTop (mkF m 104 #[.val (.long x0), .second, .val (.int (3 : Int32)), .val (.ref b51)] []))
  refine own_st (fun t_ => XS.iloadN (own_here Y47) hx rfl (hb hby own_d1_104) rfl) ?_
  show own_Ends _ _ _ _ (T46.setTop (mkF m 105 #[.val (.long x0), .second, .val (.int (3 : Int32)), .val (.ref b51)] [(.int (3 : Int32))]))
  refine own_st (fun t_ => XS.ifNo (own_here Y47) hx rfl (hb hby own_d1_105) rfl (XT.i0_le_f (by decide))) ?_
  show own_Ends _ _ _ _ (T46.setTop (mkF m 108 #[.val (.long x0), .second, .val (.int (3 : Int32)), .val (.ref b51)] []))
  refine own_st (fun t_ => XS.aloadN (own_here Y47) hx rfl (hb hby own_d1_108) rfl rfl) ?_
  show own_Ends _ _ _ _ (T46.setTop (mkF m 109 #[.val (.long x0), .second, .val (.int (3 : Int32)), .val (.ref b51)] [(.ref b51)]))
  refine own_st (fun t_ => XS.iconst (own_here Y47) hx rfl (hb hby own_d1_109) ) ?_
  show own_Ends _ _ _ _ (T46.setTop (mkF m 110 #[.val (.long x0), .second, .val (.int (3 : Int32)), .val (.ref b51)] [(.int (0 : Int32)), (.ref b51)]))
  refine own_st (fun t_ => XS.lloadN (own_here Y47) hx rfl (hb hby own_d1_110) rfl) ?_
  show own_Ends _ _ _ _ (T46.setTop (mkF m 111 #[.val (.long x0), .second, .val (.int (3 : Int32)), .val (.ref b51)] [(.long x0), (.int (0 : Int32)), (.ref b51)]))
  refine own_st (fun t_ => XS.l2i (own_here Y47) hx rfl (hb hby own_d1_111) rfl) ?_
  show own_Ends _ _ _ _ (T46.setTop (mkF m 112 #[.val (.long x0), .second, .val (.int (3 : Int32)), .val (.ref b51)] [(.int (x0.toInt32)), (.int (0 : Int32)), (.ref b51)]))
  refine own_st (fun t_ => XS.i2b (own_here Y47) hx rfl (hb hby own_d1_112) rfl) ?_
  show own_Ends _ _ _ _ (T46.setTop (mkF m 113 #[.val (.long x0), .second, .val (.int (3 : Int32)), .val (.ref b51)] [(.int ((x0.toInt32).toInt8.toInt32)), (.int (0 : Int32)), (.ref b51)]))
  refine own_stB Y47 hx hZ A50 g53 (i := 0) (by decide) (by decide) (Nat.le_of_ble_eq_true rfl) rfl rfl (hb hby own_d1_113) (fun T54 h56 Y55 W57 A58 => ?_)
  replace A58 : own_A Z h56 b51 .byte [(.int (((x0.toInt32).toInt8.toInt32).toInt8.toInt32)), (.int (0 : Int32)), (.int (0 : Int32))] := A58
  show own_Ends _ _ _ _ (T54.setTop (mkF m 114 #[.val (.long x0), .second, .val (.int (3 : Int32)), .val (.ref b51)] []))
  refine own_st (fun t_ => XS.iloadN (own_here Y55) hx rfl (hb hby own_d1_114) rfl) ?_
  show own_Ends _ _ _ _ (T54.setTop (mkF m 115 #[.val (.long x0), .second, .val (.int (3 : Int32)), .val (.ref b51)] [(.int (3 : Int32))]))
  refine own_st (fun t_ => XS.iconst (own_here Y55) hx rfl (hb hby own_d1_115) ) ?_
  show own_Ends _ _ _ _ (T54.setTop (mkF m 116 #[.val (.long x0), .second, .val (.int (3 : Int32)), .val (.ref b51)] [(.int (1 : Int32)), (.int (3 : Int32))]))
  refine own_st (fun t_ => XS.icmpNo (own_here Y55) hx rfl (hb hby own_d1_116) rfl (XT.ii_le_f (by decide))) ?_
  show own_Ends _ _ _ _ (T54.setTop (mkF m 119 #[.val (.long x0), .second, .val (.int (3 : Int32)), .val (.ref b51)] []))
  refine own_st (fun t_ => XS.aloadN (own_here Y55) hx rfl (hb hby own_d1_119) rfl rfl) ?_
  show own_Ends _ _ _ _ (T54.setTop (mkF m 120 #[.val (.long x0), .second, .val (.int (3 : Int32)), .val (.ref b51)] [(.ref b51)]))
  refine own_st (fun t_ => XS.iconst (own_here Y55) hx rfl (hb hby own_d1_120) ) ?_
  show own_Ends _ _ _ _ (T54.setTop (mkF m 121 #[.val (.long x0), .second, .val (.int (3 : Int32)), .val (.ref b51)] [(.int (1 : Int32)), (.ref b51)]))
  refine own_st (fun t_ => XS.lloadN (own_here Y55) hx rfl (hb hby own_d1_121) rfl) ?_
  show own_Ends _ _ _ _ (T54.setTop (mkF m 122 #[.val (.long x0), .second, .val (.int (3 : Int32)), .val (.ref b51)] [(.long x0), (.int (1 : Int32)), (.ref b51)]))
  refine own_st (fun t_ => XS.bipush (own_here Y55) hx rfl (hb hby own_d1_122) ) ?_
  show own_Ends _ _ _ _ (T54.setTop (mkF m 124 #[.val (.long x0), .second, .val (.int (3 : Int32)), .val (.ref b51)] [(.int (8 : Int32)), (.long x0), (.int (1 : Int32)), (.ref b51)]))
  refine own_st (fun t_ => XS.lushr (own_here Y55) hx rfl (hb hby own_d1_124) rfl) ?_
  show own_Ends _ _ _ _ (T54.setTop (mkF m 125 #[.val (.long x0), .second, .val (.int (3 : Int32)), .val (.ref b51)] [(.long ((x0.toUInt64 >>> ((8 : Int32) &&& 0x3f).toInt64.toUInt64).toInt64)), (.int (1 : Int32)), (.ref b51)]))
  refine own_st (fun t_ => XS.l2i (own_here Y55) hx rfl (hb hby own_d1_125) rfl) ?_
  show own_Ends _ _ _ _ (T54.setTop (mkF m 126 #[.val (.long x0), .second, .val (.int (3 : Int32)), .val (.ref b51)] [(.int (((x0.toUInt64 >>> ((8 : Int32) &&& 0x3f).toInt64.toUInt64).toInt64).toInt32)), (.int (1 : Int32)), (.ref b51)]))
  refine own_st (fun t_ => XS.i2b (own_here Y55) hx rfl (hb hby own_d1_126) rfl) ?_
  show own_Ends _ _ _ _ (T54.setTop (mkF m 127 #[.val (.long x0), .second, .val (.int (3 : Int32)), .val (.ref b51)] [(.int ((((x0.toUInt64 >>> ((8 : Int32) &&& 0x3f).toInt64.toUInt64).toInt64).toInt32).toInt8.toInt32)), (.int (1 : Int32)), (.ref b51)]))
  refine own_stB Y55 hx hZ A58 g53 (i := 1) (by decide) (by decide) (Nat.le_of_ble_eq_true rfl) rfl rfl (hb hby own_d1_127) (fun T59 h61 Y60 W62 A63 => ?_)
  replace A63 : own_A Z h61 b51 .byte [(.int (((x0.toInt32).toInt8.toInt32).toInt8.toInt32)), (.int (((((x0.toUInt64 >>> ((8 : Int32) &&& 0x3f).toInt64.toUInt64).toInt64).toInt32).toInt8.toInt32).toInt8.toInt32)), (.int (0 : Int32))] := A63
  show own_Ends _ _ _ _ (T59.setTop (mkF m 128 #[.val (.long x0), .second, .val (.int (3 : Int32)), .val (.ref b51)] []))
  refine own_st (fun t_ => XS.iloadN (own_here Y60) hx rfl (hb hby own_d1_128) rfl) ?_
  show own_Ends _ _ _ _ (T59.setTop (mkF m 129 #[.val (.long x0), .second, .val (.int (3 : Int32)), .val (.ref b51)] [(.int (3 : Int32))]))
  refine own_st (fun t_ => XS.iconst (own_here Y60) hx rfl (hb hby own_d1_129) ) ?_
  show own_Ends _ _ _ _ (T59.setTop (mkF m 130 #[.val (.long x0), .second, .val (.int (3 : Int32)), .val (.ref b51)] [(.int (2 : Int32)), (.int (3 : Int32))]))
  refine own_st (fun t_ => XS.icmpNo (own_here Y60) hx rfl (hb hby own_d1_130) rfl (XT.ii_le_f (by decide))) ?_
  show own_Ends _ _ _ _ (T59.setTop (mkF m 133 #[.val (.long x0), .second, .val (.int (3 : Int32)), .val (.ref b51)] []))
  refine own_st (fun t_ => XS.aloadN (own_here Y60) hx rfl (hb hby own_d1_133) rfl rfl) ?_
  show own_Ends _ _ _ _ (T59.setTop (mkF m 134 #[.val (.long x0), .second, .val (.int (3 : Int32)), .val (.ref b51)] [(.ref b51)]))
  refine own_st (fun t_ => XS.iconst (own_here Y60) hx rfl (hb hby own_d1_134) ) ?_
  show own_Ends _ _ _ _ (T59.setTop (mkF m 135 #[.val (.long x0), .second, .val (.int (3 : Int32)), .val (.ref b51)] [(.int (2 : Int32)), (.ref b51)]))
  refine own_st (fun t_ => XS.lloadN (own_here Y60) hx rfl (hb hby own_d1_135) rfl) ?_
  show own_Ends _ _ _ _ (T59.setTop (mkF m 136 #[.val (.long x0), .second, .val (.int (3 : Int32)), .val (.ref b51)] [(.long x0), (.int (2 : Int32)), (.ref b51)]))
  refine own_st (fun t_ => XS.bipush (own_here Y60) hx rfl (hb hby own_d1_136) ) ?_
  show own_Ends _ _ _ _ (T59.setTop (mkF m 138 #[.val (.long x0), .second, .val (.int (3 : Int32)), .val (.ref b51)] [(.int (16 : Int32)), (.long x0), (.int (2 : Int32)), (.ref b51)]))
  refine own_st (fun t_ => XS.lushr (own_here Y60) hx rfl (hb hby own_d1_138) rfl) ?_
  show own_Ends _ _ _ _ (T59.setTop (mkF m 139 #[.val (.long x0), .second, .val (.int (3 : Int32)), .val (.ref b51)] [(.long ((x0.toUInt64 >>> ((16 : Int32) &&& 0x3f).toInt64.toUInt64).toInt64)), (.int (2 : Int32)), (.ref b51)]))
  refine own_st (fun t_ => XS.l2i (own_here Y60) hx rfl (hb hby own_d1_139) rfl) ?_
  show own_Ends _ _ _ _ (T59.setTop (mkF m 140 #[.val (.long x0), .second, .val (.int (3 : Int32)), .val (.ref b51)] [(.int (((x0.toUInt64 >>> ((16 : Int32) &&& 0x3f).toInt64.toUInt64).toInt64).toInt32)), (.int (2 : Int32)), (.ref b51)]))
  refine own_st (fun t_ => XS.i2b (own_here Y60) hx rfl (hb hby own_d1_140) rfl) ?_
  show own_Ends _ _ _ _ (T59.setTop (mkF m 141 #[.val (.long x0), .second, .val (.int (3 : Int32)), .val (.ref b51)] [(.int ((((x0.toUInt64 >>> ((16 : Int32) &&& 0x3f).toInt64.toUInt64).toInt64).toInt32).toInt8.toInt32)), (.int (2 : Int32)), (.ref b51)]))
  refine own_stB Y60 hx hZ A63 g53 (i := 2) (by decide) (by decide) (Nat.le_of_ble_eq_true rfl) rfl rfl (hb hby own_d1_141) (fun T64 h66 Y65 W67 A68 => ?_)
  replace A68 : own_A Z h66 b51 .byte [(.int (((x0.toInt32).toInt8.toInt32).toInt8.toInt32)), (.int (((((x0.toUInt64 >>> ((8 : Int32) &&& 0x3f).toInt64.toUInt64).toInt64).toInt32).toInt8.toInt32).toInt8.toInt32)), (.int (((((x0.toUInt64 >>> ((16 : Int32) &&& 0x3f).toInt64.toUInt64).toInt64).toInt32).toInt8.toInt32).toInt8.toInt32))] := A68
  show own_Ends _ _ _ _ (T64.setTop (mkF m 142 #[.val (.long x0), .second, .val (.int (3 : Int32)), .val (.ref b51)] []))
  refine own_st (fun t_ => XS.iloadN (own_here Y65) hx rfl (hb hby own_d1_142) rfl) ?_
  show own_Ends _ _ _ _ (T64.setTop (mkF m 143 #[.val (.long x0), .second, .val (.int (3 : Int32)), .val (.ref b51)] [(.int (3 : Int32))]))
  refine own_st (fun t_ => XS.iconst (own_here Y65) hx rfl (hb hby own_d1_143) ) ?_
  show own_Ends _ _ _ _ (T64.setTop (mkF m 144 #[.val (.long x0), .second, .val (.int (3 : Int32)), .val (.ref b51)] [(.int (3 : Int32)), (.int (3 : Int32))]))
  refine own_st (fun t_ => XS.icmpYes (own_here Y65) hx rfl (pc0 := 144) (pc' := 156) rfl (hb hby own_d1_144) rfl (XT.ii_le_t (by decide)) (by decide) (by decide)) ?_
  show own_Ends _ _ _ _ (T64.setTop (mkF m 156 #[.val (.long x0), .second, .val (.int (3 : Int32)), .val (.ref b51)] []))
  refine own_st (fun t_ => XS.iloadN (own_here Y65) hx rfl (hb hby own_d1_156) rfl) ?_
  show own_Ends _ _ _ _ (T64.setTop (mkF m 157 #[.val (.long x0), .second, .val (.int (3 : Int32)), .val (.ref b51)] [(.int (3 : Int32))]))
  refine own_st (fun t_ => XS.iconst (own_here Y65) hx rfl (hb hby own_d1_157) ) ?_
  show own_Ends _ _ _ _ (T64.setTop (mkF m 158 #[.val (.long x0), .second, .val (.int (3 : Int32)), .val (.ref b51)] [(.int (4 : Int32)), (.int (3 : Int32))]))
  refine own_st (fun t_ => XS.icmpYes (own_here Y65) hx rfl (pc0 := 158) (pc' := 170) rfl (hb hby own_d1_158) rfl (XT.ii_le_t (by decide)) (by decide) (by decide)) ?_
  show own_Ends _ _ _ _ (T64.setTop (mkF m 170 #[.val (.long x0), .second, .val (.int (3 : Int32)), .val (.ref b51)] []))
  refine own_st (fun t_ => XS.iloadN (own_here Y65) hx rfl (hb hby own_d1_170) rfl) ?_
  show own_Ends _ _ _ _ (T64.setTop (mkF m 171 #[.val (.long x0), .second, .val (.int (3 : Int32)), .val (.ref b51)] [(.int (3 : Int32))]))
  refine own_st (fun t_ => XS.iconst (own_here Y65) hx rfl (hb hby own_d1_171) ) ?_
  show own_Ends _ _ _ _ (T64.setTop (mkF m 172 #[.val (.long x0), .second, .val (.int (3 : Int32)), .val (.ref b51)] [(.int (5 : Int32)), (.int (3 : Int32))]))
  refine own_st (fun t_ => XS.icmpYes (own_here Y65) hx rfl (pc0 := 172) (pc' := 184) rfl (hb hby own_d1_172) rfl (XT.ii_le_t (by decide)) (by decide) (by decide)) ?_
  show own_Ends _ _ _ _ (T64.setTop (mkF m 184 #[.val (.long x0), .second, .val (.int (3 : Int32)), .val (.ref b51)] []))
  refine own_st (fun t_ => XS.iloadN (own_here Y65) hx rfl (hb hby own_d1_184) rfl) ?_
  show own_Ends _ _ _ _ (T64.setTop (mkF m 185 #[.val (.long x0), .second, .val (.int (3 : Int32)), .val (.ref b51)] [(.int (3 : Int32))]))
  refine own_st (fun t_ => XS.bipush (own_here Y65) hx rfl (hb hby own_d1_185) ) ?_
  show own_Ends _ _ _ _ (T64.setTop (mkF m 187 #[.val (.long x0), .second, .val (.int (3 : Int32)), .val (.ref b51)] [(.int (6 : Int32)), (.int (3 : Int32))]))
  refine own_st (fun t_ => XS.icmpYes (own_here Y65) hx rfl (pc0 := 187) (pc' := 200) rfl (hb hby own_d1_187) rfl (XT.ii_le_t (by decide)) (by decide) (by decide)) ?_
  show own_Ends _ _ _ _ (T64.setTop (mkF m 200 #[.val (.long x0), .second, .val (.int (3 : Int32)), .val (.ref b51)] []))
  refine own_st (fun t_ => XS.iloadN (own_here Y65) hx rfl (hb hby own_d1_200) rfl) ?_
  show own_Ends _ _ _ _ (T64.setTop (mkF m 201 #[.val (.long x0), .second, .val (.int (3 : Int32)), .val (.ref b51)] [(.int (3 : Int32))]))
  refine own_st (fun t_ => XS.bipush (own_here Y65) hx rfl (hb hby own_d1_201) ) ?_
  show own_Ends _ _ _ _ (T64.setTop (mkF m 203 #[.val (.long x0), .second, .val (.int (3 : Int32)), .val (.ref b51)] [(.int (7 : Int32)), (.int (3 : Int32))]))
  refine own_st (fun t_ => XS.icmpYes (own_here Y65) hx rfl (pc0 := 203) (pc' := 216) rfl (hb hby own_d1_203) rfl (XT.ii_le_t (by decide)) (by decide) (by decide)) ?_
  show own_Ends _ _ _ _ (T64.setTop (mkF m 216 #[.val (.long x0), .second, .val (.int (3 : Int32)), .val (.ref b51)] []))
  refine own_st (fun t_ => XS.aloadN (own_here Y65) hx rfl (hb hby own_d1_216) rfl rfl) ?_
  show own_Ends _ _ _ _ (T64.setTop (mkF m 217 #[.val (.long x0), .second, .val (.int (3 : Int32)), .val (.ref b51)] [(.ref b51)]))
  have K69 : Keep h0 h48 [] := (Keep.refl h0 []).ext E49
  have K70 : Keep h0 h56 [] := K69.wr W57 (Or.inr (by rw [eb52]; exact (Keep.refl h0 []).1))
  have K71 : Keep h0 h61 [] := K70.wr W62 (Or.inr (by rw [eb52]; exact (Keep.refl h0 []).1))
  have K72 : Keep h0 h66 [] := K71.wr W67 (Or.inr (by rw [eb52]; exact (Keep.refl h0 []).1))
  refine own_retA Y65 hx hlk hret rfl rfl rfl (hb hby own_d1_217) (by decide) (by decide) ?_
  exact ⟨_, rfl, K72, by have q := A68; simp only [own_bb] at q; exact q⟩
theorem own_d1_47 : decode method_4_code 47 = .ok (.iload_n 2, 1) := by decide +kernel
theorem own_d1_48 : decode method_4_code 48 = .ok (.iconst 4, 1) := by decide +kernel
theorem own_d1_49 : decode method_4_code 49 = .ok (.if_icmp .ne 10, 3) := by decide +kernel
theorem own_d1_52 : decode method_4_code 52 = .ok (.iconst 4, 1) := by decide +kernel
theorem own_d1_53 : decode method_4_code 53 = .ok (.newarray .byte, 2) := by decide +kernel
theorem own_d1_55 : decode method_4_code 55 = .ok (.astore_n 3, 1) := by decide +kernel
theorem own_d1_56 : decode method_4_code 56 = .ok (.goto 48, 3) := by decide +kernel
theorem own_d1_147 : decode method_4_code 147 = .ok (.aload_n 3, 1) := by decide +kernel
theorem own_d1_148 : decode method_4_code 148 = .ok (.iconst 3, 1) := by decide +kernel
theorem own_d1_149 : decode method_4_code 149 = .ok (.lload_n 0, 1) := by decide +kernel
theorem own_d1_150 : decode method_4_code 150 = .ok (.bipush 24, 2) := by decide +kernel
theorem own_d1_152 : decode method_4_code 152 = .ok (.lushr, 1) := by decide +kernel
theorem own_d1_153 : decode method_4_code 153 = .ok (.l2i, 1) := by decide +kernel
theorem own_d1_154 : decode method_4_code 154 = .ok (.i2b, 1) := by decide +kernel
theorem own_d1_155 : decode method_4_code 155 = .ok (.bastore, 1) := by decide +kernel
theorem own_ef_own_rm1_4 (m : MethodId) (x0 : Int64) : entryFrame m #[(.long x0), (.int (4 : Int32))] 4 = mkF m 0 #[.val (.long x0), .second, .val (.int (4 : Int32)), .unset] [] := by first | (simp [entryFrame, mkF, argsToLocals, Value.category]; done) | rfl
def own_Q_own_rm1_4 (Z : State) (x0 : Int64) (h0 : Heap) (n0 : Nat) (v : Option Value) (h : Heap) : Prop := ∃ b : Addr, v = some (.ref b) ∧ Keep h0 h [] ∧ own_A Z h b .byte [(.int (x0.toInt32.toInt8.toInt32)), (.int (((x0.toUInt64 >>> ((8 : Int32) &&& 0x3f).toInt64.toUInt64).toInt64).toInt32.toInt8.toInt32)), (.int (((x0.toUInt64 >>> ((16 : Int32) &&& 0x3f).toInt64.toUInt64).toInt64).toInt32.toInt8.toInt32)), (.int (((x0.toUInt64 >>> ((24 : Int32) &&& 0x3f).toInt64.toUInt64).toInt64).toInt32.toInt8.toInt32))]
set_option maxRecDepth 65536 in
set_option maxHeartbeats 40000000 in
theorem own_rm1_4 (l : Launch) (Z : State) (a0 : Array Value) (hw : ∀ d ∈ tables_1, d.before a0 Z = true) (ws : List Jvm.Cond) (x0 : Int64)  (h0 : Heap) (n0 : Nat) (Z0 : n0 ≤ h0.size)  :
    own_Con l Z (⟨"com/example/tagwire/tagwire/wire/BytesStartsWithPinLaw", "prefixOf", "(JI)[B"⟩ : MethodName) method_4_code 4 (some (.array .byte)) ws ({ frames := 0, cells := 1, slots := 4, locals := 0 } : Room) #[(.long x0), (.int (4 : Int32))] h0 n0 (own_Q_own_rm1_4 Z x0 h0 n0) := by
  refine own_body (plainFor_of_name own_pn0) ?_
  intro p e s m below meth c T0 hx hZ hby hml hown hnm hret hlk Y0
  replace hown : s.vm.findClass "com/example/tagwire/tagwire/wire/BytesStartsWithPinLaw" = some m.cls := hown
  replace hnm : meth.name = "prefixOf" := hnm
  rw [own_ef_own_rm1_4 m x0]
  show own_Ends _ _ _ _ (T0.setTop (mkF m 0 #[.val (.long x0), .second, .val (.int (4 : Int32)), .unset] []))
  refine own_st (fun t_ => XS.iloadN (own_here Y0) hx rfl (hb hby own_d1_0) rfl) ?_
  show own_Ends _ _ _ _ (T0.setTop (mkF m 1 #[.val (.long x0), .second, .val (.int (4 : Int32)), .unset] [(.int (4 : Int32))]))
  refine own_st (fun t_ => XS.ifYes (own_here Y0) hx rfl (pc0 := 1) (pc' := 11) rfl (hb hby own_d1_1) rfl (XT.i0_ne_t (by decide)) (by decide) (by decide)) ?_
  show own_Ends _ _ _ _ (T0.setTop (mkF m 11 #[.val (.long x0), .second, .val (.int (4 : Int32)), .unset] []))
  refine own_st (fun t_ => XS.iloadN (own_here Y0) hx rfl (hb hby own_d1_11) rfl) ?_
  show own_Ends _ _ _ _ (T0.setTop (mkF m 12 #[.val (.long x0), .second, .val (.int (4 : Int32)), .unset] [(.int (4 : Int32))]))
  refine own_st (fun t_ => XS.iconst (own_here Y0) hx rfl (hb hby own_d1_12) ) ?_
  show own_Ends _ _ _ _ (T0.setTop (mkF m 13 #[.val (.long x0), .second, .val (.int (4 : Int32)), .unset] [(.int (1 : Int32)), (.int (4 : Int32))]))
  refine own_st (fun t_ => XS.icmpYes (own_here Y0) hx rfl (pc0 := 13) (pc' := 23) rfl (hb hby own_d1_13) rfl (XT.ii_ne_t (by decide)) (by decide) (by decide)) ?_
  show own_Ends _ _ _ _ (T0.setTop (mkF m 23 #[.val (.long x0), .second, .val (.int (4 : Int32)), .unset] []))
  refine own_st (fun t_ => XS.iloadN (own_here Y0) hx rfl (hb hby own_d1_23) rfl) ?_
  show own_Ends _ _ _ _ (T0.setTop (mkF m 24 #[.val (.long x0), .second, .val (.int (4 : Int32)), .unset] [(.int (4 : Int32))]))
  refine own_st (fun t_ => XS.iconst (own_here Y0) hx rfl (hb hby own_d1_24) ) ?_
  show own_Ends _ _ _ _ (T0.setTop (mkF m 25 #[.val (.long x0), .second, .val (.int (4 : Int32)), .unset] [(.int (2 : Int32)), (.int (4 : Int32))]))
  refine own_st (fun t_ => XS.icmpYes (own_here Y0) hx rfl (pc0 := 25) (pc' := 35) rfl (hb hby own_d1_25) rfl (XT.ii_ne_t (by decide)) (by decide) (by decide)) ?_
  show own_Ends _ _ _ _ (T0.setTop (mkF m 35 #[.val (.long x0), .second, .val (.int (4 : Int32)), .unset] []))
  refine own_st (fun t_ => XS.iloadN (own_here Y0) hx rfl (hb hby own_d1_35) rfl) ?_
  show own_Ends _ _ _ _ (T0.setTop (mkF m 36 #[.val (.long x0), .second, .val (.int (4 : Int32)), .unset] [(.int (4 : Int32))]))
  refine own_st (fun t_ => XS.iconst (own_here Y0) hx rfl (hb hby own_d1_36) ) ?_
  show own_Ends _ _ _ _ (T0.setTop (mkF m 37 #[.val (.long x0), .second, .val (.int (4 : Int32)), .unset] [(.int (3 : Int32)), (.int (4 : Int32))]))
  refine own_st (fun t_ => XS.icmpYes (own_here Y0) hx rfl (pc0 := 37) (pc' := 47) rfl (hb hby own_d1_37) rfl (XT.ii_ne_t (by decide)) (by decide) (by decide)) ?_
  show own_Ends _ _ _ _ (T0.setTop (mkF m 47 #[.val (.long x0), .second, .val (.int (4 : Int32)), .unset] []))
  refine own_st (fun t_ => XS.iloadN (own_here Y0) hx rfl (hb hby own_d1_47) rfl) ?_
  show own_Ends _ _ _ _ (T0.setTop (mkF m 48 #[.val (.long x0), .second, .val (.int (4 : Int32)), .unset] [(.int (4 : Int32))]))
  refine own_st (fun t_ => XS.iconst (own_here Y0) hx rfl (hb hby own_d1_48) ) ?_
  show own_Ends _ _ _ _ (T0.setTop (mkF m 49 #[.val (.long x0), .second, .val (.int (4 : Int32)), .unset] [(.int (4 : Int32)), (.int (4 : Int32))]))
  refine own_st (fun t_ => XS.icmpNo (own_here Y0) hx rfl (hb hby own_d1_49) rfl (XT.ii_ne_f (by decide))) ?_
  show own_Ends _ _ _ _ (T0.setTop (mkF m 52 #[.val (.long x0), .second, .val (.int (4 : Int32)), .unset] []))
  refine own_st (fun t_ => XS.iconst (own_here Y0) hx rfl (hb hby own_d1_52) ) ?_
  show own_Ends _ _ _ _ (T0.setTop (mkF m 53 #[.val (.long x0), .second, .val (.int (4 : Int32)), .unset] [(.int (4 : Int32))]))
  refine own_newP Y0 hx hZ (hw _ (List.mem_of_getElem? (i := 0) rfl)) rfl (hb hby own_d1_53) rfl (by decide) (nz := 4) (cap := 4) (by decide) (by decide) (by decide) (by decide) (by decide) (ty := .byte) rfl (fun T73 h75 b78 eb79 Y74 E76 A77 => ?_)
  have g80 : n0 ≤ b78 := by rw [eb79]; exact Z0
  replace A77 : own_A Z h75 b78 .byte [(.int (0 : Int32)), (.int (0 : Int32)), (.int (0 : Int32)), (.int (0 : Int32))] := A77
  show own_Ends _ _ _ _ (T73.setTop (mkF m 55 #[.val (.long x0), .second, .val (.int (4 : Int32)), .unset] [(.ref b78)]))
  refine own_st (fun t_ => XS.astoreN (own_here Y74) hx rfl (hb hby own_d1_55) rfl rfl (l' := #[.val (.long x0), .second, .val (.int (4 : Int32)), .val (.ref b78)]) rfl) ?_
  show own_Ends _ _ _ _ (T73.setTop (mkF m 56 #[.val (.long x0), .second, .val (.int (4 : Int32)), .val (.ref b78)] []))
  refine own_st (fun t_ => XS.goto (own_here Y74) hx rfl (pc0 := 56) (pc' := 104) rfl (hb hby own_d1_56) (by decide) (by decide)) ?_
  show own_Ends _ _ _ _ (T73.setTop (mkF m 104 #[.val (.long x0), .second, .val (.int (4 : Int32)), .val (.ref b78)] []))
  refine own_st (fun t_ => XS.iloadN (own_here Y74) hx rfl (hb hby own_d1_104) rfl) ?_
  show own_Ends _ _ _ _ (T73.setTop (mkF m 105 #[.val (.long x0), .second, .val (.int (4 : Int32)), .val (.ref b78)] [(.int (4 : Int32))]))
  refine own_st (fun t_ => XS.ifNo (own_here Y74) hx rfl (hb hby own_d1_105) rfl (XT.i0_le_f (by decide))) ?_
  show own_Ends _ _ _ _ (T73.setTop (mkF m 108 #[.val (.long x0), .second, .val (.int (4 : Int32)), .val (.ref b78)] []))
  refine own_st (fun t_ => XS.aloadN (own_here Y74) hx rfl (hb hby own_d1_108) rfl rfl) ?_
  show own_Ends _ _ _ _ (T73.setTop (mkF m 109 #[.val (.long x0), .second, .val (.int (4 : Int32)), .val (.ref b78)] [(.ref b78)]))
  refine own_st (fun t_ => XS.iconst (own_here Y74) hx rfl (hb hby own_d1_109) ) ?_
  show own_Ends _ _ _ _ (T73.setTop (mkF m 110 #[.val (.long x0), .second, .val (.int (4 : Int32)), .val (.ref b78)] [(.int (0 : Int32)), (.ref b78)]))
  refine own_st (fun t_ => XS.lloadN (own_here Y74) hx rfl (hb hby own_d1_110) rfl) ?_
  show own_Ends _ _ _ _ (T73.setTop (mkF m 111 #[.val (.long x0), .second, .val (.int (4 : Int32)), .val (.ref b78)] [(.long x0), (.int (0 : Int32)), (.ref b78)]))
  refine own_st (fun t_ => XS.l2i (own_here Y74) hx rfl (hb hby own_d1_111) rfl) ?_
  show own_Ends _ _ _ _ (T73.setTop (mkF m 112 #[.val (.long x0), .second, .val (.int (4 : Int32)), .val (.ref b78)] [(.int (x0.toInt32)), (.int (0 : Int32)), (.ref b78)]))
  refine own_st (fun t_ => XS.i2b (own_here Y74) hx rfl (hb hby own_d1_112) rfl) ?_
  show own_Ends _ _ _ _ (T73.setTop (mkF m 113 #[.val (.long x0), .second, .val (.int (4 : Int32)), .val (.ref b78)] [(.int ((x0.toInt32).toInt8.toInt32)), (.int (0 : Int32)), (.ref b78)]))
  refine own_stB Y74 hx hZ A77 g80 (i := 0) (by decide) (by decide) (Nat.le_of_ble_eq_true rfl) rfl rfl (hb hby own_d1_113) (fun T81 h83 Y82 W84 A85 => ?_)
  replace A85 : own_A Z h83 b78 .byte [(.int (((x0.toInt32).toInt8.toInt32).toInt8.toInt32)), (.int (0 : Int32)), (.int (0 : Int32)), (.int (0 : Int32))] := A85
  show own_Ends _ _ _ _ (T81.setTop (mkF m 114 #[.val (.long x0), .second, .val (.int (4 : Int32)), .val (.ref b78)] []))
  refine own_st (fun t_ => XS.iloadN (own_here Y82) hx rfl (hb hby own_d1_114) rfl) ?_
  show own_Ends _ _ _ _ (T81.setTop (mkF m 115 #[.val (.long x0), .second, .val (.int (4 : Int32)), .val (.ref b78)] [(.int (4 : Int32))]))
  refine own_st (fun t_ => XS.iconst (own_here Y82) hx rfl (hb hby own_d1_115) ) ?_
  show own_Ends _ _ _ _ (T81.setTop (mkF m 116 #[.val (.long x0), .second, .val (.int (4 : Int32)), .val (.ref b78)] [(.int (1 : Int32)), (.int (4 : Int32))]))
  refine own_st (fun t_ => XS.icmpNo (own_here Y82) hx rfl (hb hby own_d1_116) rfl (XT.ii_le_f (by decide))) ?_
  show own_Ends _ _ _ _ (T81.setTop (mkF m 119 #[.val (.long x0), .second, .val (.int (4 : Int32)), .val (.ref b78)] []))
  refine own_st (fun t_ => XS.aloadN (own_here Y82) hx rfl (hb hby own_d1_119) rfl rfl) ?_
  show own_Ends _ _ _ _ (T81.setTop (mkF m 120 #[.val (.long x0), .second, .val (.int (4 : Int32)), .val (.ref b78)] [(.ref b78)]))
  refine own_st (fun t_ => XS.iconst (own_here Y82) hx rfl (hb hby own_d1_120) ) ?_
  show own_Ends _ _ _ _ (T81.setTop (mkF m 121 #[.val (.long x0), .second, .val (.int (4 : Int32)), .val (.ref b78)] [(.int (1 : Int32)), (.ref b78)]))
  refine own_st (fun t_ => XS.lloadN (own_here Y82) hx rfl (hb hby own_d1_121) rfl) ?_
  show own_Ends _ _ _ _ (T81.setTop (mkF m 122 #[.val (.long x0), .second, .val (.int (4 : Int32)), .val (.ref b78)] [(.long x0), (.int (1 : Int32)), (.ref b78)]))
  refine own_st (fun t_ => XS.bipush (own_here Y82) hx rfl (hb hby own_d1_122) ) ?_
  show own_Ends _ _ _ _ (T81.setTop (mkF m 124 #[.val (.long x0), .second, .val (.int (4 : Int32)), .val (.ref b78)] [(.int (8 : Int32)), (.long x0), (.int (1 : Int32)), (.ref b78)]))
  refine own_st (fun t_ => XS.lushr (own_here Y82) hx rfl (hb hby own_d1_124) rfl) ?_
  show own_Ends _ _ _ _ (T81.setTop (mkF m 125 #[.val (.long x0), .second, .val (.int (4 : Int32)), .val (.ref b78)] [(.long ((x0.toUInt64 >>> ((8 : Int32) &&& 0x3f).toInt64.toUInt64).toInt64)), (.int (1 : Int32)), (.ref b78)]))
  refine own_st (fun t_ => XS.l2i (own_here Y82) hx rfl (hb hby own_d1_125) rfl) ?_
  show own_Ends _ _ _ _ (T81.setTop (mkF m 126 #[.val (.long x0), .second, .val (.int (4 : Int32)), .val (.ref b78)] [(.int (((x0.toUInt64 >>> ((8 : Int32) &&& 0x3f).toInt64.toUInt64).toInt64).toInt32)), (.int (1 : Int32)), (.ref b78)]))
  refine own_st (fun t_ => XS.i2b (own_here Y82) hx rfl (hb hby own_d1_126) rfl) ?_
  show own_Ends _ _ _ _ (T81.setTop (mkF m 127 #[.val (.long x0), .second, .val (.int (4 : Int32)), .val (.ref b78)] [(.int ((((x0.toUInt64 >>> ((8 : Int32) &&& 0x3f).toInt64.toUInt64).toInt64).toInt32).toInt8.toInt32)), (.int (1 : Int32)), (.ref b78)]))
  refine own_stB Y82 hx hZ A85 g80 (i := 1) (by decide) (by decide) (Nat.le_of_ble_eq_true rfl) rfl rfl (hb hby own_d1_127) (fun T86 h88 Y87 W89 A90 => ?_)
  replace A90 : own_A Z h88 b78 .byte [(.int (((x0.toInt32).toInt8.toInt32).toInt8.toInt32)), (.int (((((x0.toUInt64 >>> ((8 : Int32) &&& 0x3f).toInt64.toUInt64).toInt64).toInt32).toInt8.toInt32).toInt8.toInt32)), (.int (0 : Int32)), (.int (0 : Int32))] := A90
  show own_Ends _ _ _ _ (T86.setTop (mkF m 128 #[.val (.long x0), .second, .val (.int (4 : Int32)), .val (.ref b78)] []))
  refine own_st (fun t_ => XS.iloadN (own_here Y87) hx rfl (hb hby own_d1_128) rfl) ?_
  show own_Ends _ _ _ _ (T86.setTop (mkF m 129 #[.val (.long x0), .second, .val (.int (4 : Int32)), .val (.ref b78)] [(.int (4 : Int32))]))
  refine own_st (fun t_ => XS.iconst (own_here Y87) hx rfl (hb hby own_d1_129) ) ?_
  show own_Ends _ _ _ _ (T86.setTop (mkF m 130 #[.val (.long x0), .second, .val (.int (4 : Int32)), .val (.ref b78)] [(.int (2 : Int32)), (.int (4 : Int32))]))
  refine own_st (fun t_ => XS.icmpNo (own_here Y87) hx rfl (hb hby own_d1_130) rfl (XT.ii_le_f (by decide))) ?_
  show own_Ends _ _ _ _ (T86.setTop (mkF m 133 #[.val (.long x0), .second, .val (.int (4 : Int32)), .val (.ref b78)] []))
  refine own_st (fun t_ => XS.aloadN (own_here Y87) hx rfl (hb hby own_d1_133) rfl rfl) ?_
  show own_Ends _ _ _ _ (T86.setTop (mkF m 134 #[.val (.long x0), .second, .val (.int (4 : Int32)), .val (.ref b78)] [(.ref b78)]))
  refine own_st (fun t_ => XS.iconst (own_here Y87) hx rfl (hb hby own_d1_134) ) ?_
  show own_Ends _ _ _ _ (T86.setTop (mkF m 135 #[.val (.long x0), .second, .val (.int (4 : Int32)), .val (.ref b78)] [(.int (2 : Int32)), (.ref b78)]))
  refine own_st (fun t_ => XS.lloadN (own_here Y87) hx rfl (hb hby own_d1_135) rfl) ?_
  show own_Ends _ _ _ _ (T86.setTop (mkF m 136 #[.val (.long x0), .second, .val (.int (4 : Int32)), .val (.ref b78)] [(.long x0), (.int (2 : Int32)), (.ref b78)]))
  refine own_st (fun t_ => XS.bipush (own_here Y87) hx rfl (hb hby own_d1_136) ) ?_
  show own_Ends _ _ _ _ (T86.setTop (mkF m 138 #[.val (.long x0), .second, .val (.int (4 : Int32)), .val (.ref b78)] [(.int (16 : Int32)), (.long x0), (.int (2 : Int32)), (.ref b78)]))
  refine own_st (fun t_ => XS.lushr (own_here Y87) hx rfl (hb hby own_d1_138) rfl) ?_
  show own_Ends _ _ _ _ (T86.setTop (mkF m 139 #[.val (.long x0), .second, .val (.int (4 : Int32)), .val (.ref b78)] [(.long ((x0.toUInt64 >>> ((16 : Int32) &&& 0x3f).toInt64.toUInt64).toInt64)), (.int (2 : Int32)), (.ref b78)]))
  refine own_st (fun t_ => XS.l2i (own_here Y87) hx rfl (hb hby own_d1_139) rfl) ?_
  show own_Ends _ _ _ _ (T86.setTop (mkF m 140 #[.val (.long x0), .second, .val (.int (4 : Int32)), .val (.ref b78)] [(.int (((x0.toUInt64 >>> ((16 : Int32) &&& 0x3f).toInt64.toUInt64).toInt64).toInt32)), (.int (2 : Int32)), (.ref b78)]))
  refine own_st (fun t_ => XS.i2b (own_here Y87) hx rfl (hb hby own_d1_140) rfl) ?_
  show own_Ends _ _ _ _ (T86.setTop (mkF m 141 #[.val (.long x0), .second, .val (.int (4 : Int32)), .val (.ref b78)] [(.int ((((x0.toUInt64 >>> ((16 : Int32) &&& 0x3f).toInt64.toUInt64).toInt64).toInt32).toInt8.toInt32)), (.int (2 : Int32)), (.ref b78)]))
  refine own_stB Y87 hx hZ A90 g80 (i := 2) (by decide) (by decide) (Nat.le_of_ble_eq_true rfl) rfl rfl (hb hby own_d1_141) (fun T91 h93 Y92 W94 A95 => ?_)
  replace A95 : own_A Z h93 b78 .byte [(.int (((x0.toInt32).toInt8.toInt32).toInt8.toInt32)), (.int (((((x0.toUInt64 >>> ((8 : Int32) &&& 0x3f).toInt64.toUInt64).toInt64).toInt32).toInt8.toInt32).toInt8.toInt32)), (.int (((((x0.toUInt64 >>> ((16 : Int32) &&& 0x3f).toInt64.toUInt64).toInt64).toInt32).toInt8.toInt32).toInt8.toInt32)), (.int (0 : Int32))] := A95
  show own_Ends _ _ _ _ (T91.setTop (mkF m 142 #[.val (.long x0), .second, .val (.int (4 : Int32)), .val (.ref b78)] []))
  refine own_st (fun t_ => XS.iloadN (own_here Y92) hx rfl (hb hby own_d1_142) rfl) ?_
  show own_Ends _ _ _ _ (T91.setTop (mkF m 143 #[.val (.long x0), .second, .val (.int (4 : Int32)), .val (.ref b78)] [(.int (4 : Int32))]))
  refine own_st (fun t_ => XS.iconst (own_here Y92) hx rfl (hb hby own_d1_143) ) ?_
  show own_Ends _ _ _ _ (T91.setTop (mkF m 144 #[.val (.long x0), .second, .val (.int (4 : Int32)), .val (.ref b78)] [(.int (3 : Int32)), (.int (4 : Int32))]))
  refine own_st (fun t_ => XS.icmpNo (own_here Y92) hx rfl (hb hby own_d1_144) rfl (XT.ii_le_f (by decide))) ?_
  show own_Ends _ _ _ _ (T91.setTop (mkF m 147 #[.val (.long x0), .second, .val (.int (4 : Int32)), .val (.ref b78)] []))
  refine own_st (fun t_ => XS.aloadN (own_here Y92) hx rfl (hb hby own_d1_147) rfl rfl) ?_
  show own_Ends _ _ _ _ (T91.setTop (mkF m 148 #[.val (.long x0), .second, .val (.int (4 : Int32)), .val (.ref b78)] [(.ref b78)]))
  refine own_st (fun t_ => XS.iconst (own_here Y92) hx rfl (hb hby own_d1_148) ) ?_
  show own_Ends _ _ _ _ (T91.setTop (mkF m 149 #[.val (.long x0), .second, .val (.int (4 : Int32)), .val (.ref b78)] [(.int (3 : Int32)), (.ref b78)]))
  refine own_st (fun t_ => XS.lloadN (own_here Y92) hx rfl (hb hby own_d1_149) rfl) ?_
  show own_Ends _ _ _ _ (T91.setTop (mkF m 150 #[.val (.long x0), .second, .val (.int (4 : Int32)), .val (.ref b78)] [(.long x0), (.int (3 : Int32)), (.ref b78)]))
  refine own_st (fun t_ => XS.bipush (own_here Y92) hx rfl (hb hby own_d1_150) ) ?_
  show own_Ends _ _ _ _ (T91.setTop (mkF m 152 #[.val (.long x0), .second, .val (.int (4 : Int32)), .val (.ref b78)] [(.int (24 : Int32)), (.long x0), (.int (3 : Int32)), (.ref b78)]))
  refine own_st (fun t_ => XS.lushr (own_here Y92) hx rfl (hb hby own_d1_152) rfl) ?_
  show own_Ends _ _ _ _ (T91.setTop (mkF m 153 #[.val (.long x0), .second, .val (.int (4 : Int32)), .val (.ref b78)] [(.long ((x0.toUInt64 >>> ((24 : Int32) &&& 0x3f).toInt64.toUInt64).toInt64)), (.int (3 : Int32)), (.ref b78)]))
  refine own_st (fun t_ => XS.l2i (own_here Y92) hx rfl (hb hby own_d1_153) rfl) ?_
  show own_Ends _ _ _ _ (T91.setTop (mkF m 154 #[.val (.long x0), .second, .val (.int (4 : Int32)), .val (.ref b78)] [(.int (((x0.toUInt64 >>> ((24 : Int32) &&& 0x3f).toInt64.toUInt64).toInt64).toInt32)), (.int (3 : Int32)), (.ref b78)]))
  refine own_st (fun t_ => XS.i2b (own_here Y92) hx rfl (hb hby own_d1_154) rfl) ?_
  show own_Ends _ _ _ _ (T91.setTop (mkF m 155 #[.val (.long x0), .second, .val (.int (4 : Int32)), .val (.ref b78)] [(.int ((((x0.toUInt64 >>> ((24 : Int32) &&& 0x3f).toInt64.toUInt64).toInt64).toInt32).toInt8.toInt32)), (.int (3 : Int32)), (.ref b78)]))
  refine own_stB Y92 hx hZ A95 g80 (i := 3) (by decide) (by decide) (Nat.le_of_ble_eq_true rfl) rfl rfl (hb hby own_d1_155) (fun T96 h98 Y97 W99 A100 => ?_)
  replace A100 : own_A Z h98 b78 .byte [(.int (((x0.toInt32).toInt8.toInt32).toInt8.toInt32)), (.int (((((x0.toUInt64 >>> ((8 : Int32) &&& 0x3f).toInt64.toUInt64).toInt64).toInt32).toInt8.toInt32).toInt8.toInt32)), (.int (((((x0.toUInt64 >>> ((16 : Int32) &&& 0x3f).toInt64.toUInt64).toInt64).toInt32).toInt8.toInt32).toInt8.toInt32)), (.int (((((x0.toUInt64 >>> ((24 : Int32) &&& 0x3f).toInt64.toUInt64).toInt64).toInt32).toInt8.toInt32).toInt8.toInt32))] := A100
  show own_Ends _ _ _ _ (T96.setTop (mkF m 156 #[.val (.long x0), .second, .val (.int (4 : Int32)), .val (.ref b78)] []))
  refine own_st (fun t_ => XS.iloadN (own_here Y97) hx rfl (hb hby own_d1_156) rfl) ?_
  show own_Ends _ _ _ _ (T96.setTop (mkF m 157 #[.val (.long x0), .second, .val (.int (4 : Int32)), .val (.ref b78)] [(.int (4 : Int32))]))
  refine own_st (fun t_ => XS.iconst (own_here Y97) hx rfl (hb hby own_d1_157) ) ?_
  show own_Ends _ _ _ _ (T96.setTop (mkF m 158 #[.val (.long x0), .second, .val (.int (4 : Int32)), .val (.ref b78)] [(.int (4 : Int32)), (.int (4 : Int32))]))
  refine own_st (fun t_ => XS.icmpYes (own_here Y97) hx rfl (pc0 := 158) (pc' := 170) rfl (hb hby own_d1_158) rfl (XT.ii_le_t (by decide)) (by decide) (by decide)) ?_
  show own_Ends _ _ _ _ (T96.setTop (mkF m 170 #[.val (.long x0), .second, .val (.int (4 : Int32)), .val (.ref b78)] []))
  refine own_st (fun t_ => XS.iloadN (own_here Y97) hx rfl (hb hby own_d1_170) rfl) ?_
  show own_Ends _ _ _ _ (T96.setTop (mkF m 171 #[.val (.long x0), .second, .val (.int (4 : Int32)), .val (.ref b78)] [(.int (4 : Int32))]))
  refine own_st (fun t_ => XS.iconst (own_here Y97) hx rfl (hb hby own_d1_171) ) ?_
  show own_Ends _ _ _ _ (T96.setTop (mkF m 172 #[.val (.long x0), .second, .val (.int (4 : Int32)), .val (.ref b78)] [(.int (5 : Int32)), (.int (4 : Int32))]))
  refine own_st (fun t_ => XS.icmpYes (own_here Y97) hx rfl (pc0 := 172) (pc' := 184) rfl (hb hby own_d1_172) rfl (XT.ii_le_t (by decide)) (by decide) (by decide)) ?_
  show own_Ends _ _ _ _ (T96.setTop (mkF m 184 #[.val (.long x0), .second, .val (.int (4 : Int32)), .val (.ref b78)] []))
  refine own_st (fun t_ => XS.iloadN (own_here Y97) hx rfl (hb hby own_d1_184) rfl) ?_
  show own_Ends _ _ _ _ (T96.setTop (mkF m 185 #[.val (.long x0), .second, .val (.int (4 : Int32)), .val (.ref b78)] [(.int (4 : Int32))]))
  refine own_st (fun t_ => XS.bipush (own_here Y97) hx rfl (hb hby own_d1_185) ) ?_
  show own_Ends _ _ _ _ (T96.setTop (mkF m 187 #[.val (.long x0), .second, .val (.int (4 : Int32)), .val (.ref b78)] [(.int (6 : Int32)), (.int (4 : Int32))]))
  refine own_st (fun t_ => XS.icmpYes (own_here Y97) hx rfl (pc0 := 187) (pc' := 200) rfl (hb hby own_d1_187) rfl (XT.ii_le_t (by decide)) (by decide) (by decide)) ?_
  show own_Ends _ _ _ _ (T96.setTop (mkF m 200 #[.val (.long x0), .second, .val (.int (4 : Int32)), .val (.ref b78)] []))
  refine own_st (fun t_ => XS.iloadN (own_here Y97) hx rfl (hb hby own_d1_200) rfl) ?_
  show own_Ends _ _ _ _ (T96.setTop (mkF m 201 #[.val (.long x0), .second, .val (.int (4 : Int32)), .val (.ref b78)] [(.int (4 : Int32))]))
  refine own_st (fun t_ => XS.bipush (own_here Y97) hx rfl (hb hby own_d1_201) ) ?_
  show own_Ends _ _ _ _ (T96.setTop (mkF m 203 #[.val (.long x0), .second, .val (.int (4 : Int32)), .val (.ref b78)] [(.int (7 : Int32)), (.int (4 : Int32))]))
  refine own_st (fun t_ => XS.icmpYes (own_here Y97) hx rfl (pc0 := 203) (pc' := 216) rfl (hb hby own_d1_203) rfl (XT.ii_le_t (by decide)) (by decide) (by decide)) ?_
  show own_Ends _ _ _ _ (T96.setTop (mkF m 216 #[.val (.long x0), .second, .val (.int (4 : Int32)), .val (.ref b78)] []))
  refine own_st (fun t_ => XS.aloadN (own_here Y97) hx rfl (hb hby own_d1_216) rfl rfl) ?_
  show own_Ends _ _ _ _ (T96.setTop (mkF m 217 #[.val (.long x0), .second, .val (.int (4 : Int32)), .val (.ref b78)] [(.ref b78)]))
  have K101 : Keep h0 h75 [] := (Keep.refl h0 []).ext E76
  have K102 : Keep h0 h83 [] := K101.wr W84 (Or.inr (by rw [eb79]; exact (Keep.refl h0 []).1))
  have K103 : Keep h0 h88 [] := K102.wr W89 (Or.inr (by rw [eb79]; exact (Keep.refl h0 []).1))
  have K104 : Keep h0 h93 [] := K103.wr W94 (Or.inr (by rw [eb79]; exact (Keep.refl h0 []).1))
  have K105 : Keep h0 h98 [] := K104.wr W99 (Or.inr (by rw [eb79]; exact (Keep.refl h0 []).1))
  refine own_retA Y97 hx hlk hret rfl rfl rfl (hb hby own_d1_217) (by decide) (by decide) ?_
  exact ⟨_, rfl, K105, by have q := A100; simp only [own_bb] at q; exact q⟩
theorem own_d1_59 : decode method_4_code 59 = .ok (.iload_n 2, 1) := by decide +kernel
theorem own_d1_60 : decode method_4_code 60 = .ok (.iconst 5, 1) := by decide +kernel
theorem own_d1_61 : decode method_4_code 61 = .ok (.if_icmp .ne 10, 3) := by decide +kernel
theorem own_d1_64 : decode method_4_code 64 = .ok (.iconst 5, 1) := by decide +kernel
theorem own_d1_65 : decode method_4_code 65 = .ok (.newarray .byte, 2) := by decide +kernel
theorem own_d1_67 : decode method_4_code 67 = .ok (.astore_n 3, 1) := by decide +kernel
theorem own_d1_68 : decode method_4_code 68 = .ok (.goto 36, 3) := by decide +kernel
theorem own_d1_161 : decode method_4_code 161 = .ok (.aload_n 3, 1) := by decide +kernel
theorem own_d1_162 : decode method_4_code 162 = .ok (.iconst 4, 1) := by decide +kernel
theorem own_d1_163 : decode method_4_code 163 = .ok (.lload_n 0, 1) := by decide +kernel
theorem own_d1_164 : decode method_4_code 164 = .ok (.bipush 32, 2) := by decide +kernel
theorem own_d1_166 : decode method_4_code 166 = .ok (.lushr, 1) := by decide +kernel
theorem own_d1_167 : decode method_4_code 167 = .ok (.l2i, 1) := by decide +kernel
theorem own_d1_168 : decode method_4_code 168 = .ok (.i2b, 1) := by decide +kernel
theorem own_d1_169 : decode method_4_code 169 = .ok (.bastore, 1) := by decide +kernel
theorem own_ef_own_rm1_5 (m : MethodId) (x0 : Int64) : entryFrame m #[(.long x0), (.int (5 : Int32))] 4 = mkF m 0 #[.val (.long x0), .second, .val (.int (5 : Int32)), .unset] [] := by first | (simp [entryFrame, mkF, argsToLocals, Value.category]; done) | rfl
def own_Q_own_rm1_5 (Z : State) (x0 : Int64) (h0 : Heap) (n0 : Nat) (v : Option Value) (h : Heap) : Prop := ∃ b : Addr, v = some (.ref b) ∧ Keep h0 h [] ∧ own_A Z h b .byte [(.int (x0.toInt32.toInt8.toInt32)), (.int (((x0.toUInt64 >>> ((8 : Int32) &&& 0x3f).toInt64.toUInt64).toInt64).toInt32.toInt8.toInt32)), (.int (((x0.toUInt64 >>> ((16 : Int32) &&& 0x3f).toInt64.toUInt64).toInt64).toInt32.toInt8.toInt32)), (.int (((x0.toUInt64 >>> ((24 : Int32) &&& 0x3f).toInt64.toUInt64).toInt64).toInt32.toInt8.toInt32)), (.int (((x0.toUInt64 >>> ((32 : Int32) &&& 0x3f).toInt64.toUInt64).toInt64).toInt32.toInt8.toInt32))]
set_option maxRecDepth 65536 in
set_option maxHeartbeats 40000000 in
theorem own_rm1_5 (l : Launch) (Z : State) (a0 : Array Value) (hw : ∀ d ∈ tables_1, d.before a0 Z = true) (ws : List Jvm.Cond) (x0 : Int64)  (h0 : Heap) (n0 : Nat) (Z0 : n0 ≤ h0.size)  :
    own_Con l Z (⟨"com/example/tagwire/tagwire/wire/BytesStartsWithPinLaw", "prefixOf", "(JI)[B"⟩ : MethodName) method_4_code 4 (some (.array .byte)) ws ({ frames := 0, cells := 1, slots := 5, locals := 0 } : Room) #[(.long x0), (.int (5 : Int32))] h0 n0 (own_Q_own_rm1_5 Z x0 h0 n0) := by
  refine own_body (plainFor_of_name own_pn0) ?_
  intro p e s m below meth c T0 hx hZ hby hml hown hnm hret hlk Y0
  replace hown : s.vm.findClass "com/example/tagwire/tagwire/wire/BytesStartsWithPinLaw" = some m.cls := hown
  replace hnm : meth.name = "prefixOf" := hnm
  rw [own_ef_own_rm1_5 m x0]
  show own_Ends _ _ _ _ (T0.setTop (mkF m 0 #[.val (.long x0), .second, .val (.int (5 : Int32)), .unset] []))
  refine own_st (fun t_ => XS.iloadN (own_here Y0) hx rfl (hb hby own_d1_0) rfl) ?_
  show own_Ends _ _ _ _ (T0.setTop (mkF m 1 #[.val (.long x0), .second, .val (.int (5 : Int32)), .unset] [(.int (5 : Int32))]))
  refine own_st (fun t_ => XS.ifYes (own_here Y0) hx rfl (pc0 := 1) (pc' := 11) rfl (hb hby own_d1_1) rfl (XT.i0_ne_t (by decide)) (by decide) (by decide)) ?_
  show own_Ends _ _ _ _ (T0.setTop (mkF m 11 #[.val (.long x0), .second, .val (.int (5 : Int32)), .unset] []))
  refine own_st (fun t_ => XS.iloadN (own_here Y0) hx rfl (hb hby own_d1_11) rfl) ?_
  show own_Ends _ _ _ _ (T0.setTop (mkF m 12 #[.val (.long x0), .second, .val (.int (5 : Int32)), .unset] [(.int (5 : Int32))]))
  refine own_st (fun t_ => XS.iconst (own_here Y0) hx rfl (hb hby own_d1_12) ) ?_
  show own_Ends _ _ _ _ (T0.setTop (mkF m 13 #[.val (.long x0), .second, .val (.int (5 : Int32)), .unset] [(.int (1 : Int32)), (.int (5 : Int32))]))
  refine own_st (fun t_ => XS.icmpYes (own_here Y0) hx rfl (pc0 := 13) (pc' := 23) rfl (hb hby own_d1_13) rfl (XT.ii_ne_t (by decide)) (by decide) (by decide)) ?_
  show own_Ends _ _ _ _ (T0.setTop (mkF m 23 #[.val (.long x0), .second, .val (.int (5 : Int32)), .unset] []))
  refine own_st (fun t_ => XS.iloadN (own_here Y0) hx rfl (hb hby own_d1_23) rfl) ?_
  show own_Ends _ _ _ _ (T0.setTop (mkF m 24 #[.val (.long x0), .second, .val (.int (5 : Int32)), .unset] [(.int (5 : Int32))]))
  refine own_st (fun t_ => XS.iconst (own_here Y0) hx rfl (hb hby own_d1_24) ) ?_
  show own_Ends _ _ _ _ (T0.setTop (mkF m 25 #[.val (.long x0), .second, .val (.int (5 : Int32)), .unset] [(.int (2 : Int32)), (.int (5 : Int32))]))
  refine own_st (fun t_ => XS.icmpYes (own_here Y0) hx rfl (pc0 := 25) (pc' := 35) rfl (hb hby own_d1_25) rfl (XT.ii_ne_t (by decide)) (by decide) (by decide)) ?_
  show own_Ends _ _ _ _ (T0.setTop (mkF m 35 #[.val (.long x0), .second, .val (.int (5 : Int32)), .unset] []))
  refine own_st (fun t_ => XS.iloadN (own_here Y0) hx rfl (hb hby own_d1_35) rfl) ?_
  show own_Ends _ _ _ _ (T0.setTop (mkF m 36 #[.val (.long x0), .second, .val (.int (5 : Int32)), .unset] [(.int (5 : Int32))]))
  refine own_st (fun t_ => XS.iconst (own_here Y0) hx rfl (hb hby own_d1_36) ) ?_
  show own_Ends _ _ _ _ (T0.setTop (mkF m 37 #[.val (.long x0), .second, .val (.int (5 : Int32)), .unset] [(.int (3 : Int32)), (.int (5 : Int32))]))
  refine own_st (fun t_ => XS.icmpYes (own_here Y0) hx rfl (pc0 := 37) (pc' := 47) rfl (hb hby own_d1_37) rfl (XT.ii_ne_t (by decide)) (by decide) (by decide)) ?_
  show own_Ends _ _ _ _ (T0.setTop (mkF m 47 #[.val (.long x0), .second, .val (.int (5 : Int32)), .unset] []))
  refine own_st (fun t_ => XS.iloadN (own_here Y0) hx rfl (hb hby own_d1_47) rfl) ?_
  show own_Ends _ _ _ _ (T0.setTop (mkF m 48 #[.val (.long x0), .second, .val (.int (5 : Int32)), .unset] [(.int (5 : Int32))]))
  refine own_st (fun t_ => XS.iconst (own_here Y0) hx rfl (hb hby own_d1_48) ) ?_
  show own_Ends _ _ _ _ (T0.setTop (mkF m 49 #[.val (.long x0), .second, .val (.int (5 : Int32)), .unset] [(.int (4 : Int32)), (.int (5 : Int32))]))
  refine own_st (fun t_ => XS.icmpYes (own_here Y0) hx rfl (pc0 := 49) (pc' := 59) rfl (hb hby own_d1_49) rfl (XT.ii_ne_t (by decide)) (by decide) (by decide)) ?_
  show own_Ends _ _ _ _ (T0.setTop (mkF m 59 #[.val (.long x0), .second, .val (.int (5 : Int32)), .unset] []))
  refine own_st (fun t_ => XS.iloadN (own_here Y0) hx rfl (hb hby own_d1_59) rfl) ?_
  show own_Ends _ _ _ _ (T0.setTop (mkF m 60 #[.val (.long x0), .second, .val (.int (5 : Int32)), .unset] [(.int (5 : Int32))]))
  refine own_st (fun t_ => XS.iconst (own_here Y0) hx rfl (hb hby own_d1_60) ) ?_
  show own_Ends _ _ _ _ (T0.setTop (mkF m 61 #[.val (.long x0), .second, .val (.int (5 : Int32)), .unset] [(.int (5 : Int32)), (.int (5 : Int32))]))
  refine own_st (fun t_ => XS.icmpNo (own_here Y0) hx rfl (hb hby own_d1_61) rfl (XT.ii_ne_f (by decide))) ?_
  show own_Ends _ _ _ _ (T0.setTop (mkF m 64 #[.val (.long x0), .second, .val (.int (5 : Int32)), .unset] []))
  refine own_st (fun t_ => XS.iconst (own_here Y0) hx rfl (hb hby own_d1_64) ) ?_
  show own_Ends _ _ _ _ (T0.setTop (mkF m 65 #[.val (.long x0), .second, .val (.int (5 : Int32)), .unset] [(.int (5 : Int32))]))
  refine own_newP Y0 hx hZ (hw _ (List.mem_of_getElem? (i := 0) rfl)) rfl (hb hby own_d1_65) rfl (by decide) (nz := 5) (cap := 5) (by decide) (by decide) (by decide) (by decide) (by decide) (ty := .byte) rfl (fun T106 h108 b111 eb112 Y107 E109 A110 => ?_)
  have g113 : n0 ≤ b111 := by rw [eb112]; exact Z0
  replace A110 : own_A Z h108 b111 .byte [(.int (0 : Int32)), (.int (0 : Int32)), (.int (0 : Int32)), (.int (0 : Int32)), (.int (0 : Int32))] := A110
  show own_Ends _ _ _ _ (T106.setTop (mkF m 67 #[.val (.long x0), .second, .val (.int (5 : Int32)), .unset] [(.ref b111)]))
  refine own_st (fun t_ => XS.astoreN (own_here Y107) hx rfl (hb hby own_d1_67) rfl rfl (l' := #[.val (.long x0), .second, .val (.int (5 : Int32)), .val (.ref b111)]) rfl) ?_
  show own_Ends _ _ _ _ (T106.setTop (mkF m 68 #[.val (.long x0), .second, .val (.int (5 : Int32)), .val (.ref b111)] []))
  refine own_st (fun t_ => XS.goto (own_here Y107) hx rfl (pc0 := 68) (pc' := 104) rfl (hb hby own_d1_68) (by decide) (by decide)) ?_
  show own_Ends _ _ _ _ (T106.setTop (mkF m 104 #[.val (.long x0), .second, .val (.int (5 : Int32)), .val (.ref b111)] []))
  refine own_st (fun t_ => XS.iloadN (own_here Y107) hx rfl (hb hby own_d1_104) rfl) ?_
  show own_Ends _ _ _ _ (T106.setTop (mkF m 105 #[.val (.long x0), .second, .val (.int (5 : Int32)), .val (.ref b111)] [(.int (5 : Int32))]))
  refine own_st (fun t_ => XS.ifNo (own_here Y107) hx rfl (hb hby own_d1_105) rfl (XT.i0_le_f (by decide))) ?_
  show own_Ends _ _ _ _ (T106.setTop (mkF m 108 #[.val (.long x0), .second, .val (.int (5 : Int32)), .val (.ref b111)] []))
  refine own_st (fun t_ => XS.aloadN (own_here Y107) hx rfl (hb hby own_d1_108) rfl rfl) ?_
  show own_Ends _ _ _ _ (T106.setTop (mkF m 109 #[.val (.long x0), .second, .val (.int (5 : Int32)), .val (.ref b111)] [(.ref b111)]))
  refine own_st (fun t_ => XS.iconst (own_here Y107) hx rfl (hb hby own_d1_109) ) ?_
  show own_Ends _ _ _ _ (T106.setTop (mkF m 110 #[.val (.long x0), .second, .val (.int (5 : Int32)), .val (.ref b111)] [(.int (0 : Int32)), (.ref b111)]))
  refine own_st (fun t_ => XS.lloadN (own_here Y107) hx rfl (hb hby own_d1_110) rfl) ?_
  show own_Ends _ _ _ _ (T106.setTop (mkF m 111 #[.val (.long x0), .second, .val (.int (5 : Int32)), .val (.ref b111)] [(.long x0), (.int (0 : Int32)), (.ref b111)]))
  refine own_st (fun t_ => XS.l2i (own_here Y107) hx rfl (hb hby own_d1_111) rfl) ?_
  show own_Ends _ _ _ _ (T106.setTop (mkF m 112 #[.val (.long x0), .second, .val (.int (5 : Int32)), .val (.ref b111)] [(.int (x0.toInt32)), (.int (0 : Int32)), (.ref b111)]))
  refine own_st (fun t_ => XS.i2b (own_here Y107) hx rfl (hb hby own_d1_112) rfl) ?_
  show own_Ends _ _ _ _ (T106.setTop (mkF m 113 #[.val (.long x0), .second, .val (.int (5 : Int32)), .val (.ref b111)] [(.int ((x0.toInt32).toInt8.toInt32)), (.int (0 : Int32)), (.ref b111)]))
  refine own_stB Y107 hx hZ A110 g113 (i := 0) (by decide) (by decide) (Nat.le_of_ble_eq_true rfl) rfl rfl (hb hby own_d1_113) (fun T114 h116 Y115 W117 A118 => ?_)
  replace A118 : own_A Z h116 b111 .byte [(.int (((x0.toInt32).toInt8.toInt32).toInt8.toInt32)), (.int (0 : Int32)), (.int (0 : Int32)), (.int (0 : Int32)), (.int (0 : Int32))] := A118
  show own_Ends _ _ _ _ (T114.setTop (mkF m 114 #[.val (.long x0), .second, .val (.int (5 : Int32)), .val (.ref b111)] []))
  refine own_st (fun t_ => XS.iloadN (own_here Y115) hx rfl (hb hby own_d1_114) rfl) ?_
  show own_Ends _ _ _ _ (T114.setTop (mkF m 115 #[.val (.long x0), .second, .val (.int (5 : Int32)), .val (.ref b111)] [(.int (5 : Int32))]))
  refine own_st (fun t_ => XS.iconst (own_here Y115) hx rfl (hb hby own_d1_115) ) ?_
  show own_Ends _ _ _ _ (T114.setTop (mkF m 116 #[.val (.long x0), .second, .val (.int (5 : Int32)), .val (.ref b111)] [(.int (1 : Int32)), (.int (5 : Int32))]))
  refine own_st (fun t_ => XS.icmpNo (own_here Y115) hx rfl (hb hby own_d1_116) rfl (XT.ii_le_f (by decide))) ?_
  show own_Ends _ _ _ _ (T114.setTop (mkF m 119 #[.val (.long x0), .second, .val (.int (5 : Int32)), .val (.ref b111)] []))
  refine own_st (fun t_ => XS.aloadN (own_here Y115) hx rfl (hb hby own_d1_119) rfl rfl) ?_
  show own_Ends _ _ _ _ (T114.setTop (mkF m 120 #[.val (.long x0), .second, .val (.int (5 : Int32)), .val (.ref b111)] [(.ref b111)]))
  refine own_st (fun t_ => XS.iconst (own_here Y115) hx rfl (hb hby own_d1_120) ) ?_
  show own_Ends _ _ _ _ (T114.setTop (mkF m 121 #[.val (.long x0), .second, .val (.int (5 : Int32)), .val (.ref b111)] [(.int (1 : Int32)), (.ref b111)]))
  refine own_st (fun t_ => XS.lloadN (own_here Y115) hx rfl (hb hby own_d1_121) rfl) ?_
  show own_Ends _ _ _ _ (T114.setTop (mkF m 122 #[.val (.long x0), .second, .val (.int (5 : Int32)), .val (.ref b111)] [(.long x0), (.int (1 : Int32)), (.ref b111)]))
  refine own_st (fun t_ => XS.bipush (own_here Y115) hx rfl (hb hby own_d1_122) ) ?_
  show own_Ends _ _ _ _ (T114.setTop (mkF m 124 #[.val (.long x0), .second, .val (.int (5 : Int32)), .val (.ref b111)] [(.int (8 : Int32)), (.long x0), (.int (1 : Int32)), (.ref b111)]))
  refine own_st (fun t_ => XS.lushr (own_here Y115) hx rfl (hb hby own_d1_124) rfl) ?_
  show own_Ends _ _ _ _ (T114.setTop (mkF m 125 #[.val (.long x0), .second, .val (.int (5 : Int32)), .val (.ref b111)] [(.long ((x0.toUInt64 >>> ((8 : Int32) &&& 0x3f).toInt64.toUInt64).toInt64)), (.int (1 : Int32)), (.ref b111)]))
  refine own_st (fun t_ => XS.l2i (own_here Y115) hx rfl (hb hby own_d1_125) rfl) ?_
  show own_Ends _ _ _ _ (T114.setTop (mkF m 126 #[.val (.long x0), .second, .val (.int (5 : Int32)), .val (.ref b111)] [(.int (((x0.toUInt64 >>> ((8 : Int32) &&& 0x3f).toInt64.toUInt64).toInt64).toInt32)), (.int (1 : Int32)), (.ref b111)]))
  refine own_st (fun t_ => XS.i2b (own_here Y115) hx rfl (hb hby own_d1_126) rfl) ?_
  show own_Ends _ _ _ _ (T114.setTop (mkF m 127 #[.val (.long x0), .second, .val (.int (5 : Int32)), .val (.ref b111)] [(.int ((((x0.toUInt64 >>> ((8 : Int32) &&& 0x3f).toInt64.toUInt64).toInt64).toInt32).toInt8.toInt32)), (.int (1 : Int32)), (.ref b111)]))
  refine own_stB Y115 hx hZ A118 g113 (i := 1) (by decide) (by decide) (Nat.le_of_ble_eq_true rfl) rfl rfl (hb hby own_d1_127) (fun T119 h121 Y120 W122 A123 => ?_)
  replace A123 : own_A Z h121 b111 .byte [(.int (((x0.toInt32).toInt8.toInt32).toInt8.toInt32)), (.int (((((x0.toUInt64 >>> ((8 : Int32) &&& 0x3f).toInt64.toUInt64).toInt64).toInt32).toInt8.toInt32).toInt8.toInt32)), (.int (0 : Int32)), (.int (0 : Int32)), (.int (0 : Int32))] := A123
  show own_Ends _ _ _ _ (T119.setTop (mkF m 128 #[.val (.long x0), .second, .val (.int (5 : Int32)), .val (.ref b111)] []))
  refine own_st (fun t_ => XS.iloadN (own_here Y120) hx rfl (hb hby own_d1_128) rfl) ?_
  show own_Ends _ _ _ _ (T119.setTop (mkF m 129 #[.val (.long x0), .second, .val (.int (5 : Int32)), .val (.ref b111)] [(.int (5 : Int32))]))
  refine own_st (fun t_ => XS.iconst (own_here Y120) hx rfl (hb hby own_d1_129) ) ?_
  show own_Ends _ _ _ _ (T119.setTop (mkF m 130 #[.val (.long x0), .second, .val (.int (5 : Int32)), .val (.ref b111)] [(.int (2 : Int32)), (.int (5 : Int32))]))
  refine own_st (fun t_ => XS.icmpNo (own_here Y120) hx rfl (hb hby own_d1_130) rfl (XT.ii_le_f (by decide))) ?_
  show own_Ends _ _ _ _ (T119.setTop (mkF m 133 #[.val (.long x0), .second, .val (.int (5 : Int32)), .val (.ref b111)] []))
  refine own_st (fun t_ => XS.aloadN (own_here Y120) hx rfl (hb hby own_d1_133) rfl rfl) ?_
  show own_Ends _ _ _ _ (T119.setTop (mkF m 134 #[.val (.long x0), .second, .val (.int (5 : Int32)), .val (.ref b111)] [(.ref b111)]))
  refine own_st (fun t_ => XS.iconst (own_here Y120) hx rfl (hb hby own_d1_134) ) ?_
  show own_Ends _ _ _ _ (T119.setTop (mkF m 135 #[.val (.long x0), .second, .val (.int (5 : Int32)), .val (.ref b111)] [(.int (2 : Int32)), (.ref b111)]))
  refine own_st (fun t_ => XS.lloadN (own_here Y120) hx rfl (hb hby own_d1_135) rfl) ?_
  show own_Ends _ _ _ _ (T119.setTop (mkF m 136 #[.val (.long x0), .second, .val (.int (5 : Int32)), .val (.ref b111)] [(.long x0), (.int (2 : Int32)), (.ref b111)]))
  refine own_st (fun t_ => XS.bipush (own_here Y120) hx rfl (hb hby own_d1_136) ) ?_
  show own_Ends _ _ _ _ (T119.setTop (mkF m 138 #[.val (.long x0), .second, .val (.int (5 : Int32)), .val (.ref b111)] [(.int (16 : Int32)), (.long x0), (.int (2 : Int32)), (.ref b111)]))
  refine own_st (fun t_ => XS.lushr (own_here Y120) hx rfl (hb hby own_d1_138) rfl) ?_
  show own_Ends _ _ _ _ (T119.setTop (mkF m 139 #[.val (.long x0), .second, .val (.int (5 : Int32)), .val (.ref b111)] [(.long ((x0.toUInt64 >>> ((16 : Int32) &&& 0x3f).toInt64.toUInt64).toInt64)), (.int (2 : Int32)), (.ref b111)]))
  refine own_st (fun t_ => XS.l2i (own_here Y120) hx rfl (hb hby own_d1_139) rfl) ?_
  show own_Ends _ _ _ _ (T119.setTop (mkF m 140 #[.val (.long x0), .second, .val (.int (5 : Int32)), .val (.ref b111)] [(.int (((x0.toUInt64 >>> ((16 : Int32) &&& 0x3f).toInt64.toUInt64).toInt64).toInt32)), (.int (2 : Int32)), (.ref b111)]))
  refine own_st (fun t_ => XS.i2b (own_here Y120) hx rfl (hb hby own_d1_140) rfl) ?_
  show own_Ends _ _ _ _ (T119.setTop (mkF m 141 #[.val (.long x0), .second, .val (.int (5 : Int32)), .val (.ref b111)] [(.int ((((x0.toUInt64 >>> ((16 : Int32) &&& 0x3f).toInt64.toUInt64).toInt64).toInt32).toInt8.toInt32)), (.int (2 : Int32)), (.ref b111)]))
  refine own_stB Y120 hx hZ A123 g113 (i := 2) (by decide) (by decide) (Nat.le_of_ble_eq_true rfl) rfl rfl (hb hby own_d1_141) (fun T124 h126 Y125 W127 A128 => ?_)
  replace A128 : own_A Z h126 b111 .byte [(.int (((x0.toInt32).toInt8.toInt32).toInt8.toInt32)), (.int (((((x0.toUInt64 >>> ((8 : Int32) &&& 0x3f).toInt64.toUInt64).toInt64).toInt32).toInt8.toInt32).toInt8.toInt32)), (.int (((((x0.toUInt64 >>> ((16 : Int32) &&& 0x3f).toInt64.toUInt64).toInt64).toInt32).toInt8.toInt32).toInt8.toInt32)), (.int (0 : Int32)), (.int (0 : Int32))] := A128
  show own_Ends _ _ _ _ (T124.setTop (mkF m 142 #[.val (.long x0), .second, .val (.int (5 : Int32)), .val (.ref b111)] []))
  refine own_st (fun t_ => XS.iloadN (own_here Y125) hx rfl (hb hby own_d1_142) rfl) ?_
  show own_Ends _ _ _ _ (T124.setTop (mkF m 143 #[.val (.long x0), .second, .val (.int (5 : Int32)), .val (.ref b111)] [(.int (5 : Int32))]))
  refine own_st (fun t_ => XS.iconst (own_here Y125) hx rfl (hb hby own_d1_143) ) ?_
  show own_Ends _ _ _ _ (T124.setTop (mkF m 144 #[.val (.long x0), .second, .val (.int (5 : Int32)), .val (.ref b111)] [(.int (3 : Int32)), (.int (5 : Int32))]))
  refine own_st (fun t_ => XS.icmpNo (own_here Y125) hx rfl (hb hby own_d1_144) rfl (XT.ii_le_f (by decide))) ?_
  show own_Ends _ _ _ _ (T124.setTop (mkF m 147 #[.val (.long x0), .second, .val (.int (5 : Int32)), .val (.ref b111)] []))
  refine own_st (fun t_ => XS.aloadN (own_here Y125) hx rfl (hb hby own_d1_147) rfl rfl) ?_
  show own_Ends _ _ _ _ (T124.setTop (mkF m 148 #[.val (.long x0), .second, .val (.int (5 : Int32)), .val (.ref b111)] [(.ref b111)]))
  refine own_st (fun t_ => XS.iconst (own_here Y125) hx rfl (hb hby own_d1_148) ) ?_
  show own_Ends _ _ _ _ (T124.setTop (mkF m 149 #[.val (.long x0), .second, .val (.int (5 : Int32)), .val (.ref b111)] [(.int (3 : Int32)), (.ref b111)]))
  refine own_st (fun t_ => XS.lloadN (own_here Y125) hx rfl (hb hby own_d1_149) rfl) ?_
  show own_Ends _ _ _ _ (T124.setTop (mkF m 150 #[.val (.long x0), .second, .val (.int (5 : Int32)), .val (.ref b111)] [(.long x0), (.int (3 : Int32)), (.ref b111)]))
  refine own_st (fun t_ => XS.bipush (own_here Y125) hx rfl (hb hby own_d1_150) ) ?_
  show own_Ends _ _ _ _ (T124.setTop (mkF m 152 #[.val (.long x0), .second, .val (.int (5 : Int32)), .val (.ref b111)] [(.int (24 : Int32)), (.long x0), (.int (3 : Int32)), (.ref b111)]))
  refine own_st (fun t_ => XS.lushr (own_here Y125) hx rfl (hb hby own_d1_152) rfl) ?_
  show own_Ends _ _ _ _ (T124.setTop (mkF m 153 #[.val (.long x0), .second, .val (.int (5 : Int32)), .val (.ref b111)] [(.long ((x0.toUInt64 >>> ((24 : Int32) &&& 0x3f).toInt64.toUInt64).toInt64)), (.int (3 : Int32)), (.ref b111)]))
  refine own_st (fun t_ => XS.l2i (own_here Y125) hx rfl (hb hby own_d1_153) rfl) ?_
  show own_Ends _ _ _ _ (T124.setTop (mkF m 154 #[.val (.long x0), .second, .val (.int (5 : Int32)), .val (.ref b111)] [(.int (((x0.toUInt64 >>> ((24 : Int32) &&& 0x3f).toInt64.toUInt64).toInt64).toInt32)), (.int (3 : Int32)), (.ref b111)]))
  refine own_st (fun t_ => XS.i2b (own_here Y125) hx rfl (hb hby own_d1_154) rfl) ?_
  show own_Ends _ _ _ _ (T124.setTop (mkF m 155 #[.val (.long x0), .second, .val (.int (5 : Int32)), .val (.ref b111)] [(.int ((((x0.toUInt64 >>> ((24 : Int32) &&& 0x3f).toInt64.toUInt64).toInt64).toInt32).toInt8.toInt32)), (.int (3 : Int32)), (.ref b111)]))
  refine own_stB Y125 hx hZ A128 g113 (i := 3) (by decide) (by decide) (Nat.le_of_ble_eq_true rfl) rfl rfl (hb hby own_d1_155) (fun T129 h131 Y130 W132 A133 => ?_)
  replace A133 : own_A Z h131 b111 .byte [(.int (((x0.toInt32).toInt8.toInt32).toInt8.toInt32)), (.int (((((x0.toUInt64 >>> ((8 : Int32) &&& 0x3f).toInt64.toUInt64).toInt64).toInt32).toInt8.toInt32).toInt8.toInt32)), (.int (((((x0.toUInt64 >>> ((16 : Int32) &&& 0x3f).toInt64.toUInt64).toInt64).toInt32).toInt8.toInt32).toInt8.toInt32)), (.int (((((x0.toUInt64 >>> ((24 : Int32) &&& 0x3f).toInt64.toUInt64).toInt64).toInt32).toInt8.toInt32).toInt8.toInt32)), (.int (0 : Int32))] := A133
  show own_Ends _ _ _ _ (T129.setTop (mkF m 156 #[.val (.long x0), .second, .val (.int (5 : Int32)), .val (.ref b111)] []))
  refine own_st (fun t_ => XS.iloadN (own_here Y130) hx rfl (hb hby own_d1_156) rfl) ?_
  show own_Ends _ _ _ _ (T129.setTop (mkF m 157 #[.val (.long x0), .second, .val (.int (5 : Int32)), .val (.ref b111)] [(.int (5 : Int32))]))
  refine own_st (fun t_ => XS.iconst (own_here Y130) hx rfl (hb hby own_d1_157) ) ?_
  show own_Ends _ _ _ _ (T129.setTop (mkF m 158 #[.val (.long x0), .second, .val (.int (5 : Int32)), .val (.ref b111)] [(.int (4 : Int32)), (.int (5 : Int32))]))
  refine own_st (fun t_ => XS.icmpNo (own_here Y130) hx rfl (hb hby own_d1_158) rfl (XT.ii_le_f (by decide))) ?_
  show own_Ends _ _ _ _ (T129.setTop (mkF m 161 #[.val (.long x0), .second, .val (.int (5 : Int32)), .val (.ref b111)] []))
  refine own_st (fun t_ => XS.aloadN (own_here Y130) hx rfl (hb hby own_d1_161) rfl rfl) ?_
  show own_Ends _ _ _ _ (T129.setTop (mkF m 162 #[.val (.long x0), .second, .val (.int (5 : Int32)), .val (.ref b111)] [(.ref b111)]))
  refine own_st (fun t_ => XS.iconst (own_here Y130) hx rfl (hb hby own_d1_162) ) ?_
  show own_Ends _ _ _ _ (T129.setTop (mkF m 163 #[.val (.long x0), .second, .val (.int (5 : Int32)), .val (.ref b111)] [(.int (4 : Int32)), (.ref b111)]))
  refine own_st (fun t_ => XS.lloadN (own_here Y130) hx rfl (hb hby own_d1_163) rfl) ?_
  show own_Ends _ _ _ _ (T129.setTop (mkF m 164 #[.val (.long x0), .second, .val (.int (5 : Int32)), .val (.ref b111)] [(.long x0), (.int (4 : Int32)), (.ref b111)]))
  refine own_st (fun t_ => XS.bipush (own_here Y130) hx rfl (hb hby own_d1_164) ) ?_
  show own_Ends _ _ _ _ (T129.setTop (mkF m 166 #[.val (.long x0), .second, .val (.int (5 : Int32)), .val (.ref b111)] [(.int (32 : Int32)), (.long x0), (.int (4 : Int32)), (.ref b111)]))
  refine own_st (fun t_ => XS.lushr (own_here Y130) hx rfl (hb hby own_d1_166) rfl) ?_
  show own_Ends _ _ _ _ (T129.setTop (mkF m 167 #[.val (.long x0), .second, .val (.int (5 : Int32)), .val (.ref b111)] [(.long ((x0.toUInt64 >>> ((32 : Int32) &&& 0x3f).toInt64.toUInt64).toInt64)), (.int (4 : Int32)), (.ref b111)]))
  refine own_st (fun t_ => XS.l2i (own_here Y130) hx rfl (hb hby own_d1_167) rfl) ?_
  show own_Ends _ _ _ _ (T129.setTop (mkF m 168 #[.val (.long x0), .second, .val (.int (5 : Int32)), .val (.ref b111)] [(.int (((x0.toUInt64 >>> ((32 : Int32) &&& 0x3f).toInt64.toUInt64).toInt64).toInt32)), (.int (4 : Int32)), (.ref b111)]))
  refine own_st (fun t_ => XS.i2b (own_here Y130) hx rfl (hb hby own_d1_168) rfl) ?_
  show own_Ends _ _ _ _ (T129.setTop (mkF m 169 #[.val (.long x0), .second, .val (.int (5 : Int32)), .val (.ref b111)] [(.int ((((x0.toUInt64 >>> ((32 : Int32) &&& 0x3f).toInt64.toUInt64).toInt64).toInt32).toInt8.toInt32)), (.int (4 : Int32)), (.ref b111)]))
  refine own_stB Y130 hx hZ A133 g113 (i := 4) (by decide) (by decide) (Nat.le_of_ble_eq_true rfl) rfl rfl (hb hby own_d1_169) (fun T134 h136 Y135 W137 A138 => ?_)
  replace A138 : own_A Z h136 b111 .byte [(.int (((x0.toInt32).toInt8.toInt32).toInt8.toInt32)), (.int (((((x0.toUInt64 >>> ((8 : Int32) &&& 0x3f).toInt64.toUInt64).toInt64).toInt32).toInt8.toInt32).toInt8.toInt32)), (.int (((((x0.toUInt64 >>> ((16 : Int32) &&& 0x3f).toInt64.toUInt64).toInt64).toInt32).toInt8.toInt32).toInt8.toInt32)), (.int (((((x0.toUInt64 >>> ((24 : Int32) &&& 0x3f).toInt64.toUInt64).toInt64).toInt32).toInt8.toInt32).toInt8.toInt32)), (.int (((((x0.toUInt64 >>> ((32 : Int32) &&& 0x3f).toInt64.toUInt64).toInt64).toInt32).toInt8.toInt32).toInt8.toInt32))] := A138
  show own_Ends _ _ _ _ (T134.setTop (mkF m 170 #[.val (.long x0), .second, .val (.int (5 : Int32)), .val (.ref b111)] []))
  refine own_st (fun t_ => XS.iloadN (own_here Y135) hx rfl (hb hby own_d1_170) rfl) ?_
  show own_Ends _ _ _ _ (T134.setTop (mkF m 171 #[.val (.long x0), .second, .val (.int (5 : Int32)), .val (.ref b111)] [(.int (5 : Int32))]))
  refine own_st (fun t_ => XS.iconst (own_here Y135) hx rfl (hb hby own_d1_171) ) ?_
  show own_Ends _ _ _ _ (T134.setTop (mkF m 172 #[.val (.long x0), .second, .val (.int (5 : Int32)), .val (.ref b111)] [(.int (5 : Int32)), (.int (5 : Int32))]))
  refine own_st (fun t_ => XS.icmpYes (own_here Y135) hx rfl (pc0 := 172) (pc' := 184) rfl (hb hby own_d1_172) rfl (XT.ii_le_t (by decide)) (by decide) (by decide)) ?_
  show own_Ends _ _ _ _ (T134.setTop (mkF m 184 #[.val (.long x0), .second, .val (.int (5 : Int32)), .val (.ref b111)] []))
  refine own_st (fun t_ => XS.iloadN (own_here Y135) hx rfl (hb hby own_d1_184) rfl) ?_
  show own_Ends _ _ _ _ (T134.setTop (mkF m 185 #[.val (.long x0), .second, .val (.int (5 : Int32)), .val (.ref b111)] [(.int (5 : Int32))]))
  refine own_st (fun t_ => XS.bipush (own_here Y135) hx rfl (hb hby own_d1_185) ) ?_
  show own_Ends _ _ _ _ (T134.setTop (mkF m 187 #[.val (.long x0), .second, .val (.int (5 : Int32)), .val (.ref b111)] [(.int (6 : Int32)), (.int (5 : Int32))]))
  refine own_st (fun t_ => XS.icmpYes (own_here Y135) hx rfl (pc0 := 187) (pc' := 200) rfl (hb hby own_d1_187) rfl (XT.ii_le_t (by decide)) (by decide) (by decide)) ?_
  show own_Ends _ _ _ _ (T134.setTop (mkF m 200 #[.val (.long x0), .second, .val (.int (5 : Int32)), .val (.ref b111)] []))
  refine own_st (fun t_ => XS.iloadN (own_here Y135) hx rfl (hb hby own_d1_200) rfl) ?_
  show own_Ends _ _ _ _ (T134.setTop (mkF m 201 #[.val (.long x0), .second, .val (.int (5 : Int32)), .val (.ref b111)] [(.int (5 : Int32))]))
  refine own_st (fun t_ => XS.bipush (own_here Y135) hx rfl (hb hby own_d1_201) ) ?_
  show own_Ends _ _ _ _ (T134.setTop (mkF m 203 #[.val (.long x0), .second, .val (.int (5 : Int32)), .val (.ref b111)] [(.int (7 : Int32)), (.int (5 : Int32))]))
  refine own_st (fun t_ => XS.icmpYes (own_here Y135) hx rfl (pc0 := 203) (pc' := 216) rfl (hb hby own_d1_203) rfl (XT.ii_le_t (by decide)) (by decide) (by decide)) ?_
  show own_Ends _ _ _ _ (T134.setTop (mkF m 216 #[.val (.long x0), .second, .val (.int (5 : Int32)), .val (.ref b111)] []))
  refine own_st (fun t_ => XS.aloadN (own_here Y135) hx rfl (hb hby own_d1_216) rfl rfl) ?_
  show own_Ends _ _ _ _ (T134.setTop (mkF m 217 #[.val (.long x0), .second, .val (.int (5 : Int32)), .val (.ref b111)] [(.ref b111)]))
  have K139 : Keep h0 h108 [] := (Keep.refl h0 []).ext E109
  have K140 : Keep h0 h116 [] := K139.wr W117 (Or.inr (by rw [eb112]; exact (Keep.refl h0 []).1))
  have K141 : Keep h0 h121 [] := K140.wr W122 (Or.inr (by rw [eb112]; exact (Keep.refl h0 []).1))
  have K142 : Keep h0 h126 [] := K141.wr W127 (Or.inr (by rw [eb112]; exact (Keep.refl h0 []).1))
  have K143 : Keep h0 h131 [] := K142.wr W132 (Or.inr (by rw [eb112]; exact (Keep.refl h0 []).1))
  have K144 : Keep h0 h136 [] := K143.wr W137 (Or.inr (by rw [eb112]; exact (Keep.refl h0 []).1))
  refine own_retA Y135 hx hlk hret rfl rfl rfl (hb hby own_d1_217) (by decide) (by decide) ?_
  exact ⟨_, rfl, K144, by have q := A138; simp only [own_bb] at q; exact q⟩
theorem own_d1_71 : decode method_4_code 71 = .ok (.iload_n 2, 1) := by decide +kernel
theorem own_d1_72 : decode method_4_code 72 = .ok (.bipush 6, 2) := by decide +kernel
theorem own_d1_74 : decode method_4_code 74 = .ok (.if_icmp .ne 11, 3) := by decide +kernel
theorem own_d1_77 : decode method_4_code 77 = .ok (.bipush 6, 2) := by decide +kernel
theorem own_d1_79 : decode method_4_code 79 = .ok (.newarray .byte, 2) := by decide +kernel
theorem own_d1_81 : decode method_4_code 81 = .ok (.astore_n 3, 1) := by decide +kernel
theorem own_d1_82 : decode method_4_code 82 = .ok (.goto 22, 3) := by decide +kernel
theorem own_d1_175 : decode method_4_code 175 = .ok (.aload_n 3, 1) := by decide +kernel
theorem own_d1_176 : decode method_4_code 176 = .ok (.iconst 5, 1) := by decide +kernel
theorem own_d1_177 : decode method_4_code 177 = .ok (.lload_n 0, 1) := by decide +kernel
theorem own_d1_178 : decode method_4_code 178 = .ok (.bipush 40, 2) := by decide +kernel
theorem own_d1_180 : decode method_4_code 180 = .ok (.lushr, 1) := by decide +kernel
theorem own_d1_181 : decode method_4_code 181 = .ok (.l2i, 1) := by decide +kernel
theorem own_d1_182 : decode method_4_code 182 = .ok (.i2b, 1) := by decide +kernel
theorem own_d1_183 : decode method_4_code 183 = .ok (.bastore, 1) := by decide +kernel
theorem own_ef_own_rm1_6 (m : MethodId) (x0 : Int64) : entryFrame m #[(.long x0), (.int (6 : Int32))] 4 = mkF m 0 #[.val (.long x0), .second, .val (.int (6 : Int32)), .unset] [] := by first | (simp [entryFrame, mkF, argsToLocals, Value.category]; done) | rfl
def own_Q_own_rm1_6 (Z : State) (x0 : Int64) (h0 : Heap) (n0 : Nat) (v : Option Value) (h : Heap) : Prop := ∃ b : Addr, v = some (.ref b) ∧ Keep h0 h [] ∧ own_A Z h b .byte [(.int (x0.toInt32.toInt8.toInt32)), (.int (((x0.toUInt64 >>> ((8 : Int32) &&& 0x3f).toInt64.toUInt64).toInt64).toInt32.toInt8.toInt32)), (.int (((x0.toUInt64 >>> ((16 : Int32) &&& 0x3f).toInt64.toUInt64).toInt64).toInt32.toInt8.toInt32)), (.int (((x0.toUInt64 >>> ((24 : Int32) &&& 0x3f).toInt64.toUInt64).toInt64).toInt32.toInt8.toInt32)), (.int (((x0.toUInt64 >>> ((32 : Int32) &&& 0x3f).toInt64.toUInt64).toInt64).toInt32.toInt8.toInt32)), (.int (((x0.toUInt64 >>> ((40 : Int32) &&& 0x3f).toInt64.toUInt64).toInt64).toInt32.toInt8.toInt32))]
set_option maxRecDepth 65536 in
set_option maxHeartbeats 40000000 in
theorem own_rm1_6 (l : Launch) (Z : State) (a0 : Array Value) (hw : ∀ d ∈ tables_1, d.before a0 Z = true) (ws : List Jvm.Cond) (x0 : Int64)  (h0 : Heap) (n0 : Nat) (Z0 : n0 ≤ h0.size)  :
    own_Con l Z (⟨"com/example/tagwire/tagwire/wire/BytesStartsWithPinLaw", "prefixOf", "(JI)[B"⟩ : MethodName) method_4_code 4 (some (.array .byte)) ws ({ frames := 0, cells := 1, slots := 6, locals := 0 } : Room) #[(.long x0), (.int (6 : Int32))] h0 n0 (own_Q_own_rm1_6 Z x0 h0 n0) := by
  refine own_body (plainFor_of_name own_pn0) ?_
  intro p e s m below meth c T0 hx hZ hby hml hown hnm hret hlk Y0
  replace hown : s.vm.findClass "com/example/tagwire/tagwire/wire/BytesStartsWithPinLaw" = some m.cls := hown
  replace hnm : meth.name = "prefixOf" := hnm
  rw [own_ef_own_rm1_6 m x0]
  show own_Ends _ _ _ _ (T0.setTop (mkF m 0 #[.val (.long x0), .second, .val (.int (6 : Int32)), .unset] []))
  refine own_st (fun t_ => XS.iloadN (own_here Y0) hx rfl (hb hby own_d1_0) rfl) ?_
  show own_Ends _ _ _ _ (T0.setTop (mkF m 1 #[.val (.long x0), .second, .val (.int (6 : Int32)), .unset] [(.int (6 : Int32))]))
  refine own_st (fun t_ => XS.ifYes (own_here Y0) hx rfl (pc0 := 1) (pc' := 11) rfl (hb hby own_d1_1) rfl (XT.i0_ne_t (by decide)) (by decide) (by decide)) ?_
  show own_Ends _ _ _ _ (T0.setTop (mkF m 11 #[.val (.long x0), .second, .val (.int (6 : Int32)), .unset] []))
  refine own_st (fun t_ => XS.iloadN (own_here Y0) hx rfl (hb hby own_d1_11) rfl) ?_
  show own_Ends _ _ _ _ (T0.setTop (mkF m 12 #[.val (.long x0), .second, .val (.int (6 : Int32)), .unset] [(.int (6 : Int32))]))
  refine own_st (fun t_ => XS.iconst (own_here Y0) hx rfl (hb hby own_d1_12) ) ?_
  show own_Ends _ _ _ _ (T0.setTop (mkF m 13 #[.val (.long x0), .second, .val (.int (6 : Int32)), .unset] [(.int (1 : Int32)), (.int (6 : Int32))]))
  refine own_st (fun t_ => XS.icmpYes (own_here Y0) hx rfl (pc0 := 13) (pc' := 23) rfl (hb hby own_d1_13) rfl (XT.ii_ne_t (by decide)) (by decide) (by decide)) ?_
  show own_Ends _ _ _ _ (T0.setTop (mkF m 23 #[.val (.long x0), .second, .val (.int (6 : Int32)), .unset] []))
  refine own_st (fun t_ => XS.iloadN (own_here Y0) hx rfl (hb hby own_d1_23) rfl) ?_
  show own_Ends _ _ _ _ (T0.setTop (mkF m 24 #[.val (.long x0), .second, .val (.int (6 : Int32)), .unset] [(.int (6 : Int32))]))
  refine own_st (fun t_ => XS.iconst (own_here Y0) hx rfl (hb hby own_d1_24) ) ?_
  show own_Ends _ _ _ _ (T0.setTop (mkF m 25 #[.val (.long x0), .second, .val (.int (6 : Int32)), .unset] [(.int (2 : Int32)), (.int (6 : Int32))]))
  refine own_st (fun t_ => XS.icmpYes (own_here Y0) hx rfl (pc0 := 25) (pc' := 35) rfl (hb hby own_d1_25) rfl (XT.ii_ne_t (by decide)) (by decide) (by decide)) ?_
  show own_Ends _ _ _ _ (T0.setTop (mkF m 35 #[.val (.long x0), .second, .val (.int (6 : Int32)), .unset] []))
  refine own_st (fun t_ => XS.iloadN (own_here Y0) hx rfl (hb hby own_d1_35) rfl) ?_
  show own_Ends _ _ _ _ (T0.setTop (mkF m 36 #[.val (.long x0), .second, .val (.int (6 : Int32)), .unset] [(.int (6 : Int32))]))
  refine own_st (fun t_ => XS.iconst (own_here Y0) hx rfl (hb hby own_d1_36) ) ?_
  show own_Ends _ _ _ _ (T0.setTop (mkF m 37 #[.val (.long x0), .second, .val (.int (6 : Int32)), .unset] [(.int (3 : Int32)), (.int (6 : Int32))]))
  refine own_st (fun t_ => XS.icmpYes (own_here Y0) hx rfl (pc0 := 37) (pc' := 47) rfl (hb hby own_d1_37) rfl (XT.ii_ne_t (by decide)) (by decide) (by decide)) ?_
  show own_Ends _ _ _ _ (T0.setTop (mkF m 47 #[.val (.long x0), .second, .val (.int (6 : Int32)), .unset] []))
  refine own_st (fun t_ => XS.iloadN (own_here Y0) hx rfl (hb hby own_d1_47) rfl) ?_
  show own_Ends _ _ _ _ (T0.setTop (mkF m 48 #[.val (.long x0), .second, .val (.int (6 : Int32)), .unset] [(.int (6 : Int32))]))
  refine own_st (fun t_ => XS.iconst (own_here Y0) hx rfl (hb hby own_d1_48) ) ?_
  show own_Ends _ _ _ _ (T0.setTop (mkF m 49 #[.val (.long x0), .second, .val (.int (6 : Int32)), .unset] [(.int (4 : Int32)), (.int (6 : Int32))]))
  refine own_st (fun t_ => XS.icmpYes (own_here Y0) hx rfl (pc0 := 49) (pc' := 59) rfl (hb hby own_d1_49) rfl (XT.ii_ne_t (by decide)) (by decide) (by decide)) ?_
  show own_Ends _ _ _ _ (T0.setTop (mkF m 59 #[.val (.long x0), .second, .val (.int (6 : Int32)), .unset] []))
  refine own_st (fun t_ => XS.iloadN (own_here Y0) hx rfl (hb hby own_d1_59) rfl) ?_
  show own_Ends _ _ _ _ (T0.setTop (mkF m 60 #[.val (.long x0), .second, .val (.int (6 : Int32)), .unset] [(.int (6 : Int32))]))
  refine own_st (fun t_ => XS.iconst (own_here Y0) hx rfl (hb hby own_d1_60) ) ?_
  show own_Ends _ _ _ _ (T0.setTop (mkF m 61 #[.val (.long x0), .second, .val (.int (6 : Int32)), .unset] [(.int (5 : Int32)), (.int (6 : Int32))]))
  refine own_st (fun t_ => XS.icmpYes (own_here Y0) hx rfl (pc0 := 61) (pc' := 71) rfl (hb hby own_d1_61) rfl (XT.ii_ne_t (by decide)) (by decide) (by decide)) ?_
  show own_Ends _ _ _ _ (T0.setTop (mkF m 71 #[.val (.long x0), .second, .val (.int (6 : Int32)), .unset] []))
  refine own_st (fun t_ => XS.iloadN (own_here Y0) hx rfl (hb hby own_d1_71) rfl) ?_
  show own_Ends _ _ _ _ (T0.setTop (mkF m 72 #[.val (.long x0), .second, .val (.int (6 : Int32)), .unset] [(.int (6 : Int32))]))
  refine own_st (fun t_ => XS.bipush (own_here Y0) hx rfl (hb hby own_d1_72) ) ?_
  show own_Ends _ _ _ _ (T0.setTop (mkF m 74 #[.val (.long x0), .second, .val (.int (6 : Int32)), .unset] [(.int (6 : Int32)), (.int (6 : Int32))]))
  refine own_st (fun t_ => XS.icmpNo (own_here Y0) hx rfl (hb hby own_d1_74) rfl (XT.ii_ne_f (by decide))) ?_
  show own_Ends _ _ _ _ (T0.setTop (mkF m 77 #[.val (.long x0), .second, .val (.int (6 : Int32)), .unset] []))
  refine own_st (fun t_ => XS.bipush (own_here Y0) hx rfl (hb hby own_d1_77) ) ?_
  show own_Ends _ _ _ _ (T0.setTop (mkF m 79 #[.val (.long x0), .second, .val (.int (6 : Int32)), .unset] [(.int (6 : Int32))]))
  refine own_newP Y0 hx hZ (hw _ (List.mem_of_getElem? (i := 0) rfl)) rfl (hb hby own_d1_79) rfl (by decide) (nz := 6) (cap := 6) (by decide) (by decide) (by decide) (by decide) (by decide) (ty := .byte) rfl (fun T145 h147 b150 eb151 Y146 E148 A149 => ?_)
  have g152 : n0 ≤ b150 := by rw [eb151]; exact Z0
  replace A149 : own_A Z h147 b150 .byte [(.int (0 : Int32)), (.int (0 : Int32)), (.int (0 : Int32)), (.int (0 : Int32)), (.int (0 : Int32)), (.int (0 : Int32))] := A149
  show own_Ends _ _ _ _ (T145.setTop (mkF m 81 #[.val (.long x0), .second, .val (.int (6 : Int32)), .unset] [(.ref b150)]))
  refine own_st (fun t_ => XS.astoreN (own_here Y146) hx rfl (hb hby own_d1_81) rfl rfl (l' := #[.val (.long x0), .second, .val (.int (6 : Int32)), .val (.ref b150)]) rfl) ?_
  show own_Ends _ _ _ _ (T145.setTop (mkF m 82 #[.val (.long x0), .second, .val (.int (6 : Int32)), .val (.ref b150)] []))
  refine own_st (fun t_ => XS.goto (own_here Y146) hx rfl (pc0 := 82) (pc' := 104) rfl (hb hby own_d1_82) (by decide) (by decide)) ?_
  show own_Ends _ _ _ _ (T145.setTop (mkF m 104 #[.val (.long x0), .second, .val (.int (6 : Int32)), .val (.ref b150)] []))
  refine own_st (fun t_ => XS.iloadN (own_here Y146) hx rfl (hb hby own_d1_104) rfl) ?_
  show own_Ends _ _ _ _ (T145.setTop (mkF m 105 #[.val (.long x0), .second, .val (.int (6 : Int32)), .val (.ref b150)] [(.int (6 : Int32))]))
  refine own_st (fun t_ => XS.ifNo (own_here Y146) hx rfl (hb hby own_d1_105) rfl (XT.i0_le_f (by decide))) ?_
  show own_Ends _ _ _ _ (T145.setTop (mkF m 108 #[.val (.long x0), .second, .val (.int (6 : Int32)), .val (.ref b150)] []))
  refine own_st (fun t_ => XS.aloadN (own_here Y146) hx rfl (hb hby own_d1_108) rfl rfl) ?_
  show own_Ends _ _ _ _ (T145.setTop (mkF m 109 #[.val (.long x0), .second, .val (.int (6 : Int32)), .val (.ref b150)] [(.ref b150)]))
  refine own_st (fun t_ => XS.iconst (own_here Y146) hx rfl (hb hby own_d1_109) ) ?_
  show own_Ends _ _ _ _ (T145.setTop (mkF m 110 #[.val (.long x0), .second, .val (.int (6 : Int32)), .val (.ref b150)] [(.int (0 : Int32)), (.ref b150)]))
  refine own_st (fun t_ => XS.lloadN (own_here Y146) hx rfl (hb hby own_d1_110) rfl) ?_
  show own_Ends _ _ _ _ (T145.setTop (mkF m 111 #[.val (.long x0), .second, .val (.int (6 : Int32)), .val (.ref b150)] [(.long x0), (.int (0 : Int32)), (.ref b150)]))
  refine own_st (fun t_ => XS.l2i (own_here Y146) hx rfl (hb hby own_d1_111) rfl) ?_
  show own_Ends _ _ _ _ (T145.setTop (mkF m 112 #[.val (.long x0), .second, .val (.int (6 : Int32)), .val (.ref b150)] [(.int (x0.toInt32)), (.int (0 : Int32)), (.ref b150)]))
  refine own_st (fun t_ => XS.i2b (own_here Y146) hx rfl (hb hby own_d1_112) rfl) ?_
  show own_Ends _ _ _ _ (T145.setTop (mkF m 113 #[.val (.long x0), .second, .val (.int (6 : Int32)), .val (.ref b150)] [(.int ((x0.toInt32).toInt8.toInt32)), (.int (0 : Int32)), (.ref b150)]))
  refine own_stB Y146 hx hZ A149 g152 (i := 0) (by decide) (by decide) (Nat.le_of_ble_eq_true rfl) rfl rfl (hb hby own_d1_113) (fun T153 h155 Y154 W156 A157 => ?_)
  replace A157 : own_A Z h155 b150 .byte [(.int (((x0.toInt32).toInt8.toInt32).toInt8.toInt32)), (.int (0 : Int32)), (.int (0 : Int32)), (.int (0 : Int32)), (.int (0 : Int32)), (.int (0 : Int32))] := A157
  show own_Ends _ _ _ _ (T153.setTop (mkF m 114 #[.val (.long x0), .second, .val (.int (6 : Int32)), .val (.ref b150)] []))
  refine own_st (fun t_ => XS.iloadN (own_here Y154) hx rfl (hb hby own_d1_114) rfl) ?_
  show own_Ends _ _ _ _ (T153.setTop (mkF m 115 #[.val (.long x0), .second, .val (.int (6 : Int32)), .val (.ref b150)] [(.int (6 : Int32))]))
  refine own_st (fun t_ => XS.iconst (own_here Y154) hx rfl (hb hby own_d1_115) ) ?_
  show own_Ends _ _ _ _ (T153.setTop (mkF m 116 #[.val (.long x0), .second, .val (.int (6 : Int32)), .val (.ref b150)] [(.int (1 : Int32)), (.int (6 : Int32))]))
  refine own_st (fun t_ => XS.icmpNo (own_here Y154) hx rfl (hb hby own_d1_116) rfl (XT.ii_le_f (by decide))) ?_
  show own_Ends _ _ _ _ (T153.setTop (mkF m 119 #[.val (.long x0), .second, .val (.int (6 : Int32)), .val (.ref b150)] []))
  refine own_st (fun t_ => XS.aloadN (own_here Y154) hx rfl (hb hby own_d1_119) rfl rfl) ?_
  show own_Ends _ _ _ _ (T153.setTop (mkF m 120 #[.val (.long x0), .second, .val (.int (6 : Int32)), .val (.ref b150)] [(.ref b150)]))
  refine own_st (fun t_ => XS.iconst (own_here Y154) hx rfl (hb hby own_d1_120) ) ?_
  show own_Ends _ _ _ _ (T153.setTop (mkF m 121 #[.val (.long x0), .second, .val (.int (6 : Int32)), .val (.ref b150)] [(.int (1 : Int32)), (.ref b150)]))
  refine own_st (fun t_ => XS.lloadN (own_here Y154) hx rfl (hb hby own_d1_121) rfl) ?_
  show own_Ends _ _ _ _ (T153.setTop (mkF m 122 #[.val (.long x0), .second, .val (.int (6 : Int32)), .val (.ref b150)] [(.long x0), (.int (1 : Int32)), (.ref b150)]))
  refine own_st (fun t_ => XS.bipush (own_here Y154) hx rfl (hb hby own_d1_122) ) ?_
  show own_Ends _ _ _ _ (T153.setTop (mkF m 124 #[.val (.long x0), .second, .val (.int (6 : Int32)), .val (.ref b150)] [(.int (8 : Int32)), (.long x0), (.int (1 : Int32)), (.ref b150)]))
  refine own_st (fun t_ => XS.lushr (own_here Y154) hx rfl (hb hby own_d1_124) rfl) ?_
  show own_Ends _ _ _ _ (T153.setTop (mkF m 125 #[.val (.long x0), .second, .val (.int (6 : Int32)), .val (.ref b150)] [(.long ((x0.toUInt64 >>> ((8 : Int32) &&& 0x3f).toInt64.toUInt64).toInt64)), (.int (1 : Int32)), (.ref b150)]))
  refine own_st (fun t_ => XS.l2i (own_here Y154) hx rfl (hb hby own_d1_125) rfl) ?_
  show own_Ends _ _ _ _ (T153.setTop (mkF m 126 #[.val (.long x0), .second, .val (.int (6 : Int32)), .val (.ref b150)] [(.int (((x0.toUInt64 >>> ((8 : Int32) &&& 0x3f).toInt64.toUInt64).toInt64).toInt32)), (.int (1 : Int32)), (.ref b150)]))
  refine own_st (fun t_ => XS.i2b (own_here Y154) hx rfl (hb hby own_d1_126) rfl) ?_
  show own_Ends _ _ _ _ (T153.setTop (mkF m 127 #[.val (.long x0), .second, .val (.int (6 : Int32)), .val (.ref b150)] [(.int ((((x0.toUInt64 >>> ((8 : Int32) &&& 0x3f).toInt64.toUInt64).toInt64).toInt32).toInt8.toInt32)), (.int (1 : Int32)), (.ref b150)]))
  refine own_stB Y154 hx hZ A157 g152 (i := 1) (by decide) (by decide) (Nat.le_of_ble_eq_true rfl) rfl rfl (hb hby own_d1_127) (fun T158 h160 Y159 W161 A162 => ?_)
  replace A162 : own_A Z h160 b150 .byte [(.int (((x0.toInt32).toInt8.toInt32).toInt8.toInt32)), (.int (((((x0.toUInt64 >>> ((8 : Int32) &&& 0x3f).toInt64.toUInt64).toInt64).toInt32).toInt8.toInt32).toInt8.toInt32)), (.int (0 : Int32)), (.int (0 : Int32)), (.int (0 : Int32)), (.int (0 : Int32))] := A162
  show own_Ends _ _ _ _ (T158.setTop (mkF m 128 #[.val (.long x0), .second, .val (.int (6 : Int32)), .val (.ref b150)] []))
  refine own_st (fun t_ => XS.iloadN (own_here Y159) hx rfl (hb hby own_d1_128) rfl) ?_
  show own_Ends _ _ _ _ (T158.setTop (mkF m 129 #[.val (.long x0), .second, .val (.int (6 : Int32)), .val (.ref b150)] [(.int (6 : Int32))]))
  refine own_st (fun t_ => XS.iconst (own_here Y159) hx rfl (hb hby own_d1_129) ) ?_
  show own_Ends _ _ _ _ (T158.setTop (mkF m 130 #[.val (.long x0), .second, .val (.int (6 : Int32)), .val (.ref b150)] [(.int (2 : Int32)), (.int (6 : Int32))]))
  refine own_st (fun t_ => XS.icmpNo (own_here Y159) hx rfl (hb hby own_d1_130) rfl (XT.ii_le_f (by decide))) ?_
  show own_Ends _ _ _ _ (T158.setTop (mkF m 133 #[.val (.long x0), .second, .val (.int (6 : Int32)), .val (.ref b150)] []))
  refine own_st (fun t_ => XS.aloadN (own_here Y159) hx rfl (hb hby own_d1_133) rfl rfl) ?_
  show own_Ends _ _ _ _ (T158.setTop (mkF m 134 #[.val (.long x0), .second, .val (.int (6 : Int32)), .val (.ref b150)] [(.ref b150)]))
  refine own_st (fun t_ => XS.iconst (own_here Y159) hx rfl (hb hby own_d1_134) ) ?_
  show own_Ends _ _ _ _ (T158.setTop (mkF m 135 #[.val (.long x0), .second, .val (.int (6 : Int32)), .val (.ref b150)] [(.int (2 : Int32)), (.ref b150)]))
  refine own_st (fun t_ => XS.lloadN (own_here Y159) hx rfl (hb hby own_d1_135) rfl) ?_
  show own_Ends _ _ _ _ (T158.setTop (mkF m 136 #[.val (.long x0), .second, .val (.int (6 : Int32)), .val (.ref b150)] [(.long x0), (.int (2 : Int32)), (.ref b150)]))
  refine own_st (fun t_ => XS.bipush (own_here Y159) hx rfl (hb hby own_d1_136) ) ?_
  show own_Ends _ _ _ _ (T158.setTop (mkF m 138 #[.val (.long x0), .second, .val (.int (6 : Int32)), .val (.ref b150)] [(.int (16 : Int32)), (.long x0), (.int (2 : Int32)), (.ref b150)]))
  refine own_st (fun t_ => XS.lushr (own_here Y159) hx rfl (hb hby own_d1_138) rfl) ?_
  show own_Ends _ _ _ _ (T158.setTop (mkF m 139 #[.val (.long x0), .second, .val (.int (6 : Int32)), .val (.ref b150)] [(.long ((x0.toUInt64 >>> ((16 : Int32) &&& 0x3f).toInt64.toUInt64).toInt64)), (.int (2 : Int32)), (.ref b150)]))
  refine own_st (fun t_ => XS.l2i (own_here Y159) hx rfl (hb hby own_d1_139) rfl) ?_
  show own_Ends _ _ _ _ (T158.setTop (mkF m 140 #[.val (.long x0), .second, .val (.int (6 : Int32)), .val (.ref b150)] [(.int (((x0.toUInt64 >>> ((16 : Int32) &&& 0x3f).toInt64.toUInt64).toInt64).toInt32)), (.int (2 : Int32)), (.ref b150)]))
  refine own_st (fun t_ => XS.i2b (own_here Y159) hx rfl (hb hby own_d1_140) rfl) ?_
  show own_Ends _ _ _ _ (T158.setTop (mkF m 141 #[.val (.long x0), .second, .val (.int (6 : Int32)), .val (.ref b150)] [(.int ((((x0.toUInt64 >>> ((16 : Int32) &&& 0x3f).toInt64.toUInt64).toInt64).toInt32).toInt8.toInt32)), (.int (2 : Int32)), (.ref b150)]))
  refine own_stB Y159 hx hZ A162 g152 (i := 2) (by decide) (by decide) (Nat.le_of_ble_eq_true rfl) rfl rfl (hb hby own_d1_141) (fun T163 h165 Y164 W166 A167 => ?_)
  replace A167 : own_A Z h165 b150 .byte [(.int (((x0.toInt32).toInt8.toInt32).toInt8.toInt32)), (.int (((((x0.toUInt64 >>> ((8 : Int32) &&& 0x3f).toInt64.toUInt64).toInt64).toInt32).toInt8.toInt32).toInt8.toInt32)), (.int (((((x0.toUInt64 >>> ((16 : Int32) &&& 0x3f).toInt64.toUInt64).toInt64).toInt32).toInt8.toInt32).toInt8.toInt32)), (.int (0 : Int32)), (.int (0 : Int32)), (.int (0 : Int32))] := A167
  show own_Ends _ _ _ _ (T163.setTop (mkF m 142 #[.val (.long x0), .second, .val (.int (6 : Int32)), .val (.ref b150)] []))
  refine own_st (fun t_ => XS.iloadN (own_here Y164) hx rfl (hb hby own_d1_142) rfl) ?_
  show own_Ends _ _ _ _ (T163.setTop (mkF m 143 #[.val (.long x0), .second, .val (.int (6 : Int32)), .val (.ref b150)] [(.int (6 : Int32))]))
  refine own_st (fun t_ => XS.iconst (own_here Y164) hx rfl (hb hby own_d1_143) ) ?_
  show own_Ends _ _ _ _ (T163.setTop (mkF m 144 #[.val (.long x0), .second, .val (.int (6 : Int32)), .val (.ref b150)] [(.int (3 : Int32)), (.int (6 : Int32))]))
  refine own_st (fun t_ => XS.icmpNo (own_here Y164) hx rfl (hb hby own_d1_144) rfl (XT.ii_le_f (by decide))) ?_
  show own_Ends _ _ _ _ (T163.setTop (mkF m 147 #[.val (.long x0), .second, .val (.int (6 : Int32)), .val (.ref b150)] []))
  refine own_st (fun t_ => XS.aloadN (own_here Y164) hx rfl (hb hby own_d1_147) rfl rfl) ?_
  show own_Ends _ _ _ _ (T163.setTop (mkF m 148 #[.val (.long x0), .second, .val (.int (6 : Int32)), .val (.ref b150)] [(.ref b150)]))
  refine own_st (fun t_ => XS.iconst (own_here Y164) hx rfl (hb hby own_d1_148) ) ?_
  show own_Ends _ _ _ _ (T163.setTop (mkF m 149 #[.val (.long x0), .second, .val (.int (6 : Int32)), .val (.ref b150)] [(.int (3 : Int32)), (.ref b150)]))
  refine own_st (fun t_ => XS.lloadN (own_here Y164) hx rfl (hb hby own_d1_149) rfl) ?_
  show own_Ends _ _ _ _ (T163.setTop (mkF m 150 #[.val (.long x0), .second, .val (.int (6 : Int32)), .val (.ref b150)] [(.long x0), (.int (3 : Int32)), (.ref b150)]))
  refine own_st (fun t_ => XS.bipush (own_here Y164) hx rfl (hb hby own_d1_150) ) ?_
  show own_Ends _ _ _ _ (T163.setTop (mkF m 152 #[.val (.long x0), .second, .val (.int (6 : Int32)), .val (.ref b150)] [(.int (24 : Int32)), (.long x0), (.int (3 : Int32)), (.ref b150)]))
  refine own_st (fun t_ => XS.lushr (own_here Y164) hx rfl (hb hby own_d1_152) rfl) ?_
  show own_Ends _ _ _ _ (T163.setTop (mkF m 153 #[.val (.long x0), .second, .val (.int (6 : Int32)), .val (.ref b150)] [(.long ((x0.toUInt64 >>> ((24 : Int32) &&& 0x3f).toInt64.toUInt64).toInt64)), (.int (3 : Int32)), (.ref b150)]))
  refine own_st (fun t_ => XS.l2i (own_here Y164) hx rfl (hb hby own_d1_153) rfl) ?_
  show own_Ends _ _ _ _ (T163.setTop (mkF m 154 #[.val (.long x0), .second, .val (.int (6 : Int32)), .val (.ref b150)] [(.int (((x0.toUInt64 >>> ((24 : Int32) &&& 0x3f).toInt64.toUInt64).toInt64).toInt32)), (.int (3 : Int32)), (.ref b150)]))
  refine own_st (fun t_ => XS.i2b (own_here Y164) hx rfl (hb hby own_d1_154) rfl) ?_
  show own_Ends _ _ _ _ (T163.setTop (mkF m 155 #[.val (.long x0), .second, .val (.int (6 : Int32)), .val (.ref b150)] [(.int ((((x0.toUInt64 >>> ((24 : Int32) &&& 0x3f).toInt64.toUInt64).toInt64).toInt32).toInt8.toInt32)), (.int (3 : Int32)), (.ref b150)]))
  refine own_stB Y164 hx hZ A167 g152 (i := 3) (by decide) (by decide) (Nat.le_of_ble_eq_true rfl) rfl rfl (hb hby own_d1_155) (fun T168 h170 Y169 W171 A172 => ?_)
  replace A172 : own_A Z h170 b150 .byte [(.int (((x0.toInt32).toInt8.toInt32).toInt8.toInt32)), (.int (((((x0.toUInt64 >>> ((8 : Int32) &&& 0x3f).toInt64.toUInt64).toInt64).toInt32).toInt8.toInt32).toInt8.toInt32)), (.int (((((x0.toUInt64 >>> ((16 : Int32) &&& 0x3f).toInt64.toUInt64).toInt64).toInt32).toInt8.toInt32).toInt8.toInt32)), (.int (((((x0.toUInt64 >>> ((24 : Int32) &&& 0x3f).toInt64.toUInt64).toInt64).toInt32).toInt8.toInt32).toInt8.toInt32)), (.int (0 : Int32)), (.int (0 : Int32))] := A172
  show own_Ends _ _ _ _ (T168.setTop (mkF m 156 #[.val (.long x0), .second, .val (.int (6 : Int32)), .val (.ref b150)] []))
  refine own_st (fun t_ => XS.iloadN (own_here Y169) hx rfl (hb hby own_d1_156) rfl) ?_
  show own_Ends _ _ _ _ (T168.setTop (mkF m 157 #[.val (.long x0), .second, .val (.int (6 : Int32)), .val (.ref b150)] [(.int (6 : Int32))]))
  refine own_st (fun t_ => XS.iconst (own_here Y169) hx rfl (hb hby own_d1_157) ) ?_
  show own_Ends _ _ _ _ (T168.setTop (mkF m 158 #[.val (.long x0), .second, .val (.int (6 : Int32)), .val (.ref b150)] [(.int (4 : Int32)), (.int (6 : Int32))]))
  refine own_st (fun t_ => XS.icmpNo (own_here Y169) hx rfl (hb hby own_d1_158) rfl (XT.ii_le_f (by decide))) ?_
  show own_Ends _ _ _ _ (T168.setTop (mkF m 161 #[.val (.long x0), .second, .val (.int (6 : Int32)), .val (.ref b150)] []))
  refine own_st (fun t_ => XS.aloadN (own_here Y169) hx rfl (hb hby own_d1_161) rfl rfl) ?_
  show own_Ends _ _ _ _ (T168.setTop (mkF m 162 #[.val (.long x0), .second, .val (.int (6 : Int32)), .val (.ref b150)] [(.ref b150)]))
  refine own_st (fun t_ => XS.iconst (own_here Y169) hx rfl (hb hby own_d1_162) ) ?_
  show own_Ends _ _ _ _ (T168.setTop (mkF m 163 #[.val (.long x0), .second, .val (.int (6 : Int32)), .val (.ref b150)] [(.int (4 : Int32)), (.ref b150)]))
  refine own_st (fun t_ => XS.lloadN (own_here Y169) hx rfl (hb hby own_d1_163) rfl) ?_
  show own_Ends _ _ _ _ (T168.setTop (mkF m 164 #[.val (.long x0), .second, .val (.int (6 : Int32)), .val (.ref b150)] [(.long x0), (.int (4 : Int32)), (.ref b150)]))
  refine own_st (fun t_ => XS.bipush (own_here Y169) hx rfl (hb hby own_d1_164) ) ?_
  show own_Ends _ _ _ _ (T168.setTop (mkF m 166 #[.val (.long x0), .second, .val (.int (6 : Int32)), .val (.ref b150)] [(.int (32 : Int32)), (.long x0), (.int (4 : Int32)), (.ref b150)]))
  refine own_st (fun t_ => XS.lushr (own_here Y169) hx rfl (hb hby own_d1_166) rfl) ?_
  show own_Ends _ _ _ _ (T168.setTop (mkF m 167 #[.val (.long x0), .second, .val (.int (6 : Int32)), .val (.ref b150)] [(.long ((x0.toUInt64 >>> ((32 : Int32) &&& 0x3f).toInt64.toUInt64).toInt64)), (.int (4 : Int32)), (.ref b150)]))
  refine own_st (fun t_ => XS.l2i (own_here Y169) hx rfl (hb hby own_d1_167) rfl) ?_
  show own_Ends _ _ _ _ (T168.setTop (mkF m 168 #[.val (.long x0), .second, .val (.int (6 : Int32)), .val (.ref b150)] [(.int (((x0.toUInt64 >>> ((32 : Int32) &&& 0x3f).toInt64.toUInt64).toInt64).toInt32)), (.int (4 : Int32)), (.ref b150)]))
  refine own_st (fun t_ => XS.i2b (own_here Y169) hx rfl (hb hby own_d1_168) rfl) ?_
  show own_Ends _ _ _ _ (T168.setTop (mkF m 169 #[.val (.long x0), .second, .val (.int (6 : Int32)), .val (.ref b150)] [(.int ((((x0.toUInt64 >>> ((32 : Int32) &&& 0x3f).toInt64.toUInt64).toInt64).toInt32).toInt8.toInt32)), (.int (4 : Int32)), (.ref b150)]))
  refine own_stB Y169 hx hZ A172 g152 (i := 4) (by decide) (by decide) (Nat.le_of_ble_eq_true rfl) rfl rfl (hb hby own_d1_169) (fun T173 h175 Y174 W176 A177 => ?_)
  replace A177 : own_A Z h175 b150 .byte [(.int (((x0.toInt32).toInt8.toInt32).toInt8.toInt32)), (.int (((((x0.toUInt64 >>> ((8 : Int32) &&& 0x3f).toInt64.toUInt64).toInt64).toInt32).toInt8.toInt32).toInt8.toInt32)), (.int (((((x0.toUInt64 >>> ((16 : Int32) &&& 0x3f).toInt64.toUInt64).toInt64).toInt32).toInt8.toInt32).toInt8.toInt32)), (.int (((((x0.toUInt64 >>> ((24 : Int32) &&& 0x3f).toInt64.toUInt64).toInt64).toInt32).toInt8.toInt32).toInt8.toInt32)), (.int (((((x0.toUInt64 >>> ((32 : Int32) &&& 0x3f).toInt64.toUInt64).toInt64).toInt32).toInt8.toInt32).toInt8.toInt32)), (.int (0 : Int32))] := A177
  show own_Ends _ _ _ _ (T173.setTop (mkF m 170 #[.val (.long x0), .second, .val (.int (6 : Int32)), .val (.ref b150)] []))
  refine own_st (fun t_ => XS.iloadN (own_here Y174) hx rfl (hb hby own_d1_170) rfl) ?_
  show own_Ends _ _ _ _ (T173.setTop (mkF m 171 #[.val (.long x0), .second, .val (.int (6 : Int32)), .val (.ref b150)] [(.int (6 : Int32))]))
  refine own_st (fun t_ => XS.iconst (own_here Y174) hx rfl (hb hby own_d1_171) ) ?_
  show own_Ends _ _ _ _ (T173.setTop (mkF m 172 #[.val (.long x0), .second, .val (.int (6 : Int32)), .val (.ref b150)] [(.int (5 : Int32)), (.int (6 : Int32))]))
  refine own_st (fun t_ => XS.icmpNo (own_here Y174) hx rfl (hb hby own_d1_172) rfl (XT.ii_le_f (by decide))) ?_
  show own_Ends _ _ _ _ (T173.setTop (mkF m 175 #[.val (.long x0), .second, .val (.int (6 : Int32)), .val (.ref b150)] []))
  refine own_st (fun t_ => XS.aloadN (own_here Y174) hx rfl (hb hby own_d1_175) rfl rfl) ?_
  show own_Ends _ _ _ _ (T173.setTop (mkF m 176 #[.val (.long x0), .second, .val (.int (6 : Int32)), .val (.ref b150)] [(.ref b150)]))
  refine own_st (fun t_ => XS.iconst (own_here Y174) hx rfl (hb hby own_d1_176) ) ?_
  show own_Ends _ _ _ _ (T173.setTop (mkF m 177 #[.val (.long x0), .second, .val (.int (6 : Int32)), .val (.ref b150)] [(.int (5 : Int32)), (.ref b150)]))
  refine own_st (fun t_ => XS.lloadN (own_here Y174) hx rfl (hb hby own_d1_177) rfl) ?_
  show own_Ends _ _ _ _ (T173.setTop (mkF m 178 #[.val (.long x0), .second, .val (.int (6 : Int32)), .val (.ref b150)] [(.long x0), (.int (5 : Int32)), (.ref b150)]))
  refine own_st (fun t_ => XS.bipush (own_here Y174) hx rfl (hb hby own_d1_178) ) ?_
  show own_Ends _ _ _ _ (T173.setTop (mkF m 180 #[.val (.long x0), .second, .val (.int (6 : Int32)), .val (.ref b150)] [(.int (40 : Int32)), (.long x0), (.int (5 : Int32)), (.ref b150)]))
  refine own_st (fun t_ => XS.lushr (own_here Y174) hx rfl (hb hby own_d1_180) rfl) ?_
  show own_Ends _ _ _ _ (T173.setTop (mkF m 181 #[.val (.long x0), .second, .val (.int (6 : Int32)), .val (.ref b150)] [(.long ((x0.toUInt64 >>> ((40 : Int32) &&& 0x3f).toInt64.toUInt64).toInt64)), (.int (5 : Int32)), (.ref b150)]))
  refine own_st (fun t_ => XS.l2i (own_here Y174) hx rfl (hb hby own_d1_181) rfl) ?_
  show own_Ends _ _ _ _ (T173.setTop (mkF m 182 #[.val (.long x0), .second, .val (.int (6 : Int32)), .val (.ref b150)] [(.int (((x0.toUInt64 >>> ((40 : Int32) &&& 0x3f).toInt64.toUInt64).toInt64).toInt32)), (.int (5 : Int32)), (.ref b150)]))
  refine own_st (fun t_ => XS.i2b (own_here Y174) hx rfl (hb hby own_d1_182) rfl) ?_
  show own_Ends _ _ _ _ (T173.setTop (mkF m 183 #[.val (.long x0), .second, .val (.int (6 : Int32)), .val (.ref b150)] [(.int ((((x0.toUInt64 >>> ((40 : Int32) &&& 0x3f).toInt64.toUInt64).toInt64).toInt32).toInt8.toInt32)), (.int (5 : Int32)), (.ref b150)]))
  refine own_stB Y174 hx hZ A177 g152 (i := 5) (by decide) (by decide) (Nat.le_of_ble_eq_true rfl) rfl rfl (hb hby own_d1_183) (fun T178 h180 Y179 W181 A182 => ?_)
  replace A182 : own_A Z h180 b150 .byte [(.int (((x0.toInt32).toInt8.toInt32).toInt8.toInt32)), (.int (((((x0.toUInt64 >>> ((8 : Int32) &&& 0x3f).toInt64.toUInt64).toInt64).toInt32).toInt8.toInt32).toInt8.toInt32)), (.int (((((x0.toUInt64 >>> ((16 : Int32) &&& 0x3f).toInt64.toUInt64).toInt64).toInt32).toInt8.toInt32).toInt8.toInt32)), (.int (((((x0.toUInt64 >>> ((24 : Int32) &&& 0x3f).toInt64.toUInt64).toInt64).toInt32).toInt8.toInt32).toInt8.toInt32)), (.int (((((x0.toUInt64 >>> ((32 : Int32) &&& 0x3f).toInt64.toUInt64).toInt64).toInt32).toInt8.toInt32).toInt8.toInt32)), (.int (((((x0.toUInt64 >>> ((40 : Int32) &&& 0x3f).toInt64.toUInt64).toInt64).toInt32).toInt8.toInt32).toInt8.toInt32))] := A182
  show own_Ends _ _ _ _ (T178.setTop (mkF m 184 #[.val (.long x0), .second, .val (.int (6 : Int32)), .val (.ref b150)] []))
  refine own_st (fun t_ => XS.iloadN (own_here Y179) hx rfl (hb hby own_d1_184) rfl) ?_
  show own_Ends _ _ _ _ (T178.setTop (mkF m 185 #[.val (.long x0), .second, .val (.int (6 : Int32)), .val (.ref b150)] [(.int (6 : Int32))]))
  refine own_st (fun t_ => XS.bipush (own_here Y179) hx rfl (hb hby own_d1_185) ) ?_
  show own_Ends _ _ _ _ (T178.setTop (mkF m 187 #[.val (.long x0), .second, .val (.int (6 : Int32)), .val (.ref b150)] [(.int (6 : Int32)), (.int (6 : Int32))]))
  refine own_st (fun t_ => XS.icmpYes (own_here Y179) hx rfl (pc0 := 187) (pc' := 200) rfl (hb hby own_d1_187) rfl (XT.ii_le_t (by decide)) (by decide) (by decide)) ?_
  show own_Ends _ _ _ _ (T178.setTop (mkF m 200 #[.val (.long x0), .second, .val (.int (6 : Int32)), .val (.ref b150)] []))
  refine own_st (fun t_ => XS.iloadN (own_here Y179) hx rfl (hb hby own_d1_200) rfl) ?_
  show own_Ends _ _ _ _ (T178.setTop (mkF m 201 #[.val (.long x0), .second, .val (.int (6 : Int32)), .val (.ref b150)] [(.int (6 : Int32))]))
  refine own_st (fun t_ => XS.bipush (own_here Y179) hx rfl (hb hby own_d1_201) ) ?_
  show own_Ends _ _ _ _ (T178.setTop (mkF m 203 #[.val (.long x0), .second, .val (.int (6 : Int32)), .val (.ref b150)] [(.int (7 : Int32)), (.int (6 : Int32))]))
  refine own_st (fun t_ => XS.icmpYes (own_here Y179) hx rfl (pc0 := 203) (pc' := 216) rfl (hb hby own_d1_203) rfl (XT.ii_le_t (by decide)) (by decide) (by decide)) ?_
  show own_Ends _ _ _ _ (T178.setTop (mkF m 216 #[.val (.long x0), .second, .val (.int (6 : Int32)), .val (.ref b150)] []))
  refine own_st (fun t_ => XS.aloadN (own_here Y179) hx rfl (hb hby own_d1_216) rfl rfl) ?_
  show own_Ends _ _ _ _ (T178.setTop (mkF m 217 #[.val (.long x0), .second, .val (.int (6 : Int32)), .val (.ref b150)] [(.ref b150)]))
  have K183 : Keep h0 h147 [] := (Keep.refl h0 []).ext E148
  have K184 : Keep h0 h155 [] := K183.wr W156 (Or.inr (by rw [eb151]; exact (Keep.refl h0 []).1))
  have K185 : Keep h0 h160 [] := K184.wr W161 (Or.inr (by rw [eb151]; exact (Keep.refl h0 []).1))
  have K186 : Keep h0 h165 [] := K185.wr W166 (Or.inr (by rw [eb151]; exact (Keep.refl h0 []).1))
  have K187 : Keep h0 h170 [] := K186.wr W171 (Or.inr (by rw [eb151]; exact (Keep.refl h0 []).1))
  have K188 : Keep h0 h175 [] := K187.wr W176 (Or.inr (by rw [eb151]; exact (Keep.refl h0 []).1))
  have K189 : Keep h0 h180 [] := K188.wr W181 (Or.inr (by rw [eb151]; exact (Keep.refl h0 []).1))
  refine own_retA Y179 hx hlk hret rfl rfl rfl (hb hby own_d1_217) (by decide) (by decide) ?_
  exact ⟨_, rfl, K189, by have q := A182; simp only [own_bb] at q; exact q⟩
theorem own_d1_85 : decode method_4_code 85 = .ok (.iload_n 2, 1) := by decide +kernel
theorem own_d1_86 : decode method_4_code 86 = .ok (.bipush 7, 2) := by decide +kernel
theorem own_d1_88 : decode method_4_code 88 = .ok (.if_icmp .ne 11, 3) := by decide +kernel
theorem own_d1_91 : decode method_4_code 91 = .ok (.bipush 7, 2) := by decide +kernel
theorem own_d1_93 : decode method_4_code 93 = .ok (.newarray .byte, 2) := by decide +kernel
theorem own_d1_95 : decode method_4_code 95 = .ok (.astore_n 3, 1) := by decide +kernel
theorem own_d1_96 : decode method_4_code 96 = .ok (.goto 8, 3) := by decide +kernel
theorem own_d1_190 : decode method_4_code 190 = .ok (.aload_n 3, 1) := by decide +kernel
theorem own_d1_191 : decode method_4_code 191 = .ok (.bipush 6, 2) := by decide +kernel
theorem own_d1_193 : decode method_4_code 193 = .ok (.lload_n 0, 1) := by decide +kernel
theorem own_d1_194 : decode method_4_code 194 = .ok (.bipush 48, 2) := by decide +kernel
theorem own_d1_196 : decode method_4_code 196 = .ok (.lushr, 1) := by decide +kernel
theorem own_d1_197 : decode method_4_code 197 = .ok (.l2i, 1) := by decide +kernel
theorem own_d1_198 : decode method_4_code 198 = .ok (.i2b, 1) := by decide +kernel
theorem own_d1_199 : decode method_4_code 199 = .ok (.bastore, 1) := by decide +kernel
theorem own_ef_own_rm1_7 (m : MethodId) (x0 : Int64) : entryFrame m #[(.long x0), (.int (7 : Int32))] 4 = mkF m 0 #[.val (.long x0), .second, .val (.int (7 : Int32)), .unset] [] := by first | (simp [entryFrame, mkF, argsToLocals, Value.category]; done) | rfl
def own_Q_own_rm1_7 (Z : State) (x0 : Int64) (h0 : Heap) (n0 : Nat) (v : Option Value) (h : Heap) : Prop := ∃ b : Addr, v = some (.ref b) ∧ Keep h0 h [] ∧ own_A Z h b .byte [(.int (x0.toInt32.toInt8.toInt32)), (.int (((x0.toUInt64 >>> ((8 : Int32) &&& 0x3f).toInt64.toUInt64).toInt64).toInt32.toInt8.toInt32)), (.int (((x0.toUInt64 >>> ((16 : Int32) &&& 0x3f).toInt64.toUInt64).toInt64).toInt32.toInt8.toInt32)), (.int (((x0.toUInt64 >>> ((24 : Int32) &&& 0x3f).toInt64.toUInt64).toInt64).toInt32.toInt8.toInt32)), (.int (((x0.toUInt64 >>> ((32 : Int32) &&& 0x3f).toInt64.toUInt64).toInt64).toInt32.toInt8.toInt32)), (.int (((x0.toUInt64 >>> ((40 : Int32) &&& 0x3f).toInt64.toUInt64).toInt64).toInt32.toInt8.toInt32)), (.int (((x0.toUInt64 >>> ((48 : Int32) &&& 0x3f).toInt64.toUInt64).toInt64).toInt32.toInt8.toInt32))]
set_option maxRecDepth 65536 in
set_option maxHeartbeats 40000000 in
theorem own_rm1_7 (l : Launch) (Z : State) (a0 : Array Value) (hw : ∀ d ∈ tables_1, d.before a0 Z = true) (ws : List Jvm.Cond) (x0 : Int64)  (h0 : Heap) (n0 : Nat) (Z0 : n0 ≤ h0.size)  :
    own_Con l Z (⟨"com/example/tagwire/tagwire/wire/BytesStartsWithPinLaw", "prefixOf", "(JI)[B"⟩ : MethodName) method_4_code 4 (some (.array .byte)) ws ({ frames := 0, cells := 1, slots := 7, locals := 0 } : Room) #[(.long x0), (.int (7 : Int32))] h0 n0 (own_Q_own_rm1_7 Z x0 h0 n0) := by
  refine own_body (plainFor_of_name own_pn0) ?_
  intro p e s m below meth c T0 hx hZ hby hml hown hnm hret hlk Y0
  replace hown : s.vm.findClass "com/example/tagwire/tagwire/wire/BytesStartsWithPinLaw" = some m.cls := hown
  replace hnm : meth.name = "prefixOf" := hnm
  rw [own_ef_own_rm1_7 m x0]
  show own_Ends _ _ _ _ (T0.setTop (mkF m 0 #[.val (.long x0), .second, .val (.int (7 : Int32)), .unset] []))
  refine own_st (fun t_ => XS.iloadN (own_here Y0) hx rfl (hb hby own_d1_0) rfl) ?_
  show own_Ends _ _ _ _ (T0.setTop (mkF m 1 #[.val (.long x0), .second, .val (.int (7 : Int32)), .unset] [(.int (7 : Int32))]))
  refine own_st (fun t_ => XS.ifYes (own_here Y0) hx rfl (pc0 := 1) (pc' := 11) rfl (hb hby own_d1_1) rfl (XT.i0_ne_t (by decide)) (by decide) (by decide)) ?_
  show own_Ends _ _ _ _ (T0.setTop (mkF m 11 #[.val (.long x0), .second, .val (.int (7 : Int32)), .unset] []))
  refine own_st (fun t_ => XS.iloadN (own_here Y0) hx rfl (hb hby own_d1_11) rfl) ?_
  show own_Ends _ _ _ _ (T0.setTop (mkF m 12 #[.val (.long x0), .second, .val (.int (7 : Int32)), .unset] [(.int (7 : Int32))]))
  refine own_st (fun t_ => XS.iconst (own_here Y0) hx rfl (hb hby own_d1_12) ) ?_
  show own_Ends _ _ _ _ (T0.setTop (mkF m 13 #[.val (.long x0), .second, .val (.int (7 : Int32)), .unset] [(.int (1 : Int32)), (.int (7 : Int32))]))
  refine own_st (fun t_ => XS.icmpYes (own_here Y0) hx rfl (pc0 := 13) (pc' := 23) rfl (hb hby own_d1_13) rfl (XT.ii_ne_t (by decide)) (by decide) (by decide)) ?_
  show own_Ends _ _ _ _ (T0.setTop (mkF m 23 #[.val (.long x0), .second, .val (.int (7 : Int32)), .unset] []))
  refine own_st (fun t_ => XS.iloadN (own_here Y0) hx rfl (hb hby own_d1_23) rfl) ?_
  show own_Ends _ _ _ _ (T0.setTop (mkF m 24 #[.val (.long x0), .second, .val (.int (7 : Int32)), .unset] [(.int (7 : Int32))]))
  refine own_st (fun t_ => XS.iconst (own_here Y0) hx rfl (hb hby own_d1_24) ) ?_
  show own_Ends _ _ _ _ (T0.setTop (mkF m 25 #[.val (.long x0), .second, .val (.int (7 : Int32)), .unset] [(.int (2 : Int32)), (.int (7 : Int32))]))
  refine own_st (fun t_ => XS.icmpYes (own_here Y0) hx rfl (pc0 := 25) (pc' := 35) rfl (hb hby own_d1_25) rfl (XT.ii_ne_t (by decide)) (by decide) (by decide)) ?_
  show own_Ends _ _ _ _ (T0.setTop (mkF m 35 #[.val (.long x0), .second, .val (.int (7 : Int32)), .unset] []))
  refine own_st (fun t_ => XS.iloadN (own_here Y0) hx rfl (hb hby own_d1_35) rfl) ?_
  show own_Ends _ _ _ _ (T0.setTop (mkF m 36 #[.val (.long x0), .second, .val (.int (7 : Int32)), .unset] [(.int (7 : Int32))]))
  refine own_st (fun t_ => XS.iconst (own_here Y0) hx rfl (hb hby own_d1_36) ) ?_
  show own_Ends _ _ _ _ (T0.setTop (mkF m 37 #[.val (.long x0), .second, .val (.int (7 : Int32)), .unset] [(.int (3 : Int32)), (.int (7 : Int32))]))
  refine own_st (fun t_ => XS.icmpYes (own_here Y0) hx rfl (pc0 := 37) (pc' := 47) rfl (hb hby own_d1_37) rfl (XT.ii_ne_t (by decide)) (by decide) (by decide)) ?_
  show own_Ends _ _ _ _ (T0.setTop (mkF m 47 #[.val (.long x0), .second, .val (.int (7 : Int32)), .unset] []))
  refine own_st (fun t_ => XS.iloadN (own_here Y0) hx rfl (hb hby own_d1_47) rfl) ?_
  show own_Ends _ _ _ _ (T0.setTop (mkF m 48 #[.val (.long x0), .second, .val (.int (7 : Int32)), .unset] [(.int (7 : Int32))]))
  refine own_st (fun t_ => XS.iconst (own_here Y0) hx rfl (hb hby own_d1_48) ) ?_
  show own_Ends _ _ _ _ (T0.setTop (mkF m 49 #[.val (.long x0), .second, .val (.int (7 : Int32)), .unset] [(.int (4 : Int32)), (.int (7 : Int32))]))
  refine own_st (fun t_ => XS.icmpYes (own_here Y0) hx rfl (pc0 := 49) (pc' := 59) rfl (hb hby own_d1_49) rfl (XT.ii_ne_t (by decide)) (by decide) (by decide)) ?_
  show own_Ends _ _ _ _ (T0.setTop (mkF m 59 #[.val (.long x0), .second, .val (.int (7 : Int32)), .unset] []))
  refine own_st (fun t_ => XS.iloadN (own_here Y0) hx rfl (hb hby own_d1_59) rfl) ?_
  show own_Ends _ _ _ _ (T0.setTop (mkF m 60 #[.val (.long x0), .second, .val (.int (7 : Int32)), .unset] [(.int (7 : Int32))]))
  refine own_st (fun t_ => XS.iconst (own_here Y0) hx rfl (hb hby own_d1_60) ) ?_
  show own_Ends _ _ _ _ (T0.setTop (mkF m 61 #[.val (.long x0), .second, .val (.int (7 : Int32)), .unset] [(.int (5 : Int32)), (.int (7 : Int32))]))
  refine own_st (fun t_ => XS.icmpYes (own_here Y0) hx rfl (pc0 := 61) (pc' := 71) rfl (hb hby own_d1_61) rfl (XT.ii_ne_t (by decide)) (by decide) (by decide)) ?_
  show own_Ends _ _ _ _ (T0.setTop (mkF m 71 #[.val (.long x0), .second, .val (.int (7 : Int32)), .unset] []))
  refine own_st (fun t_ => XS.iloadN (own_here Y0) hx rfl (hb hby own_d1_71) rfl) ?_
  show own_Ends _ _ _ _ (T0.setTop (mkF m 72 #[.val (.long x0), .second, .val (.int (7 : Int32)), .unset] [(.int (7 : Int32))]))
  refine own_st (fun t_ => XS.bipush (own_here Y0) hx rfl (hb hby own_d1_72) ) ?_
  show own_Ends _ _ _ _ (T0.setTop (mkF m 74 #[.val (.long x0), .second, .val (.int (7 : Int32)), .unset] [(.int (6 : Int32)), (.int (7 : Int32))]))
  refine own_st (fun t_ => XS.icmpYes (own_here Y0) hx rfl (pc0 := 74) (pc' := 85) rfl (hb hby own_d1_74) rfl (XT.ii_ne_t (by decide)) (by decide) (by decide)) ?_
  show own_Ends _ _ _ _ (T0.setTop (mkF m 85 #[.val (.long x0), .second, .val (.int (7 : Int32)), .unset] []))
  refine own_st (fun t_ => XS.iloadN (own_here Y0) hx rfl (hb hby own_d1_85) rfl) ?_
  show own_Ends _ _ _ _ (T0.setTop (mkF m 86 #[.val (.long x0), .second, .val (.int (7 : Int32)), .unset] [(.int (7 : Int32))]))
  refine own_st (fun t_ => XS.bipush (own_here Y0) hx rfl (hb hby own_d1_86) ) ?_
  show own_Ends _ _ _ _ (T0.setTop (mkF m 88 #[.val (.long x0), .second, .val (.int (7 : Int32)), .unset] [(.int (7 : Int32)), (.int (7 : Int32))]))
  refine own_st (fun t_ => XS.icmpNo (own_here Y0) hx rfl (hb hby own_d1_88) rfl (XT.ii_ne_f (by decide))) ?_
  show own_Ends _ _ _ _ (T0.setTop (mkF m 91 #[.val (.long x0), .second, .val (.int (7 : Int32)), .unset] []))
  refine own_st (fun t_ => XS.bipush (own_here Y0) hx rfl (hb hby own_d1_91) ) ?_
  show own_Ends _ _ _ _ (T0.setTop (mkF m 93 #[.val (.long x0), .second, .val (.int (7 : Int32)), .unset] [(.int (7 : Int32))]))
  refine own_newP Y0 hx hZ (hw _ (List.mem_of_getElem? (i := 0) rfl)) rfl (hb hby own_d1_93) rfl (by decide) (nz := 7) (cap := 7) (by decide) (by decide) (by decide) (by decide) (by decide) (ty := .byte) rfl (fun T190 h192 b195 eb196 Y191 E193 A194 => ?_)
  have g197 : n0 ≤ b195 := by rw [eb196]; exact Z0
  replace A194 : own_A Z h192 b195 .byte [(.int (0 : Int32)), (.int (0 : Int32)), (.int (0 : Int32)), (.int (0 : Int32)), (.int (0 : Int32)), (.int (0 : Int32)), (.int (0 : Int32))] := A194
  show own_Ends _ _ _ _ (T190.setTop (mkF m 95 #[.val (.long x0), .second, .val (.int (7 : Int32)), .unset] [(.ref b195)]))
  refine own_st (fun t_ => XS.astoreN (own_here Y191) hx rfl (hb hby own_d1_95) rfl rfl (l' := #[.val (.long x0), .second, .val (.int (7 : Int32)), .val (.ref b195)]) rfl) ?_
  show own_Ends _ _ _ _ (T190.setTop (mkF m 96 #[.val (.long x0), .second, .val (.int (7 : Int32)), .val (.ref b195)] []))
  refine own_st (fun t_ => XS.goto (own_here Y191) hx rfl (pc0 := 96) (pc' := 104) rfl (hb hby own_d1_96) (by decide) (by decide)) ?_
  show own_Ends _ _ _ _ (T190.setTop (mkF m 104 #[.val (.long x0), .second, .val (.int (7 : Int32)), .val (.ref b195)] []))
  refine own_st (fun t_ => XS.iloadN (own_here Y191) hx rfl (hb hby own_d1_104) rfl) ?_
  show own_Ends _ _ _ _ (T190.setTop (mkF m 105 #[.val (.long x0), .second, .val (.int (7 : Int32)), .val (.ref b195)] [(.int (7 : Int32))]))
  refine own_st (fun t_ => XS.ifNo (own_here Y191) hx rfl (hb hby own_d1_105) rfl (XT.i0_le_f (by decide))) ?_
  show own_Ends _ _ _ _ (T190.setTop (mkF m 108 #[.val (.long x0), .second, .val (.int (7 : Int32)), .val (.ref b195)] []))
  refine own_st (fun t_ => XS.aloadN (own_here Y191) hx rfl (hb hby own_d1_108) rfl rfl) ?_
  show own_Ends _ _ _ _ (T190.setTop (mkF m 109 #[.val (.long x0), .second, .val (.int (7 : Int32)), .val (.ref b195)] [(.ref b195)]))
  refine own_st (fun t_ => XS.iconst (own_here Y191) hx rfl (hb hby own_d1_109) ) ?_
  show own_Ends _ _ _ _ (T190.setTop (mkF m 110 #[.val (.long x0), .second, .val (.int (7 : Int32)), .val (.ref b195)] [(.int (0 : Int32)), (.ref b195)]))
  refine own_st (fun t_ => XS.lloadN (own_here Y191) hx rfl (hb hby own_d1_110) rfl) ?_
  show own_Ends _ _ _ _ (T190.setTop (mkF m 111 #[.val (.long x0), .second, .val (.int (7 : Int32)), .val (.ref b195)] [(.long x0), (.int (0 : Int32)), (.ref b195)]))
  refine own_st (fun t_ => XS.l2i (own_here Y191) hx rfl (hb hby own_d1_111) rfl) ?_
  show own_Ends _ _ _ _ (T190.setTop (mkF m 112 #[.val (.long x0), .second, .val (.int (7 : Int32)), .val (.ref b195)] [(.int (x0.toInt32)), (.int (0 : Int32)), (.ref b195)]))
  refine own_st (fun t_ => XS.i2b (own_here Y191) hx rfl (hb hby own_d1_112) rfl) ?_
  show own_Ends _ _ _ _ (T190.setTop (mkF m 113 #[.val (.long x0), .second, .val (.int (7 : Int32)), .val (.ref b195)] [(.int ((x0.toInt32).toInt8.toInt32)), (.int (0 : Int32)), (.ref b195)]))
  refine own_stB Y191 hx hZ A194 g197 (i := 0) (by decide) (by decide) (Nat.le_of_ble_eq_true rfl) rfl rfl (hb hby own_d1_113) (fun T198 h200 Y199 W201 A202 => ?_)
  replace A202 : own_A Z h200 b195 .byte [(.int (((x0.toInt32).toInt8.toInt32).toInt8.toInt32)), (.int (0 : Int32)), (.int (0 : Int32)), (.int (0 : Int32)), (.int (0 : Int32)), (.int (0 : Int32)), (.int (0 : Int32))] := A202
  show own_Ends _ _ _ _ (T198.setTop (mkF m 114 #[.val (.long x0), .second, .val (.int (7 : Int32)), .val (.ref b195)] []))
  refine own_st (fun t_ => XS.iloadN (own_here Y199) hx rfl (hb hby own_d1_114) rfl) ?_
  show own_Ends _ _ _ _ (T198.setTop (mkF m 115 #[.val (.long x0), .second, .val (.int (7 : Int32)), .val (.ref b195)] [(.int (7 : Int32))]))
  refine own_st (fun t_ => XS.iconst (own_here Y199) hx rfl (hb hby own_d1_115) ) ?_
  show own_Ends _ _ _ _ (T198.setTop (mkF m 116 #[.val (.long x0), .second, .val (.int (7 : Int32)), .val (.ref b195)] [(.int (1 : Int32)), (.int (7 : Int32))]))
  refine own_st (fun t_ => XS.icmpNo (own_here Y199) hx rfl (hb hby own_d1_116) rfl (XT.ii_le_f (by decide))) ?_
  show own_Ends _ _ _ _ (T198.setTop (mkF m 119 #[.val (.long x0), .second, .val (.int (7 : Int32)), .val (.ref b195)] []))
  refine own_st (fun t_ => XS.aloadN (own_here Y199) hx rfl (hb hby own_d1_119) rfl rfl) ?_
  show own_Ends _ _ _ _ (T198.setTop (mkF m 120 #[.val (.long x0), .second, .val (.int (7 : Int32)), .val (.ref b195)] [(.ref b195)]))
  refine own_st (fun t_ => XS.iconst (own_here Y199) hx rfl (hb hby own_d1_120) ) ?_
  show own_Ends _ _ _ _ (T198.setTop (mkF m 121 #[.val (.long x0), .second, .val (.int (7 : Int32)), .val (.ref b195)] [(.int (1 : Int32)), (.ref b195)]))
  refine own_st (fun t_ => XS.lloadN (own_here Y199) hx rfl (hb hby own_d1_121) rfl) ?_
  show own_Ends _ _ _ _ (T198.setTop (mkF m 122 #[.val (.long x0), .second, .val (.int (7 : Int32)), .val (.ref b195)] [(.long x0), (.int (1 : Int32)), (.ref b195)]))
  refine own_st (fun t_ => XS.bipush (own_here Y199) hx rfl (hb hby own_d1_122) ) ?_
  show own_Ends _ _ _ _ (T198.setTop (mkF m 124 #[.val (.long x0), .second, .val (.int (7 : Int32)), .val (.ref b195)] [(.int (8 : Int32)), (.long x0), (.int (1 : Int32)), (.ref b195)]))
  refine own_st (fun t_ => XS.lushr (own_here Y199) hx rfl (hb hby own_d1_124) rfl) ?_
  show own_Ends _ _ _ _ (T198.setTop (mkF m 125 #[.val (.long x0), .second, .val (.int (7 : Int32)), .val (.ref b195)] [(.long ((x0.toUInt64 >>> ((8 : Int32) &&& 0x3f).toInt64.toUInt64).toInt64)), (.int (1 : Int32)), (.ref b195)]))
  refine own_st (fun t_ => XS.l2i (own_here Y199) hx rfl (hb hby own_d1_125) rfl) ?_
  show own_Ends _ _ _ _ (T198.setTop (mkF m 126 #[.val (.long x0), .second, .val (.int (7 : Int32)), .val (.ref b195)] [(.int (((x0.toUInt64 >>> ((8 : Int32) &&& 0x3f).toInt64.toUInt64).toInt64).toInt32)), (.int (1 : Int32)), (.ref b195)]))
  refine own_st (fun t_ => XS.i2b (own_here Y199) hx rfl (hb hby own_d1_126) rfl) ?_
  show own_Ends _ _ _ _ (T198.setTop (mkF m 127 #[.val (.long x0), .second, .val (.int (7 : Int32)), .val (.ref b195)] [(.int ((((x0.toUInt64 >>> ((8 : Int32) &&& 0x3f).toInt64.toUInt64).toInt64).toInt32).toInt8.toInt32)), (.int (1 : Int32)), (.ref b195)]))
  refine own_stB Y199 hx hZ A202 g197 (i := 1) (by decide) (by decide) (Nat.le_of_ble_eq_true rfl) rfl rfl (hb hby own_d1_127) (fun T203 h205 Y204 W206 A207 => ?_)
  replace A207 : own_A Z h205 b195 .byte [(.int (((x0.toInt32).toInt8.toInt32).toInt8.toInt32)), (.int (((((x0.toUInt64 >>> ((8 : Int32) &&& 0x3f).toInt64.toUInt64).toInt64).toInt32).toInt8.toInt32).toInt8.toInt32)), (.int (0 : Int32)), (.int (0 : Int32)), (.int (0 : Int32)), (.int (0 : Int32)), (.int (0 : Int32))] := A207
  show own_Ends _ _ _ _ (T203.setTop (mkF m 128 #[.val (.long x0), .second, .val (.int (7 : Int32)), .val (.ref b195)] []))
  refine own_st (fun t_ => XS.iloadN (own_here Y204) hx rfl (hb hby own_d1_128) rfl) ?_
  show own_Ends _ _ _ _ (T203.setTop (mkF m 129 #[.val (.long x0), .second, .val (.int (7 : Int32)), .val (.ref b195)] [(.int (7 : Int32))]))
  refine own_st (fun t_ => XS.iconst (own_here Y204) hx rfl (hb hby own_d1_129) ) ?_
  show own_Ends _ _ _ _ (T203.setTop (mkF m 130 #[.val (.long x0), .second, .val (.int (7 : Int32)), .val (.ref b195)] [(.int (2 : Int32)), (.int (7 : Int32))]))
  refine own_st (fun t_ => XS.icmpNo (own_here Y204) hx rfl (hb hby own_d1_130) rfl (XT.ii_le_f (by decide))) ?_
  show own_Ends _ _ _ _ (T203.setTop (mkF m 133 #[.val (.long x0), .second, .val (.int (7 : Int32)), .val (.ref b195)] []))
  refine own_st (fun t_ => XS.aloadN (own_here Y204) hx rfl (hb hby own_d1_133) rfl rfl) ?_
  show own_Ends _ _ _ _ (T203.setTop (mkF m 134 #[.val (.long x0), .second, .val (.int (7 : Int32)), .val (.ref b195)] [(.ref b195)]))
  refine own_st (fun t_ => XS.iconst (own_here Y204) hx rfl (hb hby own_d1_134) ) ?_
  show own_Ends _ _ _ _ (T203.setTop (mkF m 135 #[.val (.long x0), .second, .val (.int (7 : Int32)), .val (.ref b195)] [(.int (2 : Int32)), (.ref b195)]))
  refine own_st (fun t_ => XS.lloadN (own_here Y204) hx rfl (hb hby own_d1_135) rfl) ?_
  show own_Ends _ _ _ _ (T203.setTop (mkF m 136 #[.val (.long x0), .second, .val (.int (7 : Int32)), .val (.ref b195)] [(.long x0), (.int (2 : Int32)), (.ref b195)]))
  refine own_st (fun t_ => XS.bipush (own_here Y204) hx rfl (hb hby own_d1_136) ) ?_
  show own_Ends _ _ _ _ (T203.setTop (mkF m 138 #[.val (.long x0), .second, .val (.int (7 : Int32)), .val (.ref b195)] [(.int (16 : Int32)), (.long x0), (.int (2 : Int32)), (.ref b195)]))
  refine own_st (fun t_ => XS.lushr (own_here Y204) hx rfl (hb hby own_d1_138) rfl) ?_
  show own_Ends _ _ _ _ (T203.setTop (mkF m 139 #[.val (.long x0), .second, .val (.int (7 : Int32)), .val (.ref b195)] [(.long ((x0.toUInt64 >>> ((16 : Int32) &&& 0x3f).toInt64.toUInt64).toInt64)), (.int (2 : Int32)), (.ref b195)]))
  refine own_st (fun t_ => XS.l2i (own_here Y204) hx rfl (hb hby own_d1_139) rfl) ?_
  show own_Ends _ _ _ _ (T203.setTop (mkF m 140 #[.val (.long x0), .second, .val (.int (7 : Int32)), .val (.ref b195)] [(.int (((x0.toUInt64 >>> ((16 : Int32) &&& 0x3f).toInt64.toUInt64).toInt64).toInt32)), (.int (2 : Int32)), (.ref b195)]))
  refine own_st (fun t_ => XS.i2b (own_here Y204) hx rfl (hb hby own_d1_140) rfl) ?_
  show own_Ends _ _ _ _ (T203.setTop (mkF m 141 #[.val (.long x0), .second, .val (.int (7 : Int32)), .val (.ref b195)] [(.int ((((x0.toUInt64 >>> ((16 : Int32) &&& 0x3f).toInt64.toUInt64).toInt64).toInt32).toInt8.toInt32)), (.int (2 : Int32)), (.ref b195)]))
  refine own_stB Y204 hx hZ A207 g197 (i := 2) (by decide) (by decide) (Nat.le_of_ble_eq_true rfl) rfl rfl (hb hby own_d1_141) (fun T208 h210 Y209 W211 A212 => ?_)
  replace A212 : own_A Z h210 b195 .byte [(.int (((x0.toInt32).toInt8.toInt32).toInt8.toInt32)), (.int (((((x0.toUInt64 >>> ((8 : Int32) &&& 0x3f).toInt64.toUInt64).toInt64).toInt32).toInt8.toInt32).toInt8.toInt32)), (.int (((((x0.toUInt64 >>> ((16 : Int32) &&& 0x3f).toInt64.toUInt64).toInt64).toInt32).toInt8.toInt32).toInt8.toInt32)), (.int (0 : Int32)), (.int (0 : Int32)), (.int (0 : Int32)), (.int (0 : Int32))] := A212
  show own_Ends _ _ _ _ (T208.setTop (mkF m 142 #[.val (.long x0), .second, .val (.int (7 : Int32)), .val (.ref b195)] []))
  refine own_st (fun t_ => XS.iloadN (own_here Y209) hx rfl (hb hby own_d1_142) rfl) ?_
  show own_Ends _ _ _ _ (T208.setTop (mkF m 143 #[.val (.long x0), .second, .val (.int (7 : Int32)), .val (.ref b195)] [(.int (7 : Int32))]))
  refine own_st (fun t_ => XS.iconst (own_here Y209) hx rfl (hb hby own_d1_143) ) ?_
  show own_Ends _ _ _ _ (T208.setTop (mkF m 144 #[.val (.long x0), .second, .val (.int (7 : Int32)), .val (.ref b195)] [(.int (3 : Int32)), (.int (7 : Int32))]))
  refine own_st (fun t_ => XS.icmpNo (own_here Y209) hx rfl (hb hby own_d1_144) rfl (XT.ii_le_f (by decide))) ?_
  show own_Ends _ _ _ _ (T208.setTop (mkF m 147 #[.val (.long x0), .second, .val (.int (7 : Int32)), .val (.ref b195)] []))
  refine own_st (fun t_ => XS.aloadN (own_here Y209) hx rfl (hb hby own_d1_147) rfl rfl) ?_
  show own_Ends _ _ _ _ (T208.setTop (mkF m 148 #[.val (.long x0), .second, .val (.int (7 : Int32)), .val (.ref b195)] [(.ref b195)]))
  refine own_st (fun t_ => XS.iconst (own_here Y209) hx rfl (hb hby own_d1_148) ) ?_
  show own_Ends _ _ _ _ (T208.setTop (mkF m 149 #[.val (.long x0), .second, .val (.int (7 : Int32)), .val (.ref b195)] [(.int (3 : Int32)), (.ref b195)]))
  refine own_st (fun t_ => XS.lloadN (own_here Y209) hx rfl (hb hby own_d1_149) rfl) ?_
  show own_Ends _ _ _ _ (T208.setTop (mkF m 150 #[.val (.long x0), .second, .val (.int (7 : Int32)), .val (.ref b195)] [(.long x0), (.int (3 : Int32)), (.ref b195)]))
  refine own_st (fun t_ => XS.bipush (own_here Y209) hx rfl (hb hby own_d1_150) ) ?_
  show own_Ends _ _ _ _ (T208.setTop (mkF m 152 #[.val (.long x0), .second, .val (.int (7 : Int32)), .val (.ref b195)] [(.int (24 : Int32)), (.long x0), (.int (3 : Int32)), (.ref b195)]))
  refine own_st (fun t_ => XS.lushr (own_here Y209) hx rfl (hb hby own_d1_152) rfl) ?_
  show own_Ends _ _ _ _ (T208.setTop (mkF m 153 #[.val (.long x0), .second, .val (.int (7 : Int32)), .val (.ref b195)] [(.long ((x0.toUInt64 >>> ((24 : Int32) &&& 0x3f).toInt64.toUInt64).toInt64)), (.int (3 : Int32)), (.ref b195)]))
  refine own_st (fun t_ => XS.l2i (own_here Y209) hx rfl (hb hby own_d1_153) rfl) ?_
  show own_Ends _ _ _ _ (T208.setTop (mkF m 154 #[.val (.long x0), .second, .val (.int (7 : Int32)), .val (.ref b195)] [(.int (((x0.toUInt64 >>> ((24 : Int32) &&& 0x3f).toInt64.toUInt64).toInt64).toInt32)), (.int (3 : Int32)), (.ref b195)]))
  refine own_st (fun t_ => XS.i2b (own_here Y209) hx rfl (hb hby own_d1_154) rfl) ?_
  show own_Ends _ _ _ _ (T208.setTop (mkF m 155 #[.val (.long x0), .second, .val (.int (7 : Int32)), .val (.ref b195)] [(.int ((((x0.toUInt64 >>> ((24 : Int32) &&& 0x3f).toInt64.toUInt64).toInt64).toInt32).toInt8.toInt32)), (.int (3 : Int32)), (.ref b195)]))
  refine own_stB Y209 hx hZ A212 g197 (i := 3) (by decide) (by decide) (Nat.le_of_ble_eq_true rfl) rfl rfl (hb hby own_d1_155) (fun T213 h215 Y214 W216 A217 => ?_)
  replace A217 : own_A Z h215 b195 .byte [(.int (((x0.toInt32).toInt8.toInt32).toInt8.toInt32)), (.int (((((x0.toUInt64 >>> ((8 : Int32) &&& 0x3f).toInt64.toUInt64).toInt64).toInt32).toInt8.toInt32).toInt8.toInt32)), (.int (((((x0.toUInt64 >>> ((16 : Int32) &&& 0x3f).toInt64.toUInt64).toInt64).toInt32).toInt8.toInt32).toInt8.toInt32)), (.int (((((x0.toUInt64 >>> ((24 : Int32) &&& 0x3f).toInt64.toUInt64).toInt64).toInt32).toInt8.toInt32).toInt8.toInt32)), (.int (0 : Int32)), (.int (0 : Int32)), (.int (0 : Int32))] := A217
  show own_Ends _ _ _ _ (T213.setTop (mkF m 156 #[.val (.long x0), .second, .val (.int (7 : Int32)), .val (.ref b195)] []))
  refine own_st (fun t_ => XS.iloadN (own_here Y214) hx rfl (hb hby own_d1_156) rfl) ?_
  show own_Ends _ _ _ _ (T213.setTop (mkF m 157 #[.val (.long x0), .second, .val (.int (7 : Int32)), .val (.ref b195)] [(.int (7 : Int32))]))
  refine own_st (fun t_ => XS.iconst (own_here Y214) hx rfl (hb hby own_d1_157) ) ?_
  show own_Ends _ _ _ _ (T213.setTop (mkF m 158 #[.val (.long x0), .second, .val (.int (7 : Int32)), .val (.ref b195)] [(.int (4 : Int32)), (.int (7 : Int32))]))
  refine own_st (fun t_ => XS.icmpNo (own_here Y214) hx rfl (hb hby own_d1_158) rfl (XT.ii_le_f (by decide))) ?_
  show own_Ends _ _ _ _ (T213.setTop (mkF m 161 #[.val (.long x0), .second, .val (.int (7 : Int32)), .val (.ref b195)] []))
  refine own_st (fun t_ => XS.aloadN (own_here Y214) hx rfl (hb hby own_d1_161) rfl rfl) ?_
  show own_Ends _ _ _ _ (T213.setTop (mkF m 162 #[.val (.long x0), .second, .val (.int (7 : Int32)), .val (.ref b195)] [(.ref b195)]))
  refine own_st (fun t_ => XS.iconst (own_here Y214) hx rfl (hb hby own_d1_162) ) ?_
  show own_Ends _ _ _ _ (T213.setTop (mkF m 163 #[.val (.long x0), .second, .val (.int (7 : Int32)), .val (.ref b195)] [(.int (4 : Int32)), (.ref b195)]))
  refine own_st (fun t_ => XS.lloadN (own_here Y214) hx rfl (hb hby own_d1_163) rfl) ?_
  show own_Ends _ _ _ _ (T213.setTop (mkF m 164 #[.val (.long x0), .second, .val (.int (7 : Int32)), .val (.ref b195)] [(.long x0), (.int (4 : Int32)), (.ref b195)]))
  refine own_st (fun t_ => XS.bipush (own_here Y214) hx rfl (hb hby own_d1_164) ) ?_
  show own_Ends _ _ _ _ (T213.setTop (mkF m 166 #[.val (.long x0), .second, .val (.int (7 : Int32)), .val (.ref b195)] [(.int (32 : Int32)), (.long x0), (.int (4 : Int32)), (.ref b195)]))
  refine own_st (fun t_ => XS.lushr (own_here Y214) hx rfl (hb hby own_d1_166) rfl) ?_
  show own_Ends _ _ _ _ (T213.setTop (mkF m 167 #[.val (.long x0), .second, .val (.int (7 : Int32)), .val (.ref b195)] [(.long ((x0.toUInt64 >>> ((32 : Int32) &&& 0x3f).toInt64.toUInt64).toInt64)), (.int (4 : Int32)), (.ref b195)]))
  refine own_st (fun t_ => XS.l2i (own_here Y214) hx rfl (hb hby own_d1_167) rfl) ?_
  show own_Ends _ _ _ _ (T213.setTop (mkF m 168 #[.val (.long x0), .second, .val (.int (7 : Int32)), .val (.ref b195)] [(.int (((x0.toUInt64 >>> ((32 : Int32) &&& 0x3f).toInt64.toUInt64).toInt64).toInt32)), (.int (4 : Int32)), (.ref b195)]))
  refine own_st (fun t_ => XS.i2b (own_here Y214) hx rfl (hb hby own_d1_168) rfl) ?_
  show own_Ends _ _ _ _ (T213.setTop (mkF m 169 #[.val (.long x0), .second, .val (.int (7 : Int32)), .val (.ref b195)] [(.int ((((x0.toUInt64 >>> ((32 : Int32) &&& 0x3f).toInt64.toUInt64).toInt64).toInt32).toInt8.toInt32)), (.int (4 : Int32)), (.ref b195)]))
  refine own_stB Y214 hx hZ A217 g197 (i := 4) (by decide) (by decide) (Nat.le_of_ble_eq_true rfl) rfl rfl (hb hby own_d1_169) (fun T218 h220 Y219 W221 A222 => ?_)
  replace A222 : own_A Z h220 b195 .byte [(.int (((x0.toInt32).toInt8.toInt32).toInt8.toInt32)), (.int (((((x0.toUInt64 >>> ((8 : Int32) &&& 0x3f).toInt64.toUInt64).toInt64).toInt32).toInt8.toInt32).toInt8.toInt32)), (.int (((((x0.toUInt64 >>> ((16 : Int32) &&& 0x3f).toInt64.toUInt64).toInt64).toInt32).toInt8.toInt32).toInt8.toInt32)), (.int (((((x0.toUInt64 >>> ((24 : Int32) &&& 0x3f).toInt64.toUInt64).toInt64).toInt32).toInt8.toInt32).toInt8.toInt32)), (.int (((((x0.toUInt64 >>> ((32 : Int32) &&& 0x3f).toInt64.toUInt64).toInt64).toInt32).toInt8.toInt32).toInt8.toInt32)), (.int (0 : Int32)), (.int (0 : Int32))] := A222
  show own_Ends _ _ _ _ (T218.setTop (mkF m 170 #[.val (.long x0), .second, .val (.int (7 : Int32)), .val (.ref b195)] []))
  refine own_st (fun t_ => XS.iloadN (own_here Y219) hx rfl (hb hby own_d1_170) rfl) ?_
  show own_Ends _ _ _ _ (T218.setTop (mkF m 171 #[.val (.long x0), .second, .val (.int (7 : Int32)), .val (.ref b195)] [(.int (7 : Int32))]))
  refine own_st (fun t_ => XS.iconst (own_here Y219) hx rfl (hb hby own_d1_171) ) ?_
  show own_Ends _ _ _ _ (T218.setTop (mkF m 172 #[.val (.long x0), .second, .val (.int (7 : Int32)), .val (.ref b195)] [(.int (5 : Int32)), (.int (7 : Int32))]))
  refine own_st (fun t_ => XS.icmpNo (own_here Y219) hx rfl (hb hby own_d1_172) rfl (XT.ii_le_f (by decide))) ?_
  show own_Ends _ _ _ _ (T218.setTop (mkF m 175 #[.val (.long x0), .second, .val (.int (7 : Int32)), .val (.ref b195)] []))
  refine own_st (fun t_ => XS.aloadN (own_here Y219) hx rfl (hb hby own_d1_175) rfl rfl) ?_
  show own_Ends _ _ _ _ (T218.setTop (mkF m 176 #[.val (.long x0), .second, .val (.int (7 : Int32)), .val (.ref b195)] [(.ref b195)]))
  refine own_st (fun t_ => XS.iconst (own_here Y219) hx rfl (hb hby own_d1_176) ) ?_
  show own_Ends _ _ _ _ (T218.setTop (mkF m 177 #[.val (.long x0), .second, .val (.int (7 : Int32)), .val (.ref b195)] [(.int (5 : Int32)), (.ref b195)]))
  refine own_st (fun t_ => XS.lloadN (own_here Y219) hx rfl (hb hby own_d1_177) rfl) ?_
  show own_Ends _ _ _ _ (T218.setTop (mkF m 178 #[.val (.long x0), .second, .val (.int (7 : Int32)), .val (.ref b195)] [(.long x0), (.int (5 : Int32)), (.ref b195)]))
  refine own_st (fun t_ => XS.bipush (own_here Y219) hx rfl (hb hby own_d1_178) ) ?_
  show own_Ends _ _ _ _ (T218.setTop (mkF m 180 #[.val (.long x0), .second, .val (.int (7 : Int32)), .val (.ref b195)] [(.int (40 : Int32)), (.long x0), (.int (5 : Int32)), (.ref b195)]))
  refine own_st (fun t_ => XS.lushr (own_here Y219) hx rfl (hb hby own_d1_180) rfl) ?_
  show own_Ends _ _ _ _ (T218.setTop (mkF m 181 #[.val (.long x0), .second, .val (.int (7 : Int32)), .val (.ref b195)] [(.long ((x0.toUInt64 >>> ((40 : Int32) &&& 0x3f).toInt64.toUInt64).toInt64)), (.int (5 : Int32)), (.ref b195)]))
  refine own_st (fun t_ => XS.l2i (own_here Y219) hx rfl (hb hby own_d1_181) rfl) ?_
  show own_Ends _ _ _ _ (T218.setTop (mkF m 182 #[.val (.long x0), .second, .val (.int (7 : Int32)), .val (.ref b195)] [(.int (((x0.toUInt64 >>> ((40 : Int32) &&& 0x3f).toInt64.toUInt64).toInt64).toInt32)), (.int (5 : Int32)), (.ref b195)]))
  refine own_st (fun t_ => XS.i2b (own_here Y219) hx rfl (hb hby own_d1_182) rfl) ?_
  show own_Ends _ _ _ _ (T218.setTop (mkF m 183 #[.val (.long x0), .second, .val (.int (7 : Int32)), .val (.ref b195)] [(.int ((((x0.toUInt64 >>> ((40 : Int32) &&& 0x3f).toInt64.toUInt64).toInt64).toInt32).toInt8.toInt32)), (.int (5 : Int32)), (.ref b195)]))
  refine own_stB Y219 hx hZ A222 g197 (i := 5) (by decide) (by decide) (Nat.le_of_ble_eq_true rfl) rfl rfl (hb hby own_d1_183) (fun T223 h225 Y224 W226 A227 => ?_)
  replace A227 : own_A Z h225 b195 .byte [(.int (((x0.toInt32).toInt8.toInt32).toInt8.toInt32)), (.int (((((x0.toUInt64 >>> ((8 : Int32) &&& 0x3f).toInt64.toUInt64).toInt64).toInt32).toInt8.toInt32).toInt8.toInt32)), (.int (((((x0.toUInt64 >>> ((16 : Int32) &&& 0x3f).toInt64.toUInt64).toInt64).toInt32).toInt8.toInt32).toInt8.toInt32)), (.int (((((x0.toUInt64 >>> ((24 : Int32) &&& 0x3f).toInt64.toUInt64).toInt64).toInt32).toInt8.toInt32).toInt8.toInt32)), (.int (((((x0.toUInt64 >>> ((32 : Int32) &&& 0x3f).toInt64.toUInt64).toInt64).toInt32).toInt8.toInt32).toInt8.toInt32)), (.int (((((x0.toUInt64 >>> ((40 : Int32) &&& 0x3f).toInt64.toUInt64).toInt64).toInt32).toInt8.toInt32).toInt8.toInt32)), (.int (0 : Int32))] := A227
  show own_Ends _ _ _ _ (T223.setTop (mkF m 184 #[.val (.long x0), .second, .val (.int (7 : Int32)), .val (.ref b195)] []))
  refine own_st (fun t_ => XS.iloadN (own_here Y224) hx rfl (hb hby own_d1_184) rfl) ?_
  show own_Ends _ _ _ _ (T223.setTop (mkF m 185 #[.val (.long x0), .second, .val (.int (7 : Int32)), .val (.ref b195)] [(.int (7 : Int32))]))
  refine own_st (fun t_ => XS.bipush (own_here Y224) hx rfl (hb hby own_d1_185) ) ?_
  show own_Ends _ _ _ _ (T223.setTop (mkF m 187 #[.val (.long x0), .second, .val (.int (7 : Int32)), .val (.ref b195)] [(.int (6 : Int32)), (.int (7 : Int32))]))
  refine own_st (fun t_ => XS.icmpNo (own_here Y224) hx rfl (hb hby own_d1_187) rfl (XT.ii_le_f (by decide))) ?_
  show own_Ends _ _ _ _ (T223.setTop (mkF m 190 #[.val (.long x0), .second, .val (.int (7 : Int32)), .val (.ref b195)] []))
  refine own_st (fun t_ => XS.aloadN (own_here Y224) hx rfl (hb hby own_d1_190) rfl rfl) ?_
  show own_Ends _ _ _ _ (T223.setTop (mkF m 191 #[.val (.long x0), .second, .val (.int (7 : Int32)), .val (.ref b195)] [(.ref b195)]))
  refine own_st (fun t_ => XS.bipush (own_here Y224) hx rfl (hb hby own_d1_191) ) ?_
  show own_Ends _ _ _ _ (T223.setTop (mkF m 193 #[.val (.long x0), .second, .val (.int (7 : Int32)), .val (.ref b195)] [(.int (6 : Int32)), (.ref b195)]))
  refine own_st (fun t_ => XS.lloadN (own_here Y224) hx rfl (hb hby own_d1_193) rfl) ?_
  show own_Ends _ _ _ _ (T223.setTop (mkF m 194 #[.val (.long x0), .second, .val (.int (7 : Int32)), .val (.ref b195)] [(.long x0), (.int (6 : Int32)), (.ref b195)]))
  refine own_st (fun t_ => XS.bipush (own_here Y224) hx rfl (hb hby own_d1_194) ) ?_
  show own_Ends _ _ _ _ (T223.setTop (mkF m 196 #[.val (.long x0), .second, .val (.int (7 : Int32)), .val (.ref b195)] [(.int (48 : Int32)), (.long x0), (.int (6 : Int32)), (.ref b195)]))
  refine own_st (fun t_ => XS.lushr (own_here Y224) hx rfl (hb hby own_d1_196) rfl) ?_
  show own_Ends _ _ _ _ (T223.setTop (mkF m 197 #[.val (.long x0), .second, .val (.int (7 : Int32)), .val (.ref b195)] [(.long ((x0.toUInt64 >>> ((48 : Int32) &&& 0x3f).toInt64.toUInt64).toInt64)), (.int (6 : Int32)), (.ref b195)]))
  refine own_st (fun t_ => XS.l2i (own_here Y224) hx rfl (hb hby own_d1_197) rfl) ?_
  show own_Ends _ _ _ _ (T223.setTop (mkF m 198 #[.val (.long x0), .second, .val (.int (7 : Int32)), .val (.ref b195)] [(.int (((x0.toUInt64 >>> ((48 : Int32) &&& 0x3f).toInt64.toUInt64).toInt64).toInt32)), (.int (6 : Int32)), (.ref b195)]))
  refine own_st (fun t_ => XS.i2b (own_here Y224) hx rfl (hb hby own_d1_198) rfl) ?_
  show own_Ends _ _ _ _ (T223.setTop (mkF m 199 #[.val (.long x0), .second, .val (.int (7 : Int32)), .val (.ref b195)] [(.int ((((x0.toUInt64 >>> ((48 : Int32) &&& 0x3f).toInt64.toUInt64).toInt64).toInt32).toInt8.toInt32)), (.int (6 : Int32)), (.ref b195)]))
  refine own_stB Y224 hx hZ A227 g197 (i := 6) (by decide) (by decide) (Nat.le_of_ble_eq_true rfl) rfl rfl (hb hby own_d1_199) (fun T228 h230 Y229 W231 A232 => ?_)
  replace A232 : own_A Z h230 b195 .byte [(.int (((x0.toInt32).toInt8.toInt32).toInt8.toInt32)), (.int (((((x0.toUInt64 >>> ((8 : Int32) &&& 0x3f).toInt64.toUInt64).toInt64).toInt32).toInt8.toInt32).toInt8.toInt32)), (.int (((((x0.toUInt64 >>> ((16 : Int32) &&& 0x3f).toInt64.toUInt64).toInt64).toInt32).toInt8.toInt32).toInt8.toInt32)), (.int (((((x0.toUInt64 >>> ((24 : Int32) &&& 0x3f).toInt64.toUInt64).toInt64).toInt32).toInt8.toInt32).toInt8.toInt32)), (.int (((((x0.toUInt64 >>> ((32 : Int32) &&& 0x3f).toInt64.toUInt64).toInt64).toInt32).toInt8.toInt32).toInt8.toInt32)), (.int (((((x0.toUInt64 >>> ((40 : Int32) &&& 0x3f).toInt64.toUInt64).toInt64).toInt32).toInt8.toInt32).toInt8.toInt32)), (.int (((((x0.toUInt64 >>> ((48 : Int32) &&& 0x3f).toInt64.toUInt64).toInt64).toInt32).toInt8.toInt32).toInt8.toInt32))] := A232
  show own_Ends _ _ _ _ (T228.setTop (mkF m 200 #[.val (.long x0), .second, .val (.int (7 : Int32)), .val (.ref b195)] []))
  refine own_st (fun t_ => XS.iloadN (own_here Y229) hx rfl (hb hby own_d1_200) rfl) ?_
  show own_Ends _ _ _ _ (T228.setTop (mkF m 201 #[.val (.long x0), .second, .val (.int (7 : Int32)), .val (.ref b195)] [(.int (7 : Int32))]))
  refine own_st (fun t_ => XS.bipush (own_here Y229) hx rfl (hb hby own_d1_201) ) ?_
  show own_Ends _ _ _ _ (T228.setTop (mkF m 203 #[.val (.long x0), .second, .val (.int (7 : Int32)), .val (.ref b195)] [(.int (7 : Int32)), (.int (7 : Int32))]))
  refine own_st (fun t_ => XS.icmpYes (own_here Y229) hx rfl (pc0 := 203) (pc' := 216) rfl (hb hby own_d1_203) rfl (XT.ii_le_t (by decide)) (by decide) (by decide)) ?_
  show own_Ends _ _ _ _ (T228.setTop (mkF m 216 #[.val (.long x0), .second, .val (.int (7 : Int32)), .val (.ref b195)] []))
  refine own_st (fun t_ => XS.aloadN (own_here Y229) hx rfl (hb hby own_d1_216) rfl rfl) ?_
  show own_Ends _ _ _ _ (T228.setTop (mkF m 217 #[.val (.long x0), .second, .val (.int (7 : Int32)), .val (.ref b195)] [(.ref b195)]))
  have K233 : Keep h0 h192 [] := (Keep.refl h0 []).ext E193
  have K234 : Keep h0 h200 [] := K233.wr W201 (Or.inr (by rw [eb196]; exact (Keep.refl h0 []).1))
  have K235 : Keep h0 h205 [] := K234.wr W206 (Or.inr (by rw [eb196]; exact (Keep.refl h0 []).1))
  have K236 : Keep h0 h210 [] := K235.wr W211 (Or.inr (by rw [eb196]; exact (Keep.refl h0 []).1))
  have K237 : Keep h0 h215 [] := K236.wr W216 (Or.inr (by rw [eb196]; exact (Keep.refl h0 []).1))
  have K238 : Keep h0 h220 [] := K237.wr W221 (Or.inr (by rw [eb196]; exact (Keep.refl h0 []).1))
  have K239 : Keep h0 h225 [] := K238.wr W226 (Or.inr (by rw [eb196]; exact (Keep.refl h0 []).1))
  have K240 : Keep h0 h230 [] := K239.wr W231 (Or.inr (by rw [eb196]; exact (Keep.refl h0 []).1))
  refine own_retA Y229 hx hlk hret rfl rfl rfl (hb hby own_d1_217) (by decide) (by decide) ?_
  exact ⟨_, rfl, K240, by have q := A232; simp only [own_bb] at q; exact q⟩
theorem own_d1_99 : decode method_4_code 99 = .ok (.bipush 8, 2) := by decide +kernel
theorem own_d1_101 : decode method_4_code 101 = .ok (.newarray .byte, 2) := by decide +kernel
theorem own_d1_103 : decode method_4_code 103 = .ok (.astore_n 3, 1) := by decide +kernel
theorem own_d1_206 : decode method_4_code 206 = .ok (.aload_n 3, 1) := by decide +kernel
theorem own_d1_207 : decode method_4_code 207 = .ok (.bipush 7, 2) := by decide +kernel
theorem own_d1_209 : decode method_4_code 209 = .ok (.lload_n 0, 1) := by decide +kernel
theorem own_d1_210 : decode method_4_code 210 = .ok (.bipush 56, 2) := by decide +kernel
theorem own_d1_212 : decode method_4_code 212 = .ok (.lushr, 1) := by decide +kernel
theorem own_d1_213 : decode method_4_code 213 = .ok (.l2i, 1) := by decide +kernel
theorem own_d1_214 : decode method_4_code 214 = .ok (.i2b, 1) := by decide +kernel
theorem own_d1_215 : decode method_4_code 215 = .ok (.bastore, 1) := by decide +kernel
theorem own_ef_own_rm1_8 (m : MethodId) (x0 : Int64) : entryFrame m #[(.long x0), (.int (8 : Int32))] 4 = mkF m 0 #[.val (.long x0), .second, .val (.int (8 : Int32)), .unset] [] := by first | (simp [entryFrame, mkF, argsToLocals, Value.category]; done) | rfl
def own_Q_own_rm1_8 (Z : State) (x0 : Int64) (h0 : Heap) (n0 : Nat) (v : Option Value) (h : Heap) : Prop := ∃ b : Addr, v = some (.ref b) ∧ Keep h0 h [] ∧ own_A Z h b .byte [(.int (x0.toInt32.toInt8.toInt32)), (.int (((x0.toUInt64 >>> ((8 : Int32) &&& 0x3f).toInt64.toUInt64).toInt64).toInt32.toInt8.toInt32)), (.int (((x0.toUInt64 >>> ((16 : Int32) &&& 0x3f).toInt64.toUInt64).toInt64).toInt32.toInt8.toInt32)), (.int (((x0.toUInt64 >>> ((24 : Int32) &&& 0x3f).toInt64.toUInt64).toInt64).toInt32.toInt8.toInt32)), (.int (((x0.toUInt64 >>> ((32 : Int32) &&& 0x3f).toInt64.toUInt64).toInt64).toInt32.toInt8.toInt32)), (.int (((x0.toUInt64 >>> ((40 : Int32) &&& 0x3f).toInt64.toUInt64).toInt64).toInt32.toInt8.toInt32)), (.int (((x0.toUInt64 >>> ((48 : Int32) &&& 0x3f).toInt64.toUInt64).toInt64).toInt32.toInt8.toInt32)), (.int (((x0.toUInt64 >>> ((56 : Int32) &&& 0x3f).toInt64.toUInt64).toInt64).toInt32.toInt8.toInt32))]
set_option maxRecDepth 65536 in
set_option maxHeartbeats 40000000 in
theorem own_rm1_8 (l : Launch) (Z : State) (a0 : Array Value) (hw : ∀ d ∈ tables_1, d.before a0 Z = true) (ws : List Jvm.Cond) (x0 : Int64)  (h0 : Heap) (n0 : Nat) (Z0 : n0 ≤ h0.size)  :
    own_Con l Z (⟨"com/example/tagwire/tagwire/wire/BytesStartsWithPinLaw", "prefixOf", "(JI)[B"⟩ : MethodName) method_4_code 4 (some (.array .byte)) ws ({ frames := 0, cells := 1, slots := 8, locals := 0 } : Room) #[(.long x0), (.int (8 : Int32))] h0 n0 (own_Q_own_rm1_8 Z x0 h0 n0) := by
  refine own_body (plainFor_of_name own_pn0) ?_
  intro p e s m below meth c T0 hx hZ hby hml hown hnm hret hlk Y0
  replace hown : s.vm.findClass "com/example/tagwire/tagwire/wire/BytesStartsWithPinLaw" = some m.cls := hown
  replace hnm : meth.name = "prefixOf" := hnm
  rw [own_ef_own_rm1_8 m x0]
  show own_Ends _ _ _ _ (T0.setTop (mkF m 0 #[.val (.long x0), .second, .val (.int (8 : Int32)), .unset] []))
  refine own_st (fun t_ => XS.iloadN (own_here Y0) hx rfl (hb hby own_d1_0) rfl) ?_
  show own_Ends _ _ _ _ (T0.setTop (mkF m 1 #[.val (.long x0), .second, .val (.int (8 : Int32)), .unset] [(.int (8 : Int32))]))
  refine own_st (fun t_ => XS.ifYes (own_here Y0) hx rfl (pc0 := 1) (pc' := 11) rfl (hb hby own_d1_1) rfl (XT.i0_ne_t (by decide)) (by decide) (by decide)) ?_
  show own_Ends _ _ _ _ (T0.setTop (mkF m 11 #[.val (.long x0), .second, .val (.int (8 : Int32)), .unset] []))
  refine own_st (fun t_ => XS.iloadN (own_here Y0) hx rfl (hb hby own_d1_11) rfl) ?_
  show own_Ends _ _ _ _ (T0.setTop (mkF m 12 #[.val (.long x0), .second, .val (.int (8 : Int32)), .unset] [(.int (8 : Int32))]))
  refine own_st (fun t_ => XS.iconst (own_here Y0) hx rfl (hb hby own_d1_12) ) ?_
  show own_Ends _ _ _ _ (T0.setTop (mkF m 13 #[.val (.long x0), .second, .val (.int (8 : Int32)), .unset] [(.int (1 : Int32)), (.int (8 : Int32))]))
  refine own_st (fun t_ => XS.icmpYes (own_here Y0) hx rfl (pc0 := 13) (pc' := 23) rfl (hb hby own_d1_13) rfl (XT.ii_ne_t (by decide)) (by decide) (by decide)) ?_
  show own_Ends _ _ _ _ (T0.setTop (mkF m 23 #[.val (.long x0), .second, .val (.int (8 : Int32)), .unset] []))
  refine own_st (fun t_ => XS.iloadN (own_here Y0) hx rfl (hb hby own_d1_23) rfl) ?_
  show own_Ends _ _ _ _ (T0.setTop (mkF m 24 #[.val (.long x0), .second, .val (.int (8 : Int32)), .unset] [(.int (8 : Int32))]))
  refine own_st (fun t_ => XS.iconst (own_here Y0) hx rfl (hb hby own_d1_24) ) ?_
  show own_Ends _ _ _ _ (T0.setTop (mkF m 25 #[.val (.long x0), .second, .val (.int (8 : Int32)), .unset] [(.int (2 : Int32)), (.int (8 : Int32))]))
  refine own_st (fun t_ => XS.icmpYes (own_here Y0) hx rfl (pc0 := 25) (pc' := 35) rfl (hb hby own_d1_25) rfl (XT.ii_ne_t (by decide)) (by decide) (by decide)) ?_
  show own_Ends _ _ _ _ (T0.setTop (mkF m 35 #[.val (.long x0), .second, .val (.int (8 : Int32)), .unset] []))
  refine own_st (fun t_ => XS.iloadN (own_here Y0) hx rfl (hb hby own_d1_35) rfl) ?_
  show own_Ends _ _ _ _ (T0.setTop (mkF m 36 #[.val (.long x0), .second, .val (.int (8 : Int32)), .unset] [(.int (8 : Int32))]))
  refine own_st (fun t_ => XS.iconst (own_here Y0) hx rfl (hb hby own_d1_36) ) ?_
  show own_Ends _ _ _ _ (T0.setTop (mkF m 37 #[.val (.long x0), .second, .val (.int (8 : Int32)), .unset] [(.int (3 : Int32)), (.int (8 : Int32))]))
  refine own_st (fun t_ => XS.icmpYes (own_here Y0) hx rfl (pc0 := 37) (pc' := 47) rfl (hb hby own_d1_37) rfl (XT.ii_ne_t (by decide)) (by decide) (by decide)) ?_
  show own_Ends _ _ _ _ (T0.setTop (mkF m 47 #[.val (.long x0), .second, .val (.int (8 : Int32)), .unset] []))
  refine own_st (fun t_ => XS.iloadN (own_here Y0) hx rfl (hb hby own_d1_47) rfl) ?_
  show own_Ends _ _ _ _ (T0.setTop (mkF m 48 #[.val (.long x0), .second, .val (.int (8 : Int32)), .unset] [(.int (8 : Int32))]))
  refine own_st (fun t_ => XS.iconst (own_here Y0) hx rfl (hb hby own_d1_48) ) ?_
  show own_Ends _ _ _ _ (T0.setTop (mkF m 49 #[.val (.long x0), .second, .val (.int (8 : Int32)), .unset] [(.int (4 : Int32)), (.int (8 : Int32))]))
  refine own_st (fun t_ => XS.icmpYes (own_here Y0) hx rfl (pc0 := 49) (pc' := 59) rfl (hb hby own_d1_49) rfl (XT.ii_ne_t (by decide)) (by decide) (by decide)) ?_
  show own_Ends _ _ _ _ (T0.setTop (mkF m 59 #[.val (.long x0), .second, .val (.int (8 : Int32)), .unset] []))
  refine own_st (fun t_ => XS.iloadN (own_here Y0) hx rfl (hb hby own_d1_59) rfl) ?_
  show own_Ends _ _ _ _ (T0.setTop (mkF m 60 #[.val (.long x0), .second, .val (.int (8 : Int32)), .unset] [(.int (8 : Int32))]))
  refine own_st (fun t_ => XS.iconst (own_here Y0) hx rfl (hb hby own_d1_60) ) ?_
  show own_Ends _ _ _ _ (T0.setTop (mkF m 61 #[.val (.long x0), .second, .val (.int (8 : Int32)), .unset] [(.int (5 : Int32)), (.int (8 : Int32))]))
  refine own_st (fun t_ => XS.icmpYes (own_here Y0) hx rfl (pc0 := 61) (pc' := 71) rfl (hb hby own_d1_61) rfl (XT.ii_ne_t (by decide)) (by decide) (by decide)) ?_
  show own_Ends _ _ _ _ (T0.setTop (mkF m 71 #[.val (.long x0), .second, .val (.int (8 : Int32)), .unset] []))
  refine own_st (fun t_ => XS.iloadN (own_here Y0) hx rfl (hb hby own_d1_71) rfl) ?_
  show own_Ends _ _ _ _ (T0.setTop (mkF m 72 #[.val (.long x0), .second, .val (.int (8 : Int32)), .unset] [(.int (8 : Int32))]))
  refine own_st (fun t_ => XS.bipush (own_here Y0) hx rfl (hb hby own_d1_72) ) ?_
  show own_Ends _ _ _ _ (T0.setTop (mkF m 74 #[.val (.long x0), .second, .val (.int (8 : Int32)), .unset] [(.int (6 : Int32)), (.int (8 : Int32))]))
  refine own_st (fun t_ => XS.icmpYes (own_here Y0) hx rfl (pc0 := 74) (pc' := 85) rfl (hb hby own_d1_74) rfl (XT.ii_ne_t (by decide)) (by decide) (by decide)) ?_
  show own_Ends _ _ _ _ (T0.setTop (mkF m 85 #[.val (.long x0), .second, .val (.int (8 : Int32)), .unset] []))
  refine own_st (fun t_ => XS.iloadN (own_here Y0) hx rfl (hb hby own_d1_85) rfl) ?_
  show own_Ends _ _ _ _ (T0.setTop (mkF m 86 #[.val (.long x0), .second, .val (.int (8 : Int32)), .unset] [(.int (8 : Int32))]))
  refine own_st (fun t_ => XS.bipush (own_here Y0) hx rfl (hb hby own_d1_86) ) ?_
  show own_Ends _ _ _ _ (T0.setTop (mkF m 88 #[.val (.long x0), .second, .val (.int (8 : Int32)), .unset] [(.int (7 : Int32)), (.int (8 : Int32))]))
  refine own_st (fun t_ => XS.icmpYes (own_here Y0) hx rfl (pc0 := 88) (pc' := 99) rfl (hb hby own_d1_88) rfl (XT.ii_ne_t (by decide)) (by decide) (by decide)) ?_
  show own_Ends _ _ _ _ (T0.setTop (mkF m 99 #[.val (.long x0), .second, .val (.int (8 : Int32)), .unset] []))
  refine own_st (fun t_ => XS.bipush (own_here Y0) hx rfl (hb hby own_d1_99) ) ?_
  show own_Ends _ _ _ _ (T0.setTop (mkF m 101 #[.val (.long x0), .second, .val (.int (8 : Int32)), .unset] [(.int (8 : Int32))]))
  refine own_newP Y0 hx hZ (hw _ (List.mem_of_getElem? (i := 0) rfl)) rfl (hb hby own_d1_101) rfl (by decide) (nz := 8) (cap := 8) (by decide) (by decide) (by decide) (by decide) (by decide) (ty := .byte) rfl (fun T241 h243 b246 eb247 Y242 E244 A245 => ?_)
  have g248 : n0 ≤ b246 := by rw [eb247]; exact Z0
  replace A245 : own_A Z h243 b246 .byte [(.int (0 : Int32)), (.int (0 : Int32)), (.int (0 : Int32)), (.int (0 : Int32)), (.int (0 : Int32)), (.int (0 : Int32)), (.int (0 : Int32)), (.int (0 : Int32))] := A245
  show own_Ends _ _ _ _ (T241.setTop (mkF m 103 #[.val (.long x0), .second, .val (.int (8 : Int32)), .unset] [(.ref b246)]))
  refine own_st (fun t_ => XS.astoreN (own_here Y242) hx rfl (hb hby own_d1_103) rfl rfl (l' := #[.val (.long x0), .second, .val (.int (8 : Int32)), .val (.ref b246)]) rfl) ?_
  show own_Ends _ _ _ _ (T241.setTop (mkF m 104 #[.val (.long x0), .second, .val (.int (8 : Int32)), .val (.ref b246)] []))
  refine own_st (fun t_ => XS.iloadN (own_here Y242) hx rfl (hb hby own_d1_104) rfl) ?_
  show own_Ends _ _ _ _ (T241.setTop (mkF m 105 #[.val (.long x0), .second, .val (.int (8 : Int32)), .val (.ref b246)] [(.int (8 : Int32))]))
  refine own_st (fun t_ => XS.ifNo (own_here Y242) hx rfl (hb hby own_d1_105) rfl (XT.i0_le_f (by decide))) ?_
  show own_Ends _ _ _ _ (T241.setTop (mkF m 108 #[.val (.long x0), .second, .val (.int (8 : Int32)), .val (.ref b246)] []))
  refine own_st (fun t_ => XS.aloadN (own_here Y242) hx rfl (hb hby own_d1_108) rfl rfl) ?_
  show own_Ends _ _ _ _ (T241.setTop (mkF m 109 #[.val (.long x0), .second, .val (.int (8 : Int32)), .val (.ref b246)] [(.ref b246)]))
  refine own_st (fun t_ => XS.iconst (own_here Y242) hx rfl (hb hby own_d1_109) ) ?_
  show own_Ends _ _ _ _ (T241.setTop (mkF m 110 #[.val (.long x0), .second, .val (.int (8 : Int32)), .val (.ref b246)] [(.int (0 : Int32)), (.ref b246)]))
  refine own_st (fun t_ => XS.lloadN (own_here Y242) hx rfl (hb hby own_d1_110) rfl) ?_
  show own_Ends _ _ _ _ (T241.setTop (mkF m 111 #[.val (.long x0), .second, .val (.int (8 : Int32)), .val (.ref b246)] [(.long x0), (.int (0 : Int32)), (.ref b246)]))
  refine own_st (fun t_ => XS.l2i (own_here Y242) hx rfl (hb hby own_d1_111) rfl) ?_
  show own_Ends _ _ _ _ (T241.setTop (mkF m 112 #[.val (.long x0), .second, .val (.int (8 : Int32)), .val (.ref b246)] [(.int (x0.toInt32)), (.int (0 : Int32)), (.ref b246)]))
  refine own_st (fun t_ => XS.i2b (own_here Y242) hx rfl (hb hby own_d1_112) rfl) ?_
  show own_Ends _ _ _ _ (T241.setTop (mkF m 113 #[.val (.long x0), .second, .val (.int (8 : Int32)), .val (.ref b246)] [(.int ((x0.toInt32).toInt8.toInt32)), (.int (0 : Int32)), (.ref b246)]))
  refine own_stB Y242 hx hZ A245 g248 (i := 0) (by decide) (by decide) (Nat.le_of_ble_eq_true rfl) rfl rfl (hb hby own_d1_113) (fun T249 h251 Y250 W252 A253 => ?_)
  replace A253 : own_A Z h251 b246 .byte [(.int (((x0.toInt32).toInt8.toInt32).toInt8.toInt32)), (.int (0 : Int32)), (.int (0 : Int32)), (.int (0 : Int32)), (.int (0 : Int32)), (.int (0 : Int32)), (.int (0 : Int32)), (.int (0 : Int32))] := A253
  show own_Ends _ _ _ _ (T249.setTop (mkF m 114 #[.val (.long x0), .second, .val (.int (8 : Int32)), .val (.ref b246)] []))
  refine own_st (fun t_ => XS.iloadN (own_here Y250) hx rfl (hb hby own_d1_114) rfl) ?_
  show own_Ends _ _ _ _ (T249.setTop (mkF m 115 #[.val (.long x0), .second, .val (.int (8 : Int32)), .val (.ref b246)] [(.int (8 : Int32))]))
  refine own_st (fun t_ => XS.iconst (own_here Y250) hx rfl (hb hby own_d1_115) ) ?_
  show own_Ends _ _ _ _ (T249.setTop (mkF m 116 #[.val (.long x0), .second, .val (.int (8 : Int32)), .val (.ref b246)] [(.int (1 : Int32)), (.int (8 : Int32))]))
  refine own_st (fun t_ => XS.icmpNo (own_here Y250) hx rfl (hb hby own_d1_116) rfl (XT.ii_le_f (by decide))) ?_
  show own_Ends _ _ _ _ (T249.setTop (mkF m 119 #[.val (.long x0), .second, .val (.int (8 : Int32)), .val (.ref b246)] []))
  refine own_st (fun t_ => XS.aloadN (own_here Y250) hx rfl (hb hby own_d1_119) rfl rfl) ?_
  show own_Ends _ _ _ _ (T249.setTop (mkF m 120 #[.val (.long x0), .second, .val (.int (8 : Int32)), .val (.ref b246)] [(.ref b246)]))
  refine own_st (fun t_ => XS.iconst (own_here Y250) hx rfl (hb hby own_d1_120) ) ?_
  show own_Ends _ _ _ _ (T249.setTop (mkF m 121 #[.val (.long x0), .second, .val (.int (8 : Int32)), .val (.ref b246)] [(.int (1 : Int32)), (.ref b246)]))
  refine own_st (fun t_ => XS.lloadN (own_here Y250) hx rfl (hb hby own_d1_121) rfl) ?_
  show own_Ends _ _ _ _ (T249.setTop (mkF m 122 #[.val (.long x0), .second, .val (.int (8 : Int32)), .val (.ref b246)] [(.long x0), (.int (1 : Int32)), (.ref b246)]))
  refine own_st (fun t_ => XS.bipush (own_here Y250) hx rfl (hb hby own_d1_122) ) ?_
  show own_Ends _ _ _ _ (T249.setTop (mkF m 124 #[.val (.long x0), .second, .val (.int (8 : Int32)), .val (.ref b246)] [(.int (8 : Int32)), (.long x0), (.int (1 : Int32)), (.ref b246)]))
  refine own_st (fun t_ => XS.lushr (own_here Y250) hx rfl (hb hby own_d1_124) rfl) ?_
  show own_Ends _ _ _ _ (T249.setTop (mkF m 125 #[.val (.long x0), .second, .val (.int (8 : Int32)), .val (.ref b246)] [(.long ((x0.toUInt64 >>> ((8 : Int32) &&& 0x3f).toInt64.toUInt64).toInt64)), (.int (1 : Int32)), (.ref b246)]))
  refine own_st (fun t_ => XS.l2i (own_here Y250) hx rfl (hb hby own_d1_125) rfl) ?_
  show own_Ends _ _ _ _ (T249.setTop (mkF m 126 #[.val (.long x0), .second, .val (.int (8 : Int32)), .val (.ref b246)] [(.int (((x0.toUInt64 >>> ((8 : Int32) &&& 0x3f).toInt64.toUInt64).toInt64).toInt32)), (.int (1 : Int32)), (.ref b246)]))
  refine own_st (fun t_ => XS.i2b (own_here Y250) hx rfl (hb hby own_d1_126) rfl) ?_
  show own_Ends _ _ _ _ (T249.setTop (mkF m 127 #[.val (.long x0), .second, .val (.int (8 : Int32)), .val (.ref b246)] [(.int ((((x0.toUInt64 >>> ((8 : Int32) &&& 0x3f).toInt64.toUInt64).toInt64).toInt32).toInt8.toInt32)), (.int (1 : Int32)), (.ref b246)]))
  refine own_stB Y250 hx hZ A253 g248 (i := 1) (by decide) (by decide) (Nat.le_of_ble_eq_true rfl) rfl rfl (hb hby own_d1_127) (fun T254 h256 Y255 W257 A258 => ?_)
  replace A258 : own_A Z h256 b246 .byte [(.int (((x0.toInt32).toInt8.toInt32).toInt8.toInt32)), (.int (((((x0.toUInt64 >>> ((8 : Int32) &&& 0x3f).toInt64.toUInt64).toInt64).toInt32).toInt8.toInt32).toInt8.toInt32)), (.int (0 : Int32)), (.int (0 : Int32)), (.int (0 : Int32)), (.int (0 : Int32)), (.int (0 : Int32)), (.int (0 : Int32))] := A258
  show own_Ends _ _ _ _ (T254.setTop (mkF m 128 #[.val (.long x0), .second, .val (.int (8 : Int32)), .val (.ref b246)] []))
  refine own_st (fun t_ => XS.iloadN (own_here Y255) hx rfl (hb hby own_d1_128) rfl) ?_
  show own_Ends _ _ _ _ (T254.setTop (mkF m 129 #[.val (.long x0), .second, .val (.int (8 : Int32)), .val (.ref b246)] [(.int (8 : Int32))]))
  refine own_st (fun t_ => XS.iconst (own_here Y255) hx rfl (hb hby own_d1_129) ) ?_
  show own_Ends _ _ _ _ (T254.setTop (mkF m 130 #[.val (.long x0), .second, .val (.int (8 : Int32)), .val (.ref b246)] [(.int (2 : Int32)), (.int (8 : Int32))]))
  refine own_st (fun t_ => XS.icmpNo (own_here Y255) hx rfl (hb hby own_d1_130) rfl (XT.ii_le_f (by decide))) ?_
  show own_Ends _ _ _ _ (T254.setTop (mkF m 133 #[.val (.long x0), .second, .val (.int (8 : Int32)), .val (.ref b246)] []))
  refine own_st (fun t_ => XS.aloadN (own_here Y255) hx rfl (hb hby own_d1_133) rfl rfl) ?_
  show own_Ends _ _ _ _ (T254.setTop (mkF m 134 #[.val (.long x0), .second, .val (.int (8 : Int32)), .val (.ref b246)] [(.ref b246)]))
  refine own_st (fun t_ => XS.iconst (own_here Y255) hx rfl (hb hby own_d1_134) ) ?_
  show own_Ends _ _ _ _ (T254.setTop (mkF m 135 #[.val (.long x0), .second, .val (.int (8 : Int32)), .val (.ref b246)] [(.int (2 : Int32)), (.ref b246)]))
  refine own_st (fun t_ => XS.lloadN (own_here Y255) hx rfl (hb hby own_d1_135) rfl) ?_
  show own_Ends _ _ _ _ (T254.setTop (mkF m 136 #[.val (.long x0), .second, .val (.int (8 : Int32)), .val (.ref b246)] [(.long x0), (.int (2 : Int32)), (.ref b246)]))
  refine own_st (fun t_ => XS.bipush (own_here Y255) hx rfl (hb hby own_d1_136) ) ?_
  show own_Ends _ _ _ _ (T254.setTop (mkF m 138 #[.val (.long x0), .second, .val (.int (8 : Int32)), .val (.ref b246)] [(.int (16 : Int32)), (.long x0), (.int (2 : Int32)), (.ref b246)]))
  refine own_st (fun t_ => XS.lushr (own_here Y255) hx rfl (hb hby own_d1_138) rfl) ?_
  show own_Ends _ _ _ _ (T254.setTop (mkF m 139 #[.val (.long x0), .second, .val (.int (8 : Int32)), .val (.ref b246)] [(.long ((x0.toUInt64 >>> ((16 : Int32) &&& 0x3f).toInt64.toUInt64).toInt64)), (.int (2 : Int32)), (.ref b246)]))
  refine own_st (fun t_ => XS.l2i (own_here Y255) hx rfl (hb hby own_d1_139) rfl) ?_
  show own_Ends _ _ _ _ (T254.setTop (mkF m 140 #[.val (.long x0), .second, .val (.int (8 : Int32)), .val (.ref b246)] [(.int (((x0.toUInt64 >>> ((16 : Int32) &&& 0x3f).toInt64.toUInt64).toInt64).toInt32)), (.int (2 : Int32)), (.ref b246)]))
  refine own_st (fun t_ => XS.i2b (own_here Y255) hx rfl (hb hby own_d1_140) rfl) ?_
  show own_Ends _ _ _ _ (T254.setTop (mkF m 141 #[.val (.long x0), .second, .val (.int (8 : Int32)), .val (.ref b246)] [(.int ((((x0.toUInt64 >>> ((16 : Int32) &&& 0x3f).toInt64.toUInt64).toInt64).toInt32).toInt8.toInt32)), (.int (2 : Int32)), (.ref b246)]))
  refine own_stB Y255 hx hZ A258 g248 (i := 2) (by decide) (by decide) (Nat.le_of_ble_eq_true rfl) rfl rfl (hb hby own_d1_141) (fun T259 h261 Y260 W262 A263 => ?_)
  replace A263 : own_A Z h261 b246 .byte [(.int (((x0.toInt32).toInt8.toInt32).toInt8.toInt32)), (.int (((((x0.toUInt64 >>> ((8 : Int32) &&& 0x3f).toInt64.toUInt64).toInt64).toInt32).toInt8.toInt32).toInt8.toInt32)), (.int (((((x0.toUInt64 >>> ((16 : Int32) &&& 0x3f).toInt64.toUInt64).toInt64).toInt32).toInt8.toInt32).toInt8.toInt32)), (.int (0 : Int32)), (.int (0 : Int32)), (.int (0 : Int32)), (.int (0 : Int32)), (.int (0 : Int32))] := A263
  show own_Ends _ _ _ _ (T259.setTop (mkF m 142 #[.val (.long x0), .second, .val (.int (8 : Int32)), .val (.ref b246)] []))
  refine own_st (fun t_ => XS.iloadN (own_here Y260) hx rfl (hb hby own_d1_142) rfl) ?_
  show own_Ends _ _ _ _ (T259.setTop (mkF m 143 #[.val (.long x0), .second, .val (.int (8 : Int32)), .val (.ref b246)] [(.int (8 : Int32))]))
  refine own_st (fun t_ => XS.iconst (own_here Y260) hx rfl (hb hby own_d1_143) ) ?_
  show own_Ends _ _ _ _ (T259.setTop (mkF m 144 #[.val (.long x0), .second, .val (.int (8 : Int32)), .val (.ref b246)] [(.int (3 : Int32)), (.int (8 : Int32))]))
  refine own_st (fun t_ => XS.icmpNo (own_here Y260) hx rfl (hb hby own_d1_144) rfl (XT.ii_le_f (by decide))) ?_
  show own_Ends _ _ _ _ (T259.setTop (mkF m 147 #[.val (.long x0), .second, .val (.int (8 : Int32)), .val (.ref b246)] []))
  refine own_st (fun t_ => XS.aloadN (own_here Y260) hx rfl (hb hby own_d1_147) rfl rfl) ?_
  show own_Ends _ _ _ _ (T259.setTop (mkF m 148 #[.val (.long x0), .second, .val (.int (8 : Int32)), .val (.ref b246)] [(.ref b246)]))
  refine own_st (fun t_ => XS.iconst (own_here Y260) hx rfl (hb hby own_d1_148) ) ?_
  show own_Ends _ _ _ _ (T259.setTop (mkF m 149 #[.val (.long x0), .second, .val (.int (8 : Int32)), .val (.ref b246)] [(.int (3 : Int32)), (.ref b246)]))
  refine own_st (fun t_ => XS.lloadN (own_here Y260) hx rfl (hb hby own_d1_149) rfl) ?_
  show own_Ends _ _ _ _ (T259.setTop (mkF m 150 #[.val (.long x0), .second, .val (.int (8 : Int32)), .val (.ref b246)] [(.long x0), (.int (3 : Int32)), (.ref b246)]))
  refine own_st (fun t_ => XS.bipush (own_here Y260) hx rfl (hb hby own_d1_150) ) ?_
  show own_Ends _ _ _ _ (T259.setTop (mkF m 152 #[.val (.long x0), .second, .val (.int (8 : Int32)), .val (.ref b246)] [(.int (24 : Int32)), (.long x0), (.int (3 : Int32)), (.ref b246)]))
  refine own_st (fun t_ => XS.lushr (own_here Y260) hx rfl (hb hby own_d1_152) rfl) ?_
  show own_Ends _ _ _ _ (T259.setTop (mkF m 153 #[.val (.long x0), .second, .val (.int (8 : Int32)), .val (.ref b246)] [(.long ((x0.toUInt64 >>> ((24 : Int32) &&& 0x3f).toInt64.toUInt64).toInt64)), (.int (3 : Int32)), (.ref b246)]))
  refine own_st (fun t_ => XS.l2i (own_here Y260) hx rfl (hb hby own_d1_153) rfl) ?_
  show own_Ends _ _ _ _ (T259.setTop (mkF m 154 #[.val (.long x0), .second, .val (.int (8 : Int32)), .val (.ref b246)] [(.int (((x0.toUInt64 >>> ((24 : Int32) &&& 0x3f).toInt64.toUInt64).toInt64).toInt32)), (.int (3 : Int32)), (.ref b246)]))
  refine own_st (fun t_ => XS.i2b (own_here Y260) hx rfl (hb hby own_d1_154) rfl) ?_
  show own_Ends _ _ _ _ (T259.setTop (mkF m 155 #[.val (.long x0), .second, .val (.int (8 : Int32)), .val (.ref b246)] [(.int ((((x0.toUInt64 >>> ((24 : Int32) &&& 0x3f).toInt64.toUInt64).toInt64).toInt32).toInt8.toInt32)), (.int (3 : Int32)), (.ref b246)]))
  refine own_stB Y260 hx hZ A263 g248 (i := 3) (by decide) (by decide) (Nat.le_of_ble_eq_true rfl) rfl rfl (hb hby own_d1_155) (fun T264 h266 Y265 W267 A268 => ?_)
  replace A268 : own_A Z h266 b246 .byte [(.int (((x0.toInt32).toInt8.toInt32).toInt8.toInt32)), (.int (((((x0.toUInt64 >>> ((8 : Int32) &&& 0x3f).toInt64.toUInt64).toInt64).toInt32).toInt8.toInt32).toInt8.toInt32)), (.int (((((x0.toUInt64 >>> ((16 : Int32) &&& 0x3f).toInt64.toUInt64).toInt64).toInt32).toInt8.toInt32).toInt8.toInt32)), (.int (((((x0.toUInt64 >>> ((24 : Int32) &&& 0x3f).toInt64.toUInt64).toInt64).toInt32).toInt8.toInt32).toInt8.toInt32)), (.int (0 : Int32)), (.int (0 : Int32)), (.int (0 : Int32)), (.int (0 : Int32))] := A268
  show own_Ends _ _ _ _ (T264.setTop (mkF m 156 #[.val (.long x0), .second, .val (.int (8 : Int32)), .val (.ref b246)] []))
  refine own_st (fun t_ => XS.iloadN (own_here Y265) hx rfl (hb hby own_d1_156) rfl) ?_
  show own_Ends _ _ _ _ (T264.setTop (mkF m 157 #[.val (.long x0), .second, .val (.int (8 : Int32)), .val (.ref b246)] [(.int (8 : Int32))]))
  refine own_st (fun t_ => XS.iconst (own_here Y265) hx rfl (hb hby own_d1_157) ) ?_
  show own_Ends _ _ _ _ (T264.setTop (mkF m 158 #[.val (.long x0), .second, .val (.int (8 : Int32)), .val (.ref b246)] [(.int (4 : Int32)), (.int (8 : Int32))]))
  refine own_st (fun t_ => XS.icmpNo (own_here Y265) hx rfl (hb hby own_d1_158) rfl (XT.ii_le_f (by decide))) ?_
  show own_Ends _ _ _ _ (T264.setTop (mkF m 161 #[.val (.long x0), .second, .val (.int (8 : Int32)), .val (.ref b246)] []))
  refine own_st (fun t_ => XS.aloadN (own_here Y265) hx rfl (hb hby own_d1_161) rfl rfl) ?_
  show own_Ends _ _ _ _ (T264.setTop (mkF m 162 #[.val (.long x0), .second, .val (.int (8 : Int32)), .val (.ref b246)] [(.ref b246)]))
  refine own_st (fun t_ => XS.iconst (own_here Y265) hx rfl (hb hby own_d1_162) ) ?_
  show own_Ends _ _ _ _ (T264.setTop (mkF m 163 #[.val (.long x0), .second, .val (.int (8 : Int32)), .val (.ref b246)] [(.int (4 : Int32)), (.ref b246)]))
  refine own_st (fun t_ => XS.lloadN (own_here Y265) hx rfl (hb hby own_d1_163) rfl) ?_
  show own_Ends _ _ _ _ (T264.setTop (mkF m 164 #[.val (.long x0), .second, .val (.int (8 : Int32)), .val (.ref b246)] [(.long x0), (.int (4 : Int32)), (.ref b246)]))
  refine own_st (fun t_ => XS.bipush (own_here Y265) hx rfl (hb hby own_d1_164) ) ?_
  show own_Ends _ _ _ _ (T264.setTop (mkF m 166 #[.val (.long x0), .second, .val (.int (8 : Int32)), .val (.ref b246)] [(.int (32 : Int32)), (.long x0), (.int (4 : Int32)), (.ref b246)]))
  refine own_st (fun t_ => XS.lushr (own_here Y265) hx rfl (hb hby own_d1_166) rfl) ?_
  show own_Ends _ _ _ _ (T264.setTop (mkF m 167 #[.val (.long x0), .second, .val (.int (8 : Int32)), .val (.ref b246)] [(.long ((x0.toUInt64 >>> ((32 : Int32) &&& 0x3f).toInt64.toUInt64).toInt64)), (.int (4 : Int32)), (.ref b246)]))
  refine own_st (fun t_ => XS.l2i (own_here Y265) hx rfl (hb hby own_d1_167) rfl) ?_
  show own_Ends _ _ _ _ (T264.setTop (mkF m 168 #[.val (.long x0), .second, .val (.int (8 : Int32)), .val (.ref b246)] [(.int (((x0.toUInt64 >>> ((32 : Int32) &&& 0x3f).toInt64.toUInt64).toInt64).toInt32)), (.int (4 : Int32)), (.ref b246)]))
  refine own_st (fun t_ => XS.i2b (own_here Y265) hx rfl (hb hby own_d1_168) rfl) ?_
  show own_Ends _ _ _ _ (T264.setTop (mkF m 169 #[.val (.long x0), .second, .val (.int (8 : Int32)), .val (.ref b246)] [(.int ((((x0.toUInt64 >>> ((32 : Int32) &&& 0x3f).toInt64.toUInt64).toInt64).toInt32).toInt8.toInt32)), (.int (4 : Int32)), (.ref b246)]))
  refine own_stB Y265 hx hZ A268 g248 (i := 4) (by decide) (by decide) (Nat.le_of_ble_eq_true rfl) rfl rfl (hb hby own_d1_169) (fun T269 h271 Y270 W272 A273 => ?_)
  replace A273 : own_A Z h271 b246 .byte [(.int (((x0.toInt32).toInt8.toInt32).toInt8.toInt32)), (.int (((((x0.toUInt64 >>> ((8 : Int32) &&& 0x3f).toInt64.toUInt64).toInt64).toInt32).toInt8.toInt32).toInt8.toInt32)), (.int (((((x0.toUInt64 >>> ((16 : Int32) &&& 0x3f).toInt64.toUInt64).toInt64).toInt32).toInt8.toInt32).toInt8.toInt32)), (.int (((((x0.toUInt64 >>> ((24 : Int32) &&& 0x3f).toInt64.toUInt64).toInt64).toInt32).toInt8.toInt32).toInt8.toInt32)), (.int (((((x0.toUInt64 >>> ((32 : Int32) &&& 0x3f).toInt64.toUInt64).toInt64).toInt32).toInt8.toInt32).toInt8.toInt32)), (.int (0 : Int32)), (.int (0 : Int32)), (.int (0 : Int32))] := A273
  show own_Ends _ _ _ _ (T269.setTop (mkF m 170 #[.val (.long x0), .second, .val (.int (8 : Int32)), .val (.ref b246)] []))
  refine own_st (fun t_ => XS.iloadN (own_here Y270) hx rfl (hb hby own_d1_170) rfl) ?_
  show own_Ends _ _ _ _ (T269.setTop (mkF m 171 #[.val (.long x0), .second, .val (.int (8 : Int32)), .val (.ref b246)] [(.int (8 : Int32))]))
  refine own_st (fun t_ => XS.iconst (own_here Y270) hx rfl (hb hby own_d1_171) ) ?_
  show own_Ends _ _ _ _ (T269.setTop (mkF m 172 #[.val (.long x0), .second, .val (.int (8 : Int32)), .val (.ref b246)] [(.int (5 : Int32)), (.int (8 : Int32))]))
  refine own_st (fun t_ => XS.icmpNo (own_here Y270) hx rfl (hb hby own_d1_172) rfl (XT.ii_le_f (by decide))) ?_
  show own_Ends _ _ _ _ (T269.setTop (mkF m 175 #[.val (.long x0), .second, .val (.int (8 : Int32)), .val (.ref b246)] []))
  refine own_st (fun t_ => XS.aloadN (own_here Y270) hx rfl (hb hby own_d1_175) rfl rfl) ?_
  show own_Ends _ _ _ _ (T269.setTop (mkF m 176 #[.val (.long x0), .second, .val (.int (8 : Int32)), .val (.ref b246)] [(.ref b246)]))
  refine own_st (fun t_ => XS.iconst (own_here Y270) hx rfl (hb hby own_d1_176) ) ?_
  show own_Ends _ _ _ _ (T269.setTop (mkF m 177 #[.val (.long x0), .second, .val (.int (8 : Int32)), .val (.ref b246)] [(.int (5 : Int32)), (.ref b246)]))
  refine own_st (fun t_ => XS.lloadN (own_here Y270) hx rfl (hb hby own_d1_177) rfl) ?_
  show own_Ends _ _ _ _ (T269.setTop (mkF m 178 #[.val (.long x0), .second, .val (.int (8 : Int32)), .val (.ref b246)] [(.long x0), (.int (5 : Int32)), (.ref b246)]))
  refine own_st (fun t_ => XS.bipush (own_here Y270) hx rfl (hb hby own_d1_178) ) ?_
  show own_Ends _ _ _ _ (T269.setTop (mkF m 180 #[.val (.long x0), .second, .val (.int (8 : Int32)), .val (.ref b246)] [(.int (40 : Int32)), (.long x0), (.int (5 : Int32)), (.ref b246)]))
  refine own_st (fun t_ => XS.lushr (own_here Y270) hx rfl (hb hby own_d1_180) rfl) ?_
  show own_Ends _ _ _ _ (T269.setTop (mkF m 181 #[.val (.long x0), .second, .val (.int (8 : Int32)), .val (.ref b246)] [(.long ((x0.toUInt64 >>> ((40 : Int32) &&& 0x3f).toInt64.toUInt64).toInt64)), (.int (5 : Int32)), (.ref b246)]))
  refine own_st (fun t_ => XS.l2i (own_here Y270) hx rfl (hb hby own_d1_181) rfl) ?_
  show own_Ends _ _ _ _ (T269.setTop (mkF m 182 #[.val (.long x0), .second, .val (.int (8 : Int32)), .val (.ref b246)] [(.int (((x0.toUInt64 >>> ((40 : Int32) &&& 0x3f).toInt64.toUInt64).toInt64).toInt32)), (.int (5 : Int32)), (.ref b246)]))
  refine own_st (fun t_ => XS.i2b (own_here Y270) hx rfl (hb hby own_d1_182) rfl) ?_
  show own_Ends _ _ _ _ (T269.setTop (mkF m 183 #[.val (.long x0), .second, .val (.int (8 : Int32)), .val (.ref b246)] [(.int ((((x0.toUInt64 >>> ((40 : Int32) &&& 0x3f).toInt64.toUInt64).toInt64).toInt32).toInt8.toInt32)), (.int (5 : Int32)), (.ref b246)]))
  refine own_stB Y270 hx hZ A273 g248 (i := 5) (by decide) (by decide) (Nat.le_of_ble_eq_true rfl) rfl rfl (hb hby own_d1_183) (fun T274 h276 Y275 W277 A278 => ?_)
  replace A278 : own_A Z h276 b246 .byte [(.int (((x0.toInt32).toInt8.toInt32).toInt8.toInt32)), (.int (((((x0.toUInt64 >>> ((8 : Int32) &&& 0x3f).toInt64.toUInt64).toInt64).toInt32).toInt8.toInt32).toInt8.toInt32)), (.int (((((x0.toUInt64 >>> ((16 : Int32) &&& 0x3f).toInt64.toUInt64).toInt64).toInt32).toInt8.toInt32).toInt8.toInt32)), (.int (((((x0.toUInt64 >>> ((24 : Int32) &&& 0x3f).toInt64.toUInt64).toInt64).toInt32).toInt8.toInt32).toInt8.toInt32)), (.int (((((x0.toUInt64 >>> ((32 : Int32) &&& 0x3f).toInt64.toUInt64).toInt64).toInt32).toInt8.toInt32).toInt8.toInt32)), (.int (((((x0.toUInt64 >>> ((40 : Int32) &&& 0x3f).toInt64.toUInt64).toInt64).toInt32).toInt8.toInt32).toInt8.toInt32)), (.int (0 : Int32)), (.int (0 : Int32))] := A278
  show own_Ends _ _ _ _ (T274.setTop (mkF m 184 #[.val (.long x0), .second, .val (.int (8 : Int32)), .val (.ref b246)] []))
  refine own_st (fun t_ => XS.iloadN (own_here Y275) hx rfl (hb hby own_d1_184) rfl) ?_
  show own_Ends _ _ _ _ (T274.setTop (mkF m 185 #[.val (.long x0), .second, .val (.int (8 : Int32)), .val (.ref b246)] [(.int (8 : Int32))]))
  refine own_st (fun t_ => XS.bipush (own_here Y275) hx rfl (hb hby own_d1_185) ) ?_
  show own_Ends _ _ _ _ (T274.setTop (mkF m 187 #[.val (.long x0), .second, .val (.int (8 : Int32)), .val (.ref b246)] [(.int (6 : Int32)), (.int (8 : Int32))]))
  refine own_st (fun t_ => XS.icmpNo (own_here Y275) hx rfl (hb hby own_d1_187) rfl (XT.ii_le_f (by decide))) ?_
  show own_Ends _ _ _ _ (T274.setTop (mkF m 190 #[.val (.long x0), .second, .val (.int (8 : Int32)), .val (.ref b246)] []))
  refine own_st (fun t_ => XS.aloadN (own_here Y275) hx rfl (hb hby own_d1_190) rfl rfl) ?_
  show own_Ends _ _ _ _ (T274.setTop (mkF m 191 #[.val (.long x0), .second, .val (.int (8 : Int32)), .val (.ref b246)] [(.ref b246)]))
  refine own_st (fun t_ => XS.bipush (own_here Y275) hx rfl (hb hby own_d1_191) ) ?_
  show own_Ends _ _ _ _ (T274.setTop (mkF m 193 #[.val (.long x0), .second, .val (.int (8 : Int32)), .val (.ref b246)] [(.int (6 : Int32)), (.ref b246)]))
  refine own_st (fun t_ => XS.lloadN (own_here Y275) hx rfl (hb hby own_d1_193) rfl) ?_
  show own_Ends _ _ _ _ (T274.setTop (mkF m 194 #[.val (.long x0), .second, .val (.int (8 : Int32)), .val (.ref b246)] [(.long x0), (.int (6 : Int32)), (.ref b246)]))
  refine own_st (fun t_ => XS.bipush (own_here Y275) hx rfl (hb hby own_d1_194) ) ?_
  show own_Ends _ _ _ _ (T274.setTop (mkF m 196 #[.val (.long x0), .second, .val (.int (8 : Int32)), .val (.ref b246)] [(.int (48 : Int32)), (.long x0), (.int (6 : Int32)), (.ref b246)]))
  refine own_st (fun t_ => XS.lushr (own_here Y275) hx rfl (hb hby own_d1_196) rfl) ?_
  show own_Ends _ _ _ _ (T274.setTop (mkF m 197 #[.val (.long x0), .second, .val (.int (8 : Int32)), .val (.ref b246)] [(.long ((x0.toUInt64 >>> ((48 : Int32) &&& 0x3f).toInt64.toUInt64).toInt64)), (.int (6 : Int32)), (.ref b246)]))
  refine own_st (fun t_ => XS.l2i (own_here Y275) hx rfl (hb hby own_d1_197) rfl) ?_
  show own_Ends _ _ _ _ (T274.setTop (mkF m 198 #[.val (.long x0), .second, .val (.int (8 : Int32)), .val (.ref b246)] [(.int (((x0.toUInt64 >>> ((48 : Int32) &&& 0x3f).toInt64.toUInt64).toInt64).toInt32)), (.int (6 : Int32)), (.ref b246)]))
  refine own_st (fun t_ => XS.i2b (own_here Y275) hx rfl (hb hby own_d1_198) rfl) ?_
  show own_Ends _ _ _ _ (T274.setTop (mkF m 199 #[.val (.long x0), .second, .val (.int (8 : Int32)), .val (.ref b246)] [(.int ((((x0.toUInt64 >>> ((48 : Int32) &&& 0x3f).toInt64.toUInt64).toInt64).toInt32).toInt8.toInt32)), (.int (6 : Int32)), (.ref b246)]))
  refine own_stB Y275 hx hZ A278 g248 (i := 6) (by decide) (by decide) (Nat.le_of_ble_eq_true rfl) rfl rfl (hb hby own_d1_199) (fun T279 h281 Y280 W282 A283 => ?_)
  replace A283 : own_A Z h281 b246 .byte [(.int (((x0.toInt32).toInt8.toInt32).toInt8.toInt32)), (.int (((((x0.toUInt64 >>> ((8 : Int32) &&& 0x3f).toInt64.toUInt64).toInt64).toInt32).toInt8.toInt32).toInt8.toInt32)), (.int (((((x0.toUInt64 >>> ((16 : Int32) &&& 0x3f).toInt64.toUInt64).toInt64).toInt32).toInt8.toInt32).toInt8.toInt32)), (.int (((((x0.toUInt64 >>> ((24 : Int32) &&& 0x3f).toInt64.toUInt64).toInt64).toInt32).toInt8.toInt32).toInt8.toInt32)), (.int (((((x0.toUInt64 >>> ((32 : Int32) &&& 0x3f).toInt64.toUInt64).toInt64).toInt32).toInt8.toInt32).toInt8.toInt32)), (.int (((((x0.toUInt64 >>> ((40 : Int32) &&& 0x3f).toInt64.toUInt64).toInt64).toInt32).toInt8.toInt32).toInt8.toInt32)), (.int (((((x0.toUInt64 >>> ((48 : Int32) &&& 0x3f).toInt64.toUInt64).toInt64).toInt32).toInt8.toInt32).toInt8.toInt32)), (.int (0 : Int32))] := A283
  show own_Ends _ _ _ _ (T279.setTop (mkF m 200 #[.val (.long x0), .second, .val (.int (8 : Int32)), .val (.ref b246)] []))
  refine own_st (fun t_ => XS.iloadN (own_here Y280) hx rfl (hb hby own_d1_200) rfl) ?_
  show own_Ends _ _ _ _ (T279.setTop (mkF m 201 #[.val (.long x0), .second, .val (.int (8 : Int32)), .val (.ref b246)] [(.int (8 : Int32))]))
  refine own_st (fun t_ => XS.bipush (own_here Y280) hx rfl (hb hby own_d1_201) ) ?_
  show own_Ends _ _ _ _ (T279.setTop (mkF m 203 #[.val (.long x0), .second, .val (.int (8 : Int32)), .val (.ref b246)] [(.int (7 : Int32)), (.int (8 : Int32))]))
  refine own_st (fun t_ => XS.icmpNo (own_here Y280) hx rfl (hb hby own_d1_203) rfl (XT.ii_le_f (by decide))) ?_
  show own_Ends _ _ _ _ (T279.setTop (mkF m 206 #[.val (.long x0), .second, .val (.int (8 : Int32)), .val (.ref b246)] []))
  refine own_st (fun t_ => XS.aloadN (own_here Y280) hx rfl (hb hby own_d1_206) rfl rfl) ?_
  show own_Ends _ _ _ _ (T279.setTop (mkF m 207 #[.val (.long x0), .second, .val (.int (8 : Int32)), .val (.ref b246)] [(.ref b246)]))
  refine own_st (fun t_ => XS.bipush (own_here Y280) hx rfl (hb hby own_d1_207) ) ?_
  show own_Ends _ _ _ _ (T279.setTop (mkF m 209 #[.val (.long x0), .second, .val (.int (8 : Int32)), .val (.ref b246)] [(.int (7 : Int32)), (.ref b246)]))
  refine own_st (fun t_ => XS.lloadN (own_here Y280) hx rfl (hb hby own_d1_209) rfl) ?_
  show own_Ends _ _ _ _ (T279.setTop (mkF m 210 #[.val (.long x0), .second, .val (.int (8 : Int32)), .val (.ref b246)] [(.long x0), (.int (7 : Int32)), (.ref b246)]))
  refine own_st (fun t_ => XS.bipush (own_here Y280) hx rfl (hb hby own_d1_210) ) ?_
  show own_Ends _ _ _ _ (T279.setTop (mkF m 212 #[.val (.long x0), .second, .val (.int (8 : Int32)), .val (.ref b246)] [(.int (56 : Int32)), (.long x0), (.int (7 : Int32)), (.ref b246)]))
  refine own_st (fun t_ => XS.lushr (own_here Y280) hx rfl (hb hby own_d1_212) rfl) ?_
  show own_Ends _ _ _ _ (T279.setTop (mkF m 213 #[.val (.long x0), .second, .val (.int (8 : Int32)), .val (.ref b246)] [(.long ((x0.toUInt64 >>> ((56 : Int32) &&& 0x3f).toInt64.toUInt64).toInt64)), (.int (7 : Int32)), (.ref b246)]))
  refine own_st (fun t_ => XS.l2i (own_here Y280) hx rfl (hb hby own_d1_213) rfl) ?_
  show own_Ends _ _ _ _ (T279.setTop (mkF m 214 #[.val (.long x0), .second, .val (.int (8 : Int32)), .val (.ref b246)] [(.int (((x0.toUInt64 >>> ((56 : Int32) &&& 0x3f).toInt64.toUInt64).toInt64).toInt32)), (.int (7 : Int32)), (.ref b246)]))
  refine own_st (fun t_ => XS.i2b (own_here Y280) hx rfl (hb hby own_d1_214) rfl) ?_
  show own_Ends _ _ _ _ (T279.setTop (mkF m 215 #[.val (.long x0), .second, .val (.int (8 : Int32)), .val (.ref b246)] [(.int ((((x0.toUInt64 >>> ((56 : Int32) &&& 0x3f).toInt64.toUInt64).toInt64).toInt32).toInt8.toInt32)), (.int (7 : Int32)), (.ref b246)]))
  refine own_stB Y280 hx hZ A283 g248 (i := 7) (by decide) (by decide) (Nat.le_of_ble_eq_true rfl) rfl rfl (hb hby own_d1_215) (fun T284 h286 Y285 W287 A288 => ?_)
  replace A288 : own_A Z h286 b246 .byte [(.int (((x0.toInt32).toInt8.toInt32).toInt8.toInt32)), (.int (((((x0.toUInt64 >>> ((8 : Int32) &&& 0x3f).toInt64.toUInt64).toInt64).toInt32).toInt8.toInt32).toInt8.toInt32)), (.int (((((x0.toUInt64 >>> ((16 : Int32) &&& 0x3f).toInt64.toUInt64).toInt64).toInt32).toInt8.toInt32).toInt8.toInt32)), (.int (((((x0.toUInt64 >>> ((24 : Int32) &&& 0x3f).toInt64.toUInt64).toInt64).toInt32).toInt8.toInt32).toInt8.toInt32)), (.int (((((x0.toUInt64 >>> ((32 : Int32) &&& 0x3f).toInt64.toUInt64).toInt64).toInt32).toInt8.toInt32).toInt8.toInt32)), (.int (((((x0.toUInt64 >>> ((40 : Int32) &&& 0x3f).toInt64.toUInt64).toInt64).toInt32).toInt8.toInt32).toInt8.toInt32)), (.int (((((x0.toUInt64 >>> ((48 : Int32) &&& 0x3f).toInt64.toUInt64).toInt64).toInt32).toInt8.toInt32).toInt8.toInt32)), (.int (((((x0.toUInt64 >>> ((56 : Int32) &&& 0x3f).toInt64.toUInt64).toInt64).toInt32).toInt8.toInt32).toInt8.toInt32))] := A288
  show own_Ends _ _ _ _ (T284.setTop (mkF m 216 #[.val (.long x0), .second, .val (.int (8 : Int32)), .val (.ref b246)] []))
  refine own_st (fun t_ => XS.aloadN (own_here Y285) hx rfl (hb hby own_d1_216) rfl rfl) ?_
  show own_Ends _ _ _ _ (T284.setTop (mkF m 217 #[.val (.long x0), .second, .val (.int (8 : Int32)), .val (.ref b246)] [(.ref b246)]))
  have K289 : Keep h0 h243 [] := (Keep.refl h0 []).ext E244
  have K290 : Keep h0 h251 [] := K289.wr W252 (Or.inr (by rw [eb247]; exact (Keep.refl h0 []).1))
  have K291 : Keep h0 h256 [] := K290.wr W257 (Or.inr (by rw [eb247]; exact (Keep.refl h0 []).1))
  have K292 : Keep h0 h261 [] := K291.wr W262 (Or.inr (by rw [eb247]; exact (Keep.refl h0 []).1))
  have K293 : Keep h0 h266 [] := K292.wr W267 (Or.inr (by rw [eb247]; exact (Keep.refl h0 []).1))
  have K294 : Keep h0 h271 [] := K293.wr W272 (Or.inr (by rw [eb247]; exact (Keep.refl h0 []).1))
  have K295 : Keep h0 h276 [] := K294.wr W277 (Or.inr (by rw [eb247]; exact (Keep.refl h0 []).1))
  have K296 : Keep h0 h281 [] := K295.wr W282 (Or.inr (by rw [eb247]; exact (Keep.refl h0 []).1))
  have K297 : Keep h0 h286 [] := K296.wr W287 (Or.inr (by rw [eb247]; exact (Keep.refl h0 []).1))
  refine own_retA Y285 hx hlk hret rfl rfl rfl (hb hby own_d1_217) (by decide) (by decide) ?_
  exact ⟨_, rfl, K297, by have q := A288; simp only [own_bb] at q; exact q⟩
theorem own_d3_0 : decode method_3_code 0 = .ok (.iload 4, 2) := by decide +kernel
theorem own_d3_2 : decode method_3_code 2 = .ok (.iload_n 3, 1) := by decide +kernel
theorem own_d3_3 : decode method_3_code 3 = .ok (.if_icmp .ge 16, 3) := by decide +kernel
theorem own_d3_6 : decode method_3_code 6 = .ok (.aload_n 0, 1) := by decide +kernel
theorem own_d3_7 : decode method_3_code 7 = .ok (.iload_n 1, 1) := by decide +kernel
theorem own_d3_8 : decode method_3_code 8 = .ok (.iload 4, 2) := by decide +kernel
theorem own_d3_10 : decode method_3_code 10 = .ok (.iadd, 1) := by decide +kernel
theorem own_d3_11 : decode method_3_code 11 = .ok (.baload, 1) := by decide +kernel
theorem own_d3_12 : decode method_3_code 12 = .ok (.aload_n 2, 1) := by decide +kernel
theorem own_d3_13 : decode method_3_code 13 = .ok (.iload 4, 2) := by decide +kernel
theorem own_d3_15 : decode method_3_code 15 = .ok (.baload, 1) := by decide +kernel
theorem own_d3_16 : decode method_3_code 16 = .ok (.if_icmp .ne 7, 3) := by decide +kernel
theorem own_d3_19 : decode method_3_code 19 = .ok (.iconst 1, 1) := by decide +kernel
theorem own_d3_20 : decode method_3_code 20 = .ok (.goto 4, 3) := by decide +kernel
theorem own_d3_24 : decode method_3_code 24 = .ok (.ireturn, 1) := by decide +kernel
theorem own_d3_23 : decode method_3_code 23 = .ok (.iconst 0, 1) := by decide +kernel
theorem own_ef_own_rm3 (m : MethodId) (r0 : Addr) (x1 : Int32) (r2 : Addr) (x3 : Int32) (x4 : Int32) : entryFrame m #[(.ref r0), (.int x1), (.ref r2), (.int x3), (.int x4)] 5 = mkF m 0 #[.val (.ref r0), .val (.int x1), .val (.ref r2), .val (.int x3), .val (.int x4)] [] := by first | (simp [entryFrame, mkF, argsToLocals, Value.category]; done) | rfl
def own_Q_own_rm3 (Z : State) (xs ys : List Int32) (s0 n i : Nat) (h0 : Heap) (n0 : Nat) (v : Option Value) (h : Heap) : Prop := v = some (.int (own_b (own_m xs ys s0 n i))) ∧ h0 = h
set_option maxRecDepth 65536 in
set_option maxHeartbeats 40000000 in
theorem own_rm3 (l : Launch) (Z : State) (a0 : Array Value) (hw : ∀ d ∈ tables_1, d.before a0 Z = true) (ws : List Jvm.Cond) (r0 : Addr) (x1 : Int32) (r2 : Addr) (x3 : Int32) (x4 : Int32) (xs ys : List Int32) (s0 n i : Nat) (h0 : Heap) (n0 : Nat)  (A0 : own_A Z h0 r0 .byte (xs.map Value.int)) (A2 : own_A Z h0 r2 .byte (ys.map Value.int)) (hs : x1.toInt = (s0 : Int)) (hn : x3.toInt = (n : Int)) (hi : x4.toInt = (i : Int)) (hl : ys.length = n) (hb8 : s0 + n ≤ xs.length) (h31 : s0 + n < 2147483648) :
    own_Con l Z (⟨"com/example/tagwire/tagwire/wire/BytesStartsWithPinLaw", "m", "([BI[BII)Z"⟩ : MethodName) method_3_code 5 (some .boolean) ws ({ frames := 0, cells := 0, slots := 0, locals := 0 } : Room) #[(.ref r0), (.int x1), (.ref r2), (.int x3), (.int x4)] h0 n0 (own_Q_own_rm3 Z xs ys s0 n i h0 n0) := by
  refine own_body (plainFor_of_name own_pn0) ?_
  intro p e s m below meth c T0 hx hZ hby hml hown hnm hret hlk Y0
  replace hown : s.vm.findClass "com/example/tagwire/tagwire/wire/BytesStartsWithPinLaw" = some m.cls := hown
  replace hnm : meth.name = "m" := hnm
  rw [own_ef_own_rm3 m r0 x1 r2 x3 x4]
  show own_Ends _ _ _ _ (T0.setTop (mkF m 0 #[.val (.ref r0), .val (.int x1), .val (.ref r2), .val (.int x3), .val (.int x4)] []))
  obtain ⟨i0, i1⟩ := own_nat hi
  refine own_st (fun t_ => XS.iload (own_here Y0) hx rfl (hb hby own_d3_0) rfl) ?_
  show own_Ends _ _ _ _ (T0.setTop (mkF m 2 #[.val (.ref r0), .val (.int x1), .val (.ref r2), .val (.int x3), .val (.int x4)] [(.int x4)]))
  refine own_st (fun t_ => XS.iloadN (own_here Y0) hx rfl (hb hby own_d3_2) rfl) ?_
  show own_Ends _ _ _ _ (T0.setTop (mkF m 3 #[.val (.ref r0), .val (.int x1), .val (.ref r2), .val (.int x3), .val (.int x4)] [(.int x3), (.int x4)]))
  by_cases c3_298 : x4 < x3
  ·
   refine own_st (fun t_ => XS.icmpNo (own_here Y0) hx rfl (hb hby own_d3_3) rfl (XT.ii_ge_f c3_298)) ?_
   show own_Ends _ _ _ _ (T0.setTop (mkF m 6 #[.val (.ref r0), .val (.int x1), .val (.ref r2), .val (.int x3), .val (.int x4)] []))
   have hlt : i < n := by have := c3_298; rw [own_lt, hi, hn] at this; omega
   obtain ⟨u0, u1⟩ := own_nat (own_add hs hi (by omega))
   refine own_st (fun t_ => XS.aloadN (own_here Y0) hx rfl (hb hby own_d3_6) rfl rfl) ?_
   show own_Ends _ _ _ _ (T0.setTop (mkF m 7 #[.val (.ref r0), .val (.int x1), .val (.ref r2), .val (.int x3), .val (.int x4)] [(.ref r0)]))
   refine own_st (fun t_ => XS.iloadN (own_here Y0) hx rfl (hb hby own_d3_7) rfl) ?_
   show own_Ends _ _ _ _ (T0.setTop (mkF m 8 #[.val (.ref r0), .val (.int x1), .val (.ref r2), .val (.int x3), .val (.int x4)] [(.int x1), (.ref r0)]))
   refine own_st (fun t_ => XS.iload (own_here Y0) hx rfl (hb hby own_d3_8) rfl) ?_
   show own_Ends _ _ _ _ (T0.setTop (mkF m 10 #[.val (.ref r0), .val (.int x1), .val (.ref r2), .val (.int x3), .val (.int x4)] [(.int x4), (.int x1), (.ref r0)]))
   refine own_st (fun t_ => XS.iadd (own_here Y0) hx rfl (hb hby own_d3_10) rfl) ?_
   show own_Ends _ _ _ _ (T0.setTop (mkF m 11 #[.val (.ref r0), .val (.int x1), .val (.ref r2), .val (.int x3), .val (.int x4)] [(.int (x1 + x4)), (.ref r0)]))
   refine own_ldB Y0 hx hZ A0 (i := (s0 + i)) u0 u1 (own_mlen (by omega)) (v := (.int (own_g xs (s0 + i)))) (own_mget (own_mlen (by omega))) rfl rfl (hb hby own_d3_11) ?_
   show own_Ends _ _ _ _ (T0.setTop (mkF m 12 #[.val (.ref r0), .val (.int x1), .val (.ref r2), .val (.int x3), .val (.int x4)] [(.int (own_g xs (s0 + i)))]))
   refine own_st (fun t_ => XS.aloadN (own_here Y0) hx rfl (hb hby own_d3_12) rfl rfl) ?_
   show own_Ends _ _ _ _ (T0.setTop (mkF m 13 #[.val (.ref r0), .val (.int x1), .val (.ref r2), .val (.int x3), .val (.int x4)] [(.ref r2), (.int (own_g xs (s0 + i)))]))
   refine own_st (fun t_ => XS.iload (own_here Y0) hx rfl (hb hby own_d3_13) rfl) ?_
   show own_Ends _ _ _ _ (T0.setTop (mkF m 15 #[.val (.ref r0), .val (.int x1), .val (.ref r2), .val (.int x3), .val (.int x4)] [(.int x4), (.ref r2), (.int (own_g xs (s0 + i)))]))
   refine own_ldB Y0 hx hZ A2 (i := i) i0 i1 (own_mlen (by omega)) (v := (.int (own_g ys i))) (own_mget (own_mlen (by omega))) rfl rfl (hb hby own_d3_15) ?_
   show own_Ends _ _ _ _ (T0.setTop (mkF m 16 #[.val (.ref r0), .val (.int x1), .val (.ref r2), .val (.int x3), .val (.int x4)] [(.int (own_g ys i)), (.int (own_g xs (s0 + i)))]))
   by_cases c16_299 : (own_g xs (s0 + i)) = (own_g ys i)
   ·
    refine own_st (fun t_ => XS.icmpNo (own_here Y0) hx rfl (hb hby own_d3_16) rfl (XT.ii_ne_f c16_299)) ?_
    show own_Ends _ _ _ _ (T0.setTop (mkF m 19 #[.val (.ref r0), .val (.int x1), .val (.ref r2), .val (.int x3), .val (.int x4)] []))
    refine own_st (fun t_ => XS.iconst (own_here Y0) hx rfl (hb hby own_d3_19) ) ?_
    show own_Ends _ _ _ _ (T0.setTop (mkF m 20 #[.val (.ref r0), .val (.int x1), .val (.ref r2), .val (.int x3), .val (.int x4)] [(.int (1 : Int32))]))
    refine own_st (fun t_ => XS.goto (own_here Y0) hx rfl (pc0 := 20) (pc' := 24) rfl (hb hby own_d3_20) (by decide) (by decide)) ?_
    show own_Ends _ _ _ _ (T0.setTop (mkF m 24 #[.val (.ref r0), .val (.int x1), .val (.ref r2), .val (.int x3), .val (.int x4)] [(.int (1 : Int32))]))
    refine own_retN Y0 hx hlk (t := .boolean) hret (by simp) (hb hby own_d3_24) (by decide) (by decide) ?_
    refine ⟨?_, rfl⟩
    have hge : ¬ n ≤ i := by omega
    simp [own_m, hge, c16_299, nar, own_b]
   ·
    refine own_st (fun t_ => XS.icmpYes (own_here Y0) hx rfl (pc0 := 16) (pc' := 23) rfl (hb hby own_d3_16) rfl (XT.ii_ne_t c16_299) (by decide) (by decide)) ?_
    show own_Ends _ _ _ _ (T0.setTop (mkF m 23 #[.val (.ref r0), .val (.int x1), .val (.ref r2), .val (.int x3), .val (.int x4)] []))
    refine own_st (fun t_ => XS.iconst (own_here Y0) hx rfl (hb hby own_d3_23) ) ?_
    show own_Ends _ _ _ _ (T0.setTop (mkF m 24 #[.val (.ref r0), .val (.int x1), .val (.ref r2), .val (.int x3), .val (.int x4)] [(.int (0 : Int32))]))
    refine own_retN Y0 hx hlk (t := .boolean) hret (by simp) (hb hby own_d3_24) (by decide) (by decide) ?_
    refine ⟨?_, rfl⟩
    have hge : ¬ n ≤ i := by omega
    simp [own_m, hge, c16_299, nar, own_b]
  ·
   refine own_st (fun t_ => XS.icmpYes (own_here Y0) hx rfl (pc0 := 3) (pc' := 19) rfl (hb hby own_d3_3) rfl (XT.ii_ge_t c3_298) (by decide) (by decide)) ?_
   show own_Ends _ _ _ _ (T0.setTop (mkF m 19 #[.val (.ref r0), .val (.int x1), .val (.ref r2), .val (.int x3), .val (.int x4)] []))
   refine own_st (fun t_ => XS.iconst (own_here Y0) hx rfl (hb hby own_d3_19) ) ?_
   show own_Ends _ _ _ _ (T0.setTop (mkF m 20 #[.val (.ref r0), .val (.int x1), .val (.ref r2), .val (.int x3), .val (.int x4)] [(.int (1 : Int32))]))
   refine own_st (fun t_ => XS.goto (own_here Y0) hx rfl (pc0 := 20) (pc' := 24) rfl (hb hby own_d3_20) (by decide) (by decide)) ?_
   show own_Ends _ _ _ _ (T0.setTop (mkF m 24 #[.val (.ref r0), .val (.int x1), .val (.ref r2), .val (.int x3), .val (.int x4)] [(.int (1 : Int32))]))
   refine own_retN Y0 hx hlk (t := .boolean) hret (by simp) (hb hby own_d3_24) (by decide) (by decide) ?_
   refine ⟨?_, rfl⟩
   have hge : n ≤ i := by have := c3_298; rw [own_lt, hi, hn] at this; omega
   simp [own_m, hge, nar, own_b]
theorem own_pn1 : plainName "com/example/tagwire/tagwire/wire/Bytes" = true := by first | (simp [plainName, overriddenIn]; done) | decide +kernel
theorem own_d2_0 : decode prog_49_method_3_code 0 = .ok (.iload_n 2, 1) := by decide +kernel
theorem own_d2_1 : decode prog_49_method_3_code 1 = .ok (.iload_n 1, 1) := by decide +kernel
theorem own_d2_2 : decode prog_49_method_3_code 2 = .ok (.isub, 1) := by decide +kernel
theorem own_d2_3 : decode prog_49_method_3_code 3 = .ok (.aload_n 3, 1) := by decide +kernel
theorem own_d2_4 : decode prog_49_method_3_code 4 = .ok (.arraylength, 1) := by decide +kernel
theorem own_d2_5 : decode prog_49_method_3_code 5 = .ok (.if_icmp .ge 5, 3) := by decide +kernel
theorem own_d2_8 : decode prog_49_method_3_code 8 = .ok (.iconst 0, 1) := by decide +kernel
theorem own_d2_9 : decode prog_49_method_3_code 9 = .ok (.ireturn, 1) := by decide +kernel
theorem own_d2_10 : decode prog_49_method_3_code 10 = .ok (.iconst 0, 1) := by decide +kernel
theorem own_d2_11 : decode prog_49_method_3_code 11 = .ok (.istore 4, 2) := by decide +kernel
theorem own_d2_13 : decode prog_49_method_3_code 13 = .ok (.iload 4, 2) := by decide +kernel
theorem own_d2_15 : decode prog_49_method_3_code 15 = .ok (.aload_n 3, 1) := by decide +kernel
theorem own_d2_16 : decode prog_49_method_3_code 16 = .ok (.arraylength, 1) := by decide +kernel
theorem own_d2_17 : decode prog_49_method_3_code 17 = .ok (.if_icmp .ge 24, 3) := by decide +kernel
theorem own_d2_20 : decode prog_49_method_3_code 20 = .ok (.aload_n 0, 1) := by decide +kernel
theorem own_d2_21 : decode prog_49_method_3_code 21 = .ok (.iload_n 1, 1) := by decide +kernel
theorem own_d2_22 : decode prog_49_method_3_code 22 = .ok (.iload 4, 2) := by decide +kernel
theorem own_d2_24 : decode prog_49_method_3_code 24 = .ok (.iadd, 1) := by decide +kernel
theorem own_d2_25 : decode prog_49_method_3_code 25 = .ok (.baload, 1) := by decide +kernel
theorem own_d2_26 : decode prog_49_method_3_code 26 = .ok (.aload_n 3, 1) := by decide +kernel
theorem own_d2_27 : decode prog_49_method_3_code 27 = .ok (.iload 4, 2) := by decide +kernel
theorem own_d2_29 : decode prog_49_method_3_code 29 = .ok (.baload, 1) := by decide +kernel
theorem own_d2_30 : decode prog_49_method_3_code 30 = .ok (.if_icmp .eq 5, 3) := by decide +kernel
theorem own_d2_35 : decode prog_49_method_3_code 35 = .ok (.iinc 4 1, 3) := by decide +kernel
theorem own_d2_38 : decode prog_49_method_3_code 38 = .ok (.goto (-25), 3) := by decide +kernel
theorem own_d2_33 : decode prog_49_method_3_code 33 = .ok (.iconst 0, 1) := by decide +kernel
theorem own_d2_34 : decode prog_49_method_3_code 34 = .ok (.ireturn, 1) := by decide +kernel
theorem own_d2_41 : decode prog_49_method_3_code 41 = .ok (.iconst 1, 1) := by decide +kernel
theorem own_d2_42 : decode prog_49_method_3_code 42 = .ok (.ireturn, 1) := by decide +kernel
theorem own_ef_own_rm2 (m : MethodId) (r0 : Addr) (x1 : Int32) (x2 : Int32) (r3 : Addr) : entryFrame m #[(.ref r0), (.int x1), (.int x2), (.ref r3)] 5 = mkF m 0 #[.val (.ref r0), .val (.int x1), .val (.int x2), .val (.ref r3), .unset] [] := by first | (simp [entryFrame, mkF, argsToLocals, Value.category]; done) | rfl
def own_Q_own_rm2 (Z : State) (xs ys : List Int32) (s0 e0 : Nat) (h0 : Heap) (n0 : Nat) (v : Option Value) (h : Heap) : Prop := v = some (.int (own_b (own_sw xs ys s0 e0))) ∧ h0 = h
set_option maxRecDepth 65536 in
set_option maxHeartbeats 40000000 in
theorem own_rm2 (l : Launch) (Z : State) (a0 : Array Value) (hw : ∀ d ∈ tables_1, d.before a0 Z = true) (ws : List Jvm.Cond) (r0 : Addr) (x1 : Int32) (x2 : Int32) (r3 : Addr) (xs ys : List Int32) (s0 e0 : Nat) (yl : Int32) (h0 : Heap) (n0 : Nat)  (A0 : own_A Z h0 r0 .byte (xs.map Value.int)) (A3 : own_A Z h0 r3 .byte (ys.map Value.int)) (hs : x1.toInt = (s0 : Int)) (he : x2.toInt = (e0 : Int)) (hse : s0 ≤ e0) (hel : e0 ≤ xs.length) (hyl : yl.toInt = (ys.length : Int)) :
    own_Con l Z (⟨"com/example/tagwire/tagwire/wire/Bytes", "startsWith", "([BII[B)Z"⟩ : MethodName) prog_49_method_3_code 5 (some .boolean) ws ({ frames := 0, cells := 0, slots := 0, locals := 0 } : Room) #[(.ref r0), (.int x1), (.int x2), (.ref r3)] h0 n0 (own_Q_own_rm2 Z xs ys s0 e0 h0 n0) := by
  refine own_body (plainFor_of_name own_pn1) ?_
  intro p e s m below meth c T0 hx hZ hby hml hown hnm hret hlk Y0
  replace hown : s.vm.findClass "com/example/tagwire/tagwire/wire/Bytes" = some m.cls := hown
  replace hnm : meth.name = "startsWith" := hnm
  rw [own_ef_own_rm2 m r0 x1 x2 r3]
  show own_Ends _ _ _ _ (T0.setTop (mkF m 0 #[.val (.ref r0), .val (.int x1), .val (.int x2), .val (.ref r3), .unset] []))
  obtain ⟨R, hR0⟩ : ∃ R, own_all (fun i => decide (own_g xs (s0 + i) = own_g ys i)) 0 ys.length = R := ⟨_, rfl⟩
  refine own_st (fun t_ => XS.iloadN (own_here Y0) hx rfl (hb hby own_d2_0) rfl) ?_
  show own_Ends _ _ _ _ (T0.setTop (mkF m 1 #[.val (.ref r0), .val (.int x1), .val (.int x2), .val (.ref r3), .unset] [(.int x2)]))
  refine own_st (fun t_ => XS.iloadN (own_here Y0) hx rfl (hb hby own_d2_1) rfl) ?_
  show own_Ends _ _ _ _ (T0.setTop (mkF m 2 #[.val (.ref r0), .val (.int x1), .val (.int x2), .val (.ref r3), .unset] [(.int x1), (.int x2)]))
  refine own_st (fun t_ => XS.isub (own_here Y0) hx rfl (hb hby own_d2_2) rfl) ?_
  show own_Ends _ _ _ _ (T0.setTop (mkF m 3 #[.val (.ref r0), .val (.int x1), .val (.int x2), .val (.ref r3), .unset] [(.int (x2 - x1))]))
  refine own_st (fun t_ => XS.aloadN (own_here Y0) hx rfl (hb hby own_d2_3) rfl rfl) ?_
  show own_Ends _ _ _ _ (T0.setTop (mkF m 4 #[.val (.ref r0), .val (.int x1), .val (.int x2), .val (.ref r3), .unset] [(.ref r3), (.int (x2 - x1))]))
  refine own_len Y0 hx hZ A3 (z := yl) (own_tolen hyl) rfl rfl (hb hby own_d2_4) ?_
  show own_Ends _ _ _ _ (T0.setTop (mkF m 5 #[.val (.ref r0), .val (.int x1), .val (.int x2), .val (.ref r3), .unset] [(.int yl), (.int (x2 - x1))]))
  by_cases c5_300 : (x2 - x1) < yl
  ·
   refine own_st (fun t_ => XS.icmpNo (own_here Y0) hx rfl (hb hby own_d2_5) rfl (XT.ii_ge_f c5_300)) ?_
   show own_Ends _ _ _ _ (T0.setTop (mkF m 8 #[.val (.ref r0), .val (.int x1), .val (.int x2), .val (.ref r3), .unset] []))
   refine own_st (fun t_ => XS.iconst (own_here Y0) hx rfl (hb hby own_d2_8) ) ?_
   show own_Ends _ _ _ _ (T0.setTop (mkF m 9 #[.val (.ref r0), .val (.int x1), .val (.int x2), .val (.ref r3), .unset] [(.int (0 : Int32))]))
   refine own_retN Y0 hx hlk (t := .boolean) hret (by simp) (hb hby own_d2_9) (by decide) (by decide) ?_
   refine ⟨?_, rfl⟩
   have hnf : ¬ ys.length ≤ e0 - s0 := by have := c5_300; rw [own_lt, own_sub he hs, hyl] at this; omega
   simp [own_sw, hnf, nar, own_b]
  ·
   refine own_st (fun t_ => XS.icmpYes (own_here Y0) hx rfl (pc0 := 5) (pc' := 10) rfl (hb hby own_d2_5) rfl (XT.ii_ge_t c5_300) (by decide) (by decide)) ?_
   show own_Ends _ _ _ _ (T0.setTop (mkF m 10 #[.val (.ref r0), .val (.int x1), .val (.int x2), .val (.ref r3), .unset] []))
   refine own_st (fun t_ => XS.iconst (own_here Y0) hx rfl (hb hby own_d2_10) ) ?_
   show own_Ends _ _ _ _ (T0.setTop (mkF m 11 #[.val (.ref r0), .val (.int x1), .val (.int x2), .val (.ref r3), .unset] [(.int (0 : Int32))]))
   refine own_st (fun t_ => XS.istore (own_here Y0) hx rfl (hb hby own_d2_11) rfl (l' := #[.val (.ref r0), .val (.int x1), .val (.int x2), .val (.ref r3), .val (.int (0 : Int32))]) rfl) ?_
   show own_Ends _ _ _ _ (T0.setTop (mkF m 13 #[.val (.ref r0), .val (.int x1), .val (.int x2), .val (.ref r3), .val (.int (0 : Int32))] []))
   have hfit : ys.length ≤ e0 - s0 := by have := c5_300; rw [own_lt, own_sub he hs, hyl] at this; omega
   have hL301 : ∀ (k : Nat) (T302 : State)  (i : Nat) (j : Int32) (Y303 : own_S p l e ({ frames := 0, cells := 0, slots := 0, locals := 0 } : Room) s m #[(.ref r0), (.int x1), (.int x2), (.ref r3)] below meth c n0 T302 h0 0 0)  (hj : j.toInt = (i : Int)) (hik : i + k = ys.length) (hR : own_all (fun i => decide (own_g xs (s0 + i) = own_g ys i)) i k = R), own_Ends p.tables e below (own_P s n0 (own_Q_own_rm2 Z xs ys s0 e0 h0 n0) ({ frames := 0, cells := 0, slots := 0, locals := 0 } : Room).cells ({ frames := 0, cells := 0, slots := 0, locals := 0 } : Room).slots) (T302.setTop (mkF m 13 #[.val (.ref r0), .val (.int x1), .val (.int x2), .val (.ref r3), .val (.int j)] [])) := by
    intro k
    induction k using Nat.strongRecOn with
    | _ k ih =>
     intro T302  i j Y303  hj hik hR
     obtain ⟨hj0, hj1⟩ := own_nat hj
     refine own_st (fun t_ => XS.iload (own_here Y303) hx rfl (hb hby own_d2_13) rfl) ?_
     show own_Ends _ _ _ _ (T302.setTop (mkF m 15 #[.val (.ref r0), .val (.int x1), .val (.int x2), .val (.ref r3), .val (.int j)] [(.int j)]))
     refine own_st (fun t_ => XS.aloadN (own_here Y303) hx rfl (hb hby own_d2_15) rfl rfl) ?_
     show own_Ends _ _ _ _ (T302.setTop (mkF m 16 #[.val (.ref r0), .val (.int x1), .val (.int x2), .val (.ref r3), .val (.int j)] [(.ref r3), (.int j)]))
     refine own_len Y303 hx hZ A3 (z := yl) (own_tolen hyl) rfl rfl (hb hby own_d2_16) ?_
     show own_Ends _ _ _ _ (T302.setTop (mkF m 17 #[.val (.ref r0), .val (.int x1), .val (.int x2), .val (.ref r3), .val (.int j)] [(.int yl), (.int j)]))
     by_cases c17_304 : j < yl
     ·
      refine own_st (fun t_ => XS.icmpNo (own_here Y303) hx rfl (hb hby own_d2_17) rfl (XT.ii_ge_f c17_304)) ?_
      show own_Ends _ _ _ _ (T302.setTop (mkF m 20 #[.val (.ref r0), .val (.int x1), .val (.int x2), .val (.ref r3), .val (.int j)] []))
      have hlt : i < ys.length := by have := c17_304; rw [own_lt, hj, hyl] at this; omega
      obtain ⟨k', rfl⟩ : ∃ k', k = k' + 1 := ⟨k - 1, by omega⟩
      have hq := rng32 x2
      obtain ⟨u0, u1⟩ := own_nat (own_add hs hj (by omega))
      refine own_st (fun t_ => XS.aloadN (own_here Y303) hx rfl (hb hby own_d2_20) rfl rfl) ?_
      show own_Ends _ _ _ _ (T302.setTop (mkF m 21 #[.val (.ref r0), .val (.int x1), .val (.int x2), .val (.ref r3), .val (.int j)] [(.ref r0)]))
      refine own_st (fun t_ => XS.iloadN (own_here Y303) hx rfl (hb hby own_d2_21) rfl) ?_
      show own_Ends _ _ _ _ (T302.setTop (mkF m 22 #[.val (.ref r0), .val (.int x1), .val (.int x2), .val (.ref r3), .val (.int j)] [(.int x1), (.ref r0)]))
      refine own_st (fun t_ => XS.iload (own_here Y303) hx rfl (hb hby own_d2_22) rfl) ?_
      show own_Ends _ _ _ _ (T302.setTop (mkF m 24 #[.val (.ref r0), .val (.int x1), .val (.int x2), .val (.ref r3), .val (.int j)] [(.int j), (.int x1), (.ref r0)]))
      refine own_st (fun t_ => XS.iadd (own_here Y303) hx rfl (hb hby own_d2_24) rfl) ?_
      show own_Ends _ _ _ _ (T302.setTop (mkF m 25 #[.val (.ref r0), .val (.int x1), .val (.int x2), .val (.ref r3), .val (.int j)] [(.int (x1 + j)), (.ref r0)]))
      refine own_ldB Y303 hx hZ A0 (i := (s0 + i)) u0 u1 (own_mlen (by omega)) (v := (.int (own_g xs (s0 + i)))) (own_mget (own_mlen (by omega))) rfl rfl (hb hby own_d2_25) ?_
      show own_Ends _ _ _ _ (T302.setTop (mkF m 26 #[.val (.ref r0), .val (.int x1), .val (.int x2), .val (.ref r3), .val (.int j)] [(.int (own_g xs (s0 + i)))]))
      refine own_st (fun t_ => XS.aloadN (own_here Y303) hx rfl (hb hby own_d2_26) rfl rfl) ?_
      show own_Ends _ _ _ _ (T302.setTop (mkF m 27 #[.val (.ref r0), .val (.int x1), .val (.int x2), .val (.ref r3), .val (.int j)] [(.ref r3), (.int (own_g xs (s0 + i)))]))
      refine own_st (fun t_ => XS.iload (own_here Y303) hx rfl (hb hby own_d2_27) rfl) ?_
      show own_Ends _ _ _ _ (T302.setTop (mkF m 29 #[.val (.ref r0), .val (.int x1), .val (.int x2), .val (.ref r3), .val (.int j)] [(.int j), (.ref r3), (.int (own_g xs (s0 + i)))]))
      refine own_ldB Y303 hx hZ A3 (i := i) hj0 hj1 (own_mlen (by omega)) (v := (.int (own_g ys i))) (own_mget (own_mlen (by omega))) rfl rfl (hb hby own_d2_29) ?_
      show own_Ends _ _ _ _ (T302.setTop (mkF m 30 #[.val (.ref r0), .val (.int x1), .val (.int x2), .val (.ref r3), .val (.int j)] [(.int (own_g ys i)), (.int (own_g xs (s0 + i)))]))
      by_cases c30_305 : (own_g xs (s0 + i)) = (own_g ys i)
      ·
       refine own_st (fun t_ => XS.icmpYes (own_here Y303) hx rfl (pc0 := 30) (pc' := 35) rfl (hb hby own_d2_30) rfl (XT.ii_eq_t c30_305) (by decide) (by decide)) ?_
       show own_Ends _ _ _ _ (T302.setTop (mkF m 35 #[.val (.ref r0), .val (.int x1), .val (.int x2), .val (.ref r3), .val (.int j)] []))
       have hR2 : own_all (fun i => decide (own_g xs (s0 + i) = own_g ys i)) (i + 1) k' = R := by rw [← hR]; simp [own_all, c30_305]
       refine own_st (fun t_ => XS.iinc (own_here Y303) hx rfl (hb hby own_d2_35) rfl (l' := #[.val (.ref r0), .val (.int x1), .val (.int x2), .val (.ref r3), .val (.int (j + (1 : Int32)))]) rfl) ?_
       show own_Ends _ _ _ _ (T302.setTop (mkF m 38 #[.val (.ref r0), .val (.int x1), .val (.int x2), .val (.ref r3), .val (.int (j + (1 : Int32)))] []))
       refine own_st (fun t_ => XS.goto (own_here Y303) hx rfl (pc0 := 38) (pc' := 13) rfl (hb hby own_d2_38) (by decide) (by decide)) ?_
       show own_Ends _ _ _ _ (T302.setTop (mkF m 13 #[.val (.ref r0), .val (.int x1), .val (.int x2), .val (.ref r3), .val (.int (j + (1 : Int32)))] []))
       exact ih k' (by omega) T302  (i + 1) ((j + (1 : Int32))) Y303  (own_inc hj (by omega)) (by omega) hR2
      ·
       refine own_st (fun t_ => XS.icmpNo (own_here Y303) hx rfl (hb hby own_d2_30) rfl (XT.ii_eq_f c30_305)) ?_
       show own_Ends _ _ _ _ (T302.setTop (mkF m 33 #[.val (.ref r0), .val (.int x1), .val (.int x2), .val (.ref r3), .val (.int j)] []))
       refine own_st (fun t_ => XS.iconst (own_here Y303) hx rfl (hb hby own_d2_33) ) ?_
       show own_Ends _ _ _ _ (T302.setTop (mkF m 34 #[.val (.ref r0), .val (.int x1), .val (.int x2), .val (.ref r3), .val (.int j)] [(.int (0 : Int32))]))
       refine own_retN Y303 hx hlk (t := .boolean) hret (by simp) (hb hby own_d2_34) (by decide) (by decide) ?_
       refine ⟨?_, rfl⟩
       have : own_sw xs ys s0 e0 = false := by rw [own_sw, hR0, ← hR]; simp [own_all, c30_305]
       rw [this]; rfl
     ·
      refine own_st (fun t_ => XS.icmpYes (own_here Y303) hx rfl (pc0 := 17) (pc' := 41) rfl (hb hby own_d2_17) rfl (XT.ii_ge_t c17_304) (by decide) (by decide)) ?_
      show own_Ends _ _ _ _ (T302.setTop (mkF m 41 #[.val (.ref r0), .val (.int x1), .val (.int x2), .val (.ref r3), .val (.int j)] []))
      refine own_st (fun t_ => XS.iconst (own_here Y303) hx rfl (hb hby own_d2_41) ) ?_
      show own_Ends _ _ _ _ (T302.setTop (mkF m 42 #[.val (.ref r0), .val (.int x1), .val (.int x2), .val (.ref r3), .val (.int j)] [(.int (1 : Int32))]))
      refine own_retN Y303 hx hlk (t := .boolean) hret (by simp) (hb hby own_d2_42) (by decide) (by decide) ?_
      refine ⟨?_, rfl⟩
      have hk : k = 0 := by have := c17_304; rw [own_lt, hj, hyl] at this; omega
      subst hk
      have : own_sw xs ys s0 e0 = true := by rw [own_sw, hR0, ← hR]; simp [own_all, hfit]
      rw [this]; rfl
   exact hL301 ys.length T0  (0) (0) Y0  rfl (by omega) hR0
theorem own_pd0 : parseMethodDescriptor "([BII[B)Z" = some ⟨[(.array .byte), .int, .int, (.array .byte)], some .boolean⟩ := by decide +kernel
theorem own_pd1 : parseMethodDescriptor "([BI[BII)Z" = some ⟨[(.array .byte), .int, (.array .byte), .int, .int], some .boolean⟩ := by decide +kernel
theorem own_pd2 : parseMethodDescriptor "(JI)[B" = some ⟨[.long, .int], some (.array .byte)⟩ := by decide +kernel
theorem own_ef_own_rm0 (m : MethodId) (x0 : Int64) (x1 : Int32) (x2 : Int32) (x3 : Int64) (x4 : Int32) (x5 : Int32) : entryFrame m #[(.long x0), (.int x1), (.int x2), (.long x3), (.int x4), (.int x5)] maxLocals = mkF m 0 #[.val (.long x0), .second, .val (.int x1), .val (.int x2), .val (.long x3), .second, .val (.int x4), .val (.int x5), .unset, .unset, .unset, .unset, .unset, .unset] [] := by first | (simp [entryFrame, mkF, argsToLocals, Value.category, maxLocals]; done) | rfl
def own_Q_own_rm0 (Z : State) (x0 : Int64) (x1 : Int32) (x2 : Int32) (x3 : Int64) (x4 : Int32) (x5 : Int32) (h0 : Heap) (n0 : Nat) (v : Option Value) (h : Heap) : Prop := v = some (.int 1)
set_option maxRecDepth 65536 in
set_option maxHeartbeats 40000000 in
theorem own_rm0 (l : Launch) (Z : State) (a0 : Array Value) (hw : ∀ d ∈ tables_1, d.before a0 Z = true) (ws : List Jvm.Cond) (x0 : Int64) (x1 : Int32) (x2 : Int32) (x3 : Int64) (x4 : Int32) (x5 : Int32)  (h0 : Heap) (n0 : Nat) (Z0 : n0 ≤ h0.size)  :
    own_Con l Z x code maxLocals ret ws room_1 #[(.long x0), (.int x1), (.int x2), (.long x3), (.int x4), (.int x5)] h0 n0 (own_Q_own_rm0 Z x0 x1 x2 x3 x4 x5 h0 n0) := by
  refine own_body (plainFor_of_name own_pn0) ?_
  intro p e s m below meth c T0 hx hZ hby hml hown hnm hret hlk Y0
  replace hown : s.vm.findClass "com/example/tagwire/tagwire/wire/BytesStartsWithPinLaw" = some m.cls := hown
  replace hml : c.maxLocals = 14 := hml
  replace hret : meth.sig.returnType = some .boolean := hret
  rw [own_ef_own_rm0 m x0 x1 x2 x3 x4 x5]
  show own_Ends _ _ _ _ (T0.setTop (mkF m 0 #[.val (.long x0), .second, .val (.int x1), .val (.int x2), .val (.long x3), .second, .val (.int x4), .val (.int x5), .unset, .unset, .unset, .unset, .unset, .unset] []))
  refine own_st (fun t_ => XS.bipush (own_here Y0) hx rfl (hb hby at_0) ) ?_
  show own_Ends _ _ _ _ (T0.setTop (mkF m 2 #[.val (.long x0), .second, .val (.int x1), .val (.int x2), .val (.long x3), .second, .val (.int x4), .val (.int x5), .unset, .unset, .unset, .unset, .unset, .unset] [(.int (8 : Int32))]))
  refine own_newP Y0 hx hZ (hw _ (List.mem_of_getElem? (i := 0) rfl)) rfl (hb hby at_2) rfl (by decide) (nz := 8) (cap := 8) (by decide) (by decide) (by decide) (by decide) (by decide) (ty := .byte) rfl (fun T306 h308 b311 eb312 Y307 E309 A310 => ?_)
  have g313 : n0 ≤ b311 := by rw [eb312]; exact Z0
  replace A310 : own_A Z h308 b311 .byte [(.int (0 : Int32)), (.int (0 : Int32)), (.int (0 : Int32)), (.int (0 : Int32)), (.int (0 : Int32)), (.int (0 : Int32)), (.int (0 : Int32)), (.int (0 : Int32))] := A310
  show own_Ends _ _ _ _ (T306.setTop (mkF m 4 #[.val (.long x0), .second, .val (.int x1), .val (.int x2), .val (.long x3), .second, .val (.int x4), .val (.int x5), .unset, .unset, .unset, .unset, .unset, .unset] [(.ref b311)]))
  refine own_st (fun t_ => XS.astore (own_here Y307) hx rfl (hb hby at_4) rfl rfl (l' := #[.val (.long x0), .second, .val (.int x1), .val (.int x2), .val (.long x3), .second, .val (.int x4), .val (.int x5), .val (.ref b311), .unset, .unset, .unset, .unset, .unset]) rfl) ?_
  show own_Ends _ _ _ _ (T306.setTop (mkF m 6 #[.val (.long x0), .second, .val (.int x1), .val (.int x2), .val (.long x3), .second, .val (.int x4), .val (.int x5), .val (.ref b311), .unset, .unset, .unset, .unset, .unset] []))
  refine own_st (fun t_ => XS.aload (own_here Y307) hx rfl (hb hby at_6) rfl rfl) ?_
  show own_Ends _ _ _ _ (T306.setTop (mkF m 8 #[.val (.long x0), .second, .val (.int x1), .val (.int x2), .val (.long x3), .second, .val (.int x4), .val (.int x5), .val (.ref b311), .unset, .unset, .unset, .unset, .unset] [(.ref b311)]))
  refine own_st (fun t_ => XS.iconst (own_here Y307) hx rfl (hb hby at_8) ) ?_
  show own_Ends _ _ _ _ (T306.setTop (mkF m 9 #[.val (.long x0), .second, .val (.int x1), .val (.int x2), .val (.long x3), .second, .val (.int x4), .val (.int x5), .val (.ref b311), .unset, .unset, .unset, .unset, .unset] [(.int (0 : Int32)), (.ref b311)]))
  refine own_st (fun t_ => XS.lloadN (own_here Y307) hx rfl (hb hby at_9) rfl) ?_
  show own_Ends _ _ _ _ (T306.setTop (mkF m 10 #[.val (.long x0), .second, .val (.int x1), .val (.int x2), .val (.long x3), .second, .val (.int x4), .val (.int x5), .val (.ref b311), .unset, .unset, .unset, .unset, .unset] [(.long x0), (.int (0 : Int32)), (.ref b311)]))
  refine own_st (fun t_ => XS.l2i (own_here Y307) hx rfl (hb hby at_10) rfl) ?_
  show own_Ends _ _ _ _ (T306.setTop (mkF m 11 #[.val (.long x0), .second, .val (.int x1), .val (.int x2), .val (.long x3), .second, .val (.int x4), .val (.int x5), .val (.ref b311), .unset, .unset, .unset, .unset, .unset] [(.int (x0.toInt32)), (.int (0 : Int32)), (.ref b311)]))
  refine own_st (fun t_ => XS.i2b (own_here Y307) hx rfl (hb hby at_11) rfl) ?_
  show own_Ends _ _ _ _ (T306.setTop (mkF m 12 #[.val (.long x0), .second, .val (.int x1), .val (.int x2), .val (.long x3), .second, .val (.int x4), .val (.int x5), .val (.ref b311), .unset, .unset, .unset, .unset, .unset] [(.int ((x0.toInt32).toInt8.toInt32)), (.int (0 : Int32)), (.ref b311)]))
  refine own_stB Y307 hx hZ A310 g313 (i := 0) (by decide) (by decide) (Nat.le_of_ble_eq_true rfl) rfl rfl (hb hby at_12) (fun T314 h316 Y315 W317 A318 => ?_)
  replace A318 : own_A Z h316 b311 .byte [(.int (((x0.toInt32).toInt8.toInt32).toInt8.toInt32)), (.int (0 : Int32)), (.int (0 : Int32)), (.int (0 : Int32)), (.int (0 : Int32)), (.int (0 : Int32)), (.int (0 : Int32)), (.int (0 : Int32))] := A318
  show own_Ends _ _ _ _ (T314.setTop (mkF m 13 #[.val (.long x0), .second, .val (.int x1), .val (.int x2), .val (.long x3), .second, .val (.int x4), .val (.int x5), .val (.ref b311), .unset, .unset, .unset, .unset, .unset] []))
  refine own_st (fun t_ => XS.aload (own_here Y315) hx rfl (hb hby at_13) rfl rfl) ?_
  show own_Ends _ _ _ _ (T314.setTop (mkF m 15 #[.val (.long x0), .second, .val (.int x1), .val (.int x2), .val (.long x3), .second, .val (.int x4), .val (.int x5), .val (.ref b311), .unset, .unset, .unset, .unset, .unset] [(.ref b311)]))
  refine own_st (fun t_ => XS.iconst (own_here Y315) hx rfl (hb hby at_15) ) ?_
  show own_Ends _ _ _ _ (T314.setTop (mkF m 16 #[.val (.long x0), .second, .val (.int x1), .val (.int x2), .val (.long x3), .second, .val (.int x4), .val (.int x5), .val (.ref b311), .unset, .unset, .unset, .unset, .unset] [(.int (1 : Int32)), (.ref b311)]))
  refine own_st (fun t_ => XS.lloadN (own_here Y315) hx rfl (hb hby at_16) rfl) ?_
  show own_Ends _ _ _ _ (T314.setTop (mkF m 17 #[.val (.long x0), .second, .val (.int x1), .val (.int x2), .val (.long x3), .second, .val (.int x4), .val (.int x5), .val (.ref b311), .unset, .unset, .unset, .unset, .unset] [(.long x0), (.int (1 : Int32)), (.ref b311)]))
  refine own_st (fun t_ => XS.bipush (own_here Y315) hx rfl (hb hby at_17) ) ?_
  show own_Ends _ _ _ _ (T314.setTop (mkF m 19 #[.val (.long x0), .second, .val (.int x1), .val (.int x2), .val (.long x3), .second, .val (.int x4), .val (.int x5), .val (.ref b311), .unset, .unset, .unset, .unset, .unset] [(.int (8 : Int32)), (.long x0), (.int (1 : Int32)), (.ref b311)]))
  refine own_st (fun t_ => XS.lushr (own_here Y315) hx rfl (hb hby at_19) rfl) ?_
  show own_Ends _ _ _ _ (T314.setTop (mkF m 20 #[.val (.long x0), .second, .val (.int x1), .val (.int x2), .val (.long x3), .second, .val (.int x4), .val (.int x5), .val (.ref b311), .unset, .unset, .unset, .unset, .unset] [(.long ((x0.toUInt64 >>> ((8 : Int32) &&& 0x3f).toInt64.toUInt64).toInt64)), (.int (1 : Int32)), (.ref b311)]))
  refine own_st (fun t_ => XS.l2i (own_here Y315) hx rfl (hb hby at_20) rfl) ?_
  show own_Ends _ _ _ _ (T314.setTop (mkF m 21 #[.val (.long x0), .second, .val (.int x1), .val (.int x2), .val (.long x3), .second, .val (.int x4), .val (.int x5), .val (.ref b311), .unset, .unset, .unset, .unset, .unset] [(.int (((x0.toUInt64 >>> ((8 : Int32) &&& 0x3f).toInt64.toUInt64).toInt64).toInt32)), (.int (1 : Int32)), (.ref b311)]))
  refine own_st (fun t_ => XS.i2b (own_here Y315) hx rfl (hb hby at_21) rfl) ?_
  show own_Ends _ _ _ _ (T314.setTop (mkF m 22 #[.val (.long x0), .second, .val (.int x1), .val (.int x2), .val (.long x3), .second, .val (.int x4), .val (.int x5), .val (.ref b311), .unset, .unset, .unset, .unset, .unset] [(.int ((((x0.toUInt64 >>> ((8 : Int32) &&& 0x3f).toInt64.toUInt64).toInt64).toInt32).toInt8.toInt32)), (.int (1 : Int32)), (.ref b311)]))
  refine own_stB Y315 hx hZ A318 g313 (i := 1) (by decide) (by decide) (Nat.le_of_ble_eq_true rfl) rfl rfl (hb hby at_22) (fun T319 h321 Y320 W322 A323 => ?_)
  replace A323 : own_A Z h321 b311 .byte [(.int (((x0.toInt32).toInt8.toInt32).toInt8.toInt32)), (.int (((((x0.toUInt64 >>> ((8 : Int32) &&& 0x3f).toInt64.toUInt64).toInt64).toInt32).toInt8.toInt32).toInt8.toInt32)), (.int (0 : Int32)), (.int (0 : Int32)), (.int (0 : Int32)), (.int (0 : Int32)), (.int (0 : Int32)), (.int (0 : Int32))] := A323
  show own_Ends _ _ _ _ (T319.setTop (mkF m 23 #[.val (.long x0), .second, .val (.int x1), .val (.int x2), .val (.long x3), .second, .val (.int x4), .val (.int x5), .val (.ref b311), .unset, .unset, .unset, .unset, .unset] []))
  refine own_st (fun t_ => XS.aload (own_here Y320) hx rfl (hb hby at_23) rfl rfl) ?_
  show own_Ends _ _ _ _ (T319.setTop (mkF m 25 #[.val (.long x0), .second, .val (.int x1), .val (.int x2), .val (.long x3), .second, .val (.int x4), .val (.int x5), .val (.ref b311), .unset, .unset, .unset, .unset, .unset] [(.ref b311)]))
  refine own_st (fun t_ => XS.iconst (own_here Y320) hx rfl (hb hby at_25) ) ?_
  show own_Ends _ _ _ _ (T319.setTop (mkF m 26 #[.val (.long x0), .second, .val (.int x1), .val (.int x2), .val (.long x3), .second, .val (.int x4), .val (.int x5), .val (.ref b311), .unset, .unset, .unset, .unset, .unset] [(.int (2 : Int32)), (.ref b311)]))
  refine own_st (fun t_ => XS.lloadN (own_here Y320) hx rfl (hb hby at_26) rfl) ?_
  show own_Ends _ _ _ _ (T319.setTop (mkF m 27 #[.val (.long x0), .second, .val (.int x1), .val (.int x2), .val (.long x3), .second, .val (.int x4), .val (.int x5), .val (.ref b311), .unset, .unset, .unset, .unset, .unset] [(.long x0), (.int (2 : Int32)), (.ref b311)]))
  refine own_st (fun t_ => XS.bipush (own_here Y320) hx rfl (hb hby at_27) ) ?_
  show own_Ends _ _ _ _ (T319.setTop (mkF m 29 #[.val (.long x0), .second, .val (.int x1), .val (.int x2), .val (.long x3), .second, .val (.int x4), .val (.int x5), .val (.ref b311), .unset, .unset, .unset, .unset, .unset] [(.int (16 : Int32)), (.long x0), (.int (2 : Int32)), (.ref b311)]))
  refine own_st (fun t_ => XS.lushr (own_here Y320) hx rfl (hb hby at_29) rfl) ?_
  show own_Ends _ _ _ _ (T319.setTop (mkF m 30 #[.val (.long x0), .second, .val (.int x1), .val (.int x2), .val (.long x3), .second, .val (.int x4), .val (.int x5), .val (.ref b311), .unset, .unset, .unset, .unset, .unset] [(.long ((x0.toUInt64 >>> ((16 : Int32) &&& 0x3f).toInt64.toUInt64).toInt64)), (.int (2 : Int32)), (.ref b311)]))
  refine own_st (fun t_ => XS.l2i (own_here Y320) hx rfl (hb hby at_30) rfl) ?_
  show own_Ends _ _ _ _ (T319.setTop (mkF m 31 #[.val (.long x0), .second, .val (.int x1), .val (.int x2), .val (.long x3), .second, .val (.int x4), .val (.int x5), .val (.ref b311), .unset, .unset, .unset, .unset, .unset] [(.int (((x0.toUInt64 >>> ((16 : Int32) &&& 0x3f).toInt64.toUInt64).toInt64).toInt32)), (.int (2 : Int32)), (.ref b311)]))
  refine own_st (fun t_ => XS.i2b (own_here Y320) hx rfl (hb hby at_31) rfl) ?_
  show own_Ends _ _ _ _ (T319.setTop (mkF m 32 #[.val (.long x0), .second, .val (.int x1), .val (.int x2), .val (.long x3), .second, .val (.int x4), .val (.int x5), .val (.ref b311), .unset, .unset, .unset, .unset, .unset] [(.int ((((x0.toUInt64 >>> ((16 : Int32) &&& 0x3f).toInt64.toUInt64).toInt64).toInt32).toInt8.toInt32)), (.int (2 : Int32)), (.ref b311)]))
  refine own_stB Y320 hx hZ A323 g313 (i := 2) (by decide) (by decide) (Nat.le_of_ble_eq_true rfl) rfl rfl (hb hby at_32) (fun T324 h326 Y325 W327 A328 => ?_)
  replace A328 : own_A Z h326 b311 .byte [(.int (((x0.toInt32).toInt8.toInt32).toInt8.toInt32)), (.int (((((x0.toUInt64 >>> ((8 : Int32) &&& 0x3f).toInt64.toUInt64).toInt64).toInt32).toInt8.toInt32).toInt8.toInt32)), (.int (((((x0.toUInt64 >>> ((16 : Int32) &&& 0x3f).toInt64.toUInt64).toInt64).toInt32).toInt8.toInt32).toInt8.toInt32)), (.int (0 : Int32)), (.int (0 : Int32)), (.int (0 : Int32)), (.int (0 : Int32)), (.int (0 : Int32))] := A328
  show own_Ends _ _ _ _ (T324.setTop (mkF m 33 #[.val (.long x0), .second, .val (.int x1), .val (.int x2), .val (.long x3), .second, .val (.int x4), .val (.int x5), .val (.ref b311), .unset, .unset, .unset, .unset, .unset] []))
  refine own_st (fun t_ => XS.aload (own_here Y325) hx rfl (hb hby at_33) rfl rfl) ?_
  show own_Ends _ _ _ _ (T324.setTop (mkF m 35 #[.val (.long x0), .second, .val (.int x1), .val (.int x2), .val (.long x3), .second, .val (.int x4), .val (.int x5), .val (.ref b311), .unset, .unset, .unset, .unset, .unset] [(.ref b311)]))
  refine own_st (fun t_ => XS.iconst (own_here Y325) hx rfl (hb hby at_35) ) ?_
  show own_Ends _ _ _ _ (T324.setTop (mkF m 36 #[.val (.long x0), .second, .val (.int x1), .val (.int x2), .val (.long x3), .second, .val (.int x4), .val (.int x5), .val (.ref b311), .unset, .unset, .unset, .unset, .unset] [(.int (3 : Int32)), (.ref b311)]))
  refine own_st (fun t_ => XS.lloadN (own_here Y325) hx rfl (hb hby at_36) rfl) ?_
  show own_Ends _ _ _ _ (T324.setTop (mkF m 37 #[.val (.long x0), .second, .val (.int x1), .val (.int x2), .val (.long x3), .second, .val (.int x4), .val (.int x5), .val (.ref b311), .unset, .unset, .unset, .unset, .unset] [(.long x0), (.int (3 : Int32)), (.ref b311)]))
  refine own_st (fun t_ => XS.bipush (own_here Y325) hx rfl (hb hby at_37) ) ?_
  show own_Ends _ _ _ _ (T324.setTop (mkF m 39 #[.val (.long x0), .second, .val (.int x1), .val (.int x2), .val (.long x3), .second, .val (.int x4), .val (.int x5), .val (.ref b311), .unset, .unset, .unset, .unset, .unset] [(.int (24 : Int32)), (.long x0), (.int (3 : Int32)), (.ref b311)]))
  refine own_st (fun t_ => XS.lushr (own_here Y325) hx rfl (hb hby at_39) rfl) ?_
  show own_Ends _ _ _ _ (T324.setTop (mkF m 40 #[.val (.long x0), .second, .val (.int x1), .val (.int x2), .val (.long x3), .second, .val (.int x4), .val (.int x5), .val (.ref b311), .unset, .unset, .unset, .unset, .unset] [(.long ((x0.toUInt64 >>> ((24 : Int32) &&& 0x3f).toInt64.toUInt64).toInt64)), (.int (3 : Int32)), (.ref b311)]))
  refine own_st (fun t_ => XS.l2i (own_here Y325) hx rfl (hb hby at_40) rfl) ?_
  show own_Ends _ _ _ _ (T324.setTop (mkF m 41 #[.val (.long x0), .second, .val (.int x1), .val (.int x2), .val (.long x3), .second, .val (.int x4), .val (.int x5), .val (.ref b311), .unset, .unset, .unset, .unset, .unset] [(.int (((x0.toUInt64 >>> ((24 : Int32) &&& 0x3f).toInt64.toUInt64).toInt64).toInt32)), (.int (3 : Int32)), (.ref b311)]))
  refine own_st (fun t_ => XS.i2b (own_here Y325) hx rfl (hb hby at_41) rfl) ?_
  show own_Ends _ _ _ _ (T324.setTop (mkF m 42 #[.val (.long x0), .second, .val (.int x1), .val (.int x2), .val (.long x3), .second, .val (.int x4), .val (.int x5), .val (.ref b311), .unset, .unset, .unset, .unset, .unset] [(.int ((((x0.toUInt64 >>> ((24 : Int32) &&& 0x3f).toInt64.toUInt64).toInt64).toInt32).toInt8.toInt32)), (.int (3 : Int32)), (.ref b311)]))
  refine own_stB Y325 hx hZ A328 g313 (i := 3) (by decide) (by decide) (Nat.le_of_ble_eq_true rfl) rfl rfl (hb hby at_42) (fun T329 h331 Y330 W332 A333 => ?_)
  replace A333 : own_A Z h331 b311 .byte [(.int (((x0.toInt32).toInt8.toInt32).toInt8.toInt32)), (.int (((((x0.toUInt64 >>> ((8 : Int32) &&& 0x3f).toInt64.toUInt64).toInt64).toInt32).toInt8.toInt32).toInt8.toInt32)), (.int (((((x0.toUInt64 >>> ((16 : Int32) &&& 0x3f).toInt64.toUInt64).toInt64).toInt32).toInt8.toInt32).toInt8.toInt32)), (.int (((((x0.toUInt64 >>> ((24 : Int32) &&& 0x3f).toInt64.toUInt64).toInt64).toInt32).toInt8.toInt32).toInt8.toInt32)), (.int (0 : Int32)), (.int (0 : Int32)), (.int (0 : Int32)), (.int (0 : Int32))] := A333
  show own_Ends _ _ _ _ (T329.setTop (mkF m 43 #[.val (.long x0), .second, .val (.int x1), .val (.int x2), .val (.long x3), .second, .val (.int x4), .val (.int x5), .val (.ref b311), .unset, .unset, .unset, .unset, .unset] []))
  refine own_st (fun t_ => XS.aload (own_here Y330) hx rfl (hb hby at_43) rfl rfl) ?_
  show own_Ends _ _ _ _ (T329.setTop (mkF m 45 #[.val (.long x0), .second, .val (.int x1), .val (.int x2), .val (.long x3), .second, .val (.int x4), .val (.int x5), .val (.ref b311), .unset, .unset, .unset, .unset, .unset] [(.ref b311)]))
  refine own_st (fun t_ => XS.iconst (own_here Y330) hx rfl (hb hby at_45) ) ?_
  show own_Ends _ _ _ _ (T329.setTop (mkF m 46 #[.val (.long x0), .second, .val (.int x1), .val (.int x2), .val (.long x3), .second, .val (.int x4), .val (.int x5), .val (.ref b311), .unset, .unset, .unset, .unset, .unset] [(.int (4 : Int32)), (.ref b311)]))
  refine own_st (fun t_ => XS.lloadN (own_here Y330) hx rfl (hb hby at_46) rfl) ?_
  show own_Ends _ _ _ _ (T329.setTop (mkF m 47 #[.val (.long x0), .second, .val (.int x1), .val (.int x2), .val (.long x3), .second, .val (.int x4), .val (.int x5), .val (.ref b311), .unset, .unset, .unset, .unset, .unset] [(.long x0), (.int (4 : Int32)), (.ref b311)]))
  refine own_st (fun t_ => XS.bipush (own_here Y330) hx rfl (hb hby at_47) ) ?_
  show own_Ends _ _ _ _ (T329.setTop (mkF m 49 #[.val (.long x0), .second, .val (.int x1), .val (.int x2), .val (.long x3), .second, .val (.int x4), .val (.int x5), .val (.ref b311), .unset, .unset, .unset, .unset, .unset] [(.int (32 : Int32)), (.long x0), (.int (4 : Int32)), (.ref b311)]))
  refine own_st (fun t_ => XS.lushr (own_here Y330) hx rfl (hb hby at_49) rfl) ?_
  show own_Ends _ _ _ _ (T329.setTop (mkF m 50 #[.val (.long x0), .second, .val (.int x1), .val (.int x2), .val (.long x3), .second, .val (.int x4), .val (.int x5), .val (.ref b311), .unset, .unset, .unset, .unset, .unset] [(.long ((x0.toUInt64 >>> ((32 : Int32) &&& 0x3f).toInt64.toUInt64).toInt64)), (.int (4 : Int32)), (.ref b311)]))
  refine own_st (fun t_ => XS.l2i (own_here Y330) hx rfl (hb hby at_50) rfl) ?_
  show own_Ends _ _ _ _ (T329.setTop (mkF m 51 #[.val (.long x0), .second, .val (.int x1), .val (.int x2), .val (.long x3), .second, .val (.int x4), .val (.int x5), .val (.ref b311), .unset, .unset, .unset, .unset, .unset] [(.int (((x0.toUInt64 >>> ((32 : Int32) &&& 0x3f).toInt64.toUInt64).toInt64).toInt32)), (.int (4 : Int32)), (.ref b311)]))
  refine own_st (fun t_ => XS.i2b (own_here Y330) hx rfl (hb hby at_51) rfl) ?_
  show own_Ends _ _ _ _ (T329.setTop (mkF m 52 #[.val (.long x0), .second, .val (.int x1), .val (.int x2), .val (.long x3), .second, .val (.int x4), .val (.int x5), .val (.ref b311), .unset, .unset, .unset, .unset, .unset] [(.int ((((x0.toUInt64 >>> ((32 : Int32) &&& 0x3f).toInt64.toUInt64).toInt64).toInt32).toInt8.toInt32)), (.int (4 : Int32)), (.ref b311)]))
  refine own_stB Y330 hx hZ A333 g313 (i := 4) (by decide) (by decide) (Nat.le_of_ble_eq_true rfl) rfl rfl (hb hby at_52) (fun T334 h336 Y335 W337 A338 => ?_)
  replace A338 : own_A Z h336 b311 .byte [(.int (((x0.toInt32).toInt8.toInt32).toInt8.toInt32)), (.int (((((x0.toUInt64 >>> ((8 : Int32) &&& 0x3f).toInt64.toUInt64).toInt64).toInt32).toInt8.toInt32).toInt8.toInt32)), (.int (((((x0.toUInt64 >>> ((16 : Int32) &&& 0x3f).toInt64.toUInt64).toInt64).toInt32).toInt8.toInt32).toInt8.toInt32)), (.int (((((x0.toUInt64 >>> ((24 : Int32) &&& 0x3f).toInt64.toUInt64).toInt64).toInt32).toInt8.toInt32).toInt8.toInt32)), (.int (((((x0.toUInt64 >>> ((32 : Int32) &&& 0x3f).toInt64.toUInt64).toInt64).toInt32).toInt8.toInt32).toInt8.toInt32)), (.int (0 : Int32)), (.int (0 : Int32)), (.int (0 : Int32))] := A338
  show own_Ends _ _ _ _ (T334.setTop (mkF m 53 #[.val (.long x0), .second, .val (.int x1), .val (.int x2), .val (.long x3), .second, .val (.int x4), .val (.int x5), .val (.ref b311), .unset, .unset, .unset, .unset, .unset] []))
  refine own_st (fun t_ => XS.aload (own_here Y335) hx rfl (hb hby at_53) rfl rfl) ?_
  show own_Ends _ _ _ _ (T334.setTop (mkF m 55 #[.val (.long x0), .second, .val (.int x1), .val (.int x2), .val (.long x3), .second, .val (.int x4), .val (.int x5), .val (.ref b311), .unset, .unset, .unset, .unset, .unset] [(.ref b311)]))
  refine own_st (fun t_ => XS.iconst (own_here Y335) hx rfl (hb hby at_55) ) ?_
  show own_Ends _ _ _ _ (T334.setTop (mkF m 56 #[.val (.long x0), .second, .val (.int x1), .val (.int x2), .val (.long x3), .second, .val (.int x4), .val (.int x5), .val (.ref b311), .unset, .unset, .unset, .unset, .unset] [(.int (5 : Int32)), (.ref b311)]))
  refine own_st (fun t_ => XS.lloadN (own_here Y335) hx rfl (hb hby at_56) rfl) ?_
  show own_Ends _ _ _ _ (T334.setTop (mkF m 57 #[.val (.long x0), .second, .val (.int x1), .val (.int x2), .val (.long x3), .second, .val (.int x4), .val (.int x5), .val (.ref b311), .unset, .unset, .unset, .unset, .unset] [(.long x0), (.int (5 : Int32)), (.ref b311)]))
  refine own_st (fun t_ => XS.bipush (own_here Y335) hx rfl (hb hby at_57) ) ?_
  show own_Ends _ _ _ _ (T334.setTop (mkF m 59 #[.val (.long x0), .second, .val (.int x1), .val (.int x2), .val (.long x3), .second, .val (.int x4), .val (.int x5), .val (.ref b311), .unset, .unset, .unset, .unset, .unset] [(.int (40 : Int32)), (.long x0), (.int (5 : Int32)), (.ref b311)]))
  refine own_st (fun t_ => XS.lushr (own_here Y335) hx rfl (hb hby at_59) rfl) ?_
  show own_Ends _ _ _ _ (T334.setTop (mkF m 60 #[.val (.long x0), .second, .val (.int x1), .val (.int x2), .val (.long x3), .second, .val (.int x4), .val (.int x5), .val (.ref b311), .unset, .unset, .unset, .unset, .unset] [(.long ((x0.toUInt64 >>> ((40 : Int32) &&& 0x3f).toInt64.toUInt64).toInt64)), (.int (5 : Int32)), (.ref b311)]))
  refine own_st (fun t_ => XS.l2i (own_here Y335) hx rfl (hb hby at_60) rfl) ?_
  show own_Ends _ _ _ _ (T334.setTop (mkF m 61 #[.val (.long x0), .second, .val (.int x1), .val (.int x2), .val (.long x3), .second, .val (.int x4), .val (.int x5), .val (.ref b311), .unset, .unset, .unset, .unset, .unset] [(.int (((x0.toUInt64 >>> ((40 : Int32) &&& 0x3f).toInt64.toUInt64).toInt64).toInt32)), (.int (5 : Int32)), (.ref b311)]))
  refine own_st (fun t_ => XS.i2b (own_here Y335) hx rfl (hb hby at_61) rfl) ?_
  show own_Ends _ _ _ _ (T334.setTop (mkF m 62 #[.val (.long x0), .second, .val (.int x1), .val (.int x2), .val (.long x3), .second, .val (.int x4), .val (.int x5), .val (.ref b311), .unset, .unset, .unset, .unset, .unset] [(.int ((((x0.toUInt64 >>> ((40 : Int32) &&& 0x3f).toInt64.toUInt64).toInt64).toInt32).toInt8.toInt32)), (.int (5 : Int32)), (.ref b311)]))
  refine own_stB Y335 hx hZ A338 g313 (i := 5) (by decide) (by decide) (Nat.le_of_ble_eq_true rfl) rfl rfl (hb hby at_62) (fun T339 h341 Y340 W342 A343 => ?_)
  replace A343 : own_A Z h341 b311 .byte [(.int (((x0.toInt32).toInt8.toInt32).toInt8.toInt32)), (.int (((((x0.toUInt64 >>> ((8 : Int32) &&& 0x3f).toInt64.toUInt64).toInt64).toInt32).toInt8.toInt32).toInt8.toInt32)), (.int (((((x0.toUInt64 >>> ((16 : Int32) &&& 0x3f).toInt64.toUInt64).toInt64).toInt32).toInt8.toInt32).toInt8.toInt32)), (.int (((((x0.toUInt64 >>> ((24 : Int32) &&& 0x3f).toInt64.toUInt64).toInt64).toInt32).toInt8.toInt32).toInt8.toInt32)), (.int (((((x0.toUInt64 >>> ((32 : Int32) &&& 0x3f).toInt64.toUInt64).toInt64).toInt32).toInt8.toInt32).toInt8.toInt32)), (.int (((((x0.toUInt64 >>> ((40 : Int32) &&& 0x3f).toInt64.toUInt64).toInt64).toInt32).toInt8.toInt32).toInt8.toInt32)), (.int (0 : Int32)), (.int (0 : Int32))] := A343
  show own_Ends _ _ _ _ (T339.setTop (mkF m 63 #[.val (.long x0), .second, .val (.int x1), .val (.int x2), .val (.long x3), .second, .val (.int x4), .val (.int x5), .val (.ref b311), .unset, .unset, .unset, .unset, .unset] []))
  refine own_st (fun t_ => XS.aload (own_here Y340) hx rfl (hb hby at_63) rfl rfl) ?_
  show own_Ends _ _ _ _ (T339.setTop (mkF m 65 #[.val (.long x0), .second, .val (.int x1), .val (.int x2), .val (.long x3), .second, .val (.int x4), .val (.int x5), .val (.ref b311), .unset, .unset, .unset, .unset, .unset] [(.ref b311)]))
  refine own_st (fun t_ => XS.bipush (own_here Y340) hx rfl (hb hby at_65) ) ?_
  show own_Ends _ _ _ _ (T339.setTop (mkF m 67 #[.val (.long x0), .second, .val (.int x1), .val (.int x2), .val (.long x3), .second, .val (.int x4), .val (.int x5), .val (.ref b311), .unset, .unset, .unset, .unset, .unset] [(.int (6 : Int32)), (.ref b311)]))
  refine own_st (fun t_ => XS.lloadN (own_here Y340) hx rfl (hb hby at_67) rfl) ?_
  show own_Ends _ _ _ _ (T339.setTop (mkF m 68 #[.val (.long x0), .second, .val (.int x1), .val (.int x2), .val (.long x3), .second, .val (.int x4), .val (.int x5), .val (.ref b311), .unset, .unset, .unset, .unset, .unset] [(.long x0), (.int (6 : Int32)), (.ref b311)]))
  refine own_st (fun t_ => XS.bipush (own_here Y340) hx rfl (hb hby at_68) ) ?_
  show own_Ends _ _ _ _ (T339.setTop (mkF m 70 #[.val (.long x0), .second, .val (.int x1), .val (.int x2), .val (.long x3), .second, .val (.int x4), .val (.int x5), .val (.ref b311), .unset, .unset, .unset, .unset, .unset] [(.int (48 : Int32)), (.long x0), (.int (6 : Int32)), (.ref b311)]))
  refine own_st (fun t_ => XS.lushr (own_here Y340) hx rfl (hb hby at_70) rfl) ?_
  show own_Ends _ _ _ _ (T339.setTop (mkF m 71 #[.val (.long x0), .second, .val (.int x1), .val (.int x2), .val (.long x3), .second, .val (.int x4), .val (.int x5), .val (.ref b311), .unset, .unset, .unset, .unset, .unset] [(.long ((x0.toUInt64 >>> ((48 : Int32) &&& 0x3f).toInt64.toUInt64).toInt64)), (.int (6 : Int32)), (.ref b311)]))
  refine own_st (fun t_ => XS.l2i (own_here Y340) hx rfl (hb hby at_71) rfl) ?_
  show own_Ends _ _ _ _ (T339.setTop (mkF m 72 #[.val (.long x0), .second, .val (.int x1), .val (.int x2), .val (.long x3), .second, .val (.int x4), .val (.int x5), .val (.ref b311), .unset, .unset, .unset, .unset, .unset] [(.int (((x0.toUInt64 >>> ((48 : Int32) &&& 0x3f).toInt64.toUInt64).toInt64).toInt32)), (.int (6 : Int32)), (.ref b311)]))
  refine own_st (fun t_ => XS.i2b (own_here Y340) hx rfl (hb hby at_72) rfl) ?_
  show own_Ends _ _ _ _ (T339.setTop (mkF m 73 #[.val (.long x0), .second, .val (.int x1), .val (.int x2), .val (.long x3), .second, .val (.int x4), .val (.int x5), .val (.ref b311), .unset, .unset, .unset, .unset, .unset] [(.int ((((x0.toUInt64 >>> ((48 : Int32) &&& 0x3f).toInt64.toUInt64).toInt64).toInt32).toInt8.toInt32)), (.int (6 : Int32)), (.ref b311)]))
  refine own_stB Y340 hx hZ A343 g313 (i := 6) (by decide) (by decide) (Nat.le_of_ble_eq_true rfl) rfl rfl (hb hby at_73) (fun T344 h346 Y345 W347 A348 => ?_)
  replace A348 : own_A Z h346 b311 .byte [(.int (((x0.toInt32).toInt8.toInt32).toInt8.toInt32)), (.int (((((x0.toUInt64 >>> ((8 : Int32) &&& 0x3f).toInt64.toUInt64).toInt64).toInt32).toInt8.toInt32).toInt8.toInt32)), (.int (((((x0.toUInt64 >>> ((16 : Int32) &&& 0x3f).toInt64.toUInt64).toInt64).toInt32).toInt8.toInt32).toInt8.toInt32)), (.int (((((x0.toUInt64 >>> ((24 : Int32) &&& 0x3f).toInt64.toUInt64).toInt64).toInt32).toInt8.toInt32).toInt8.toInt32)), (.int (((((x0.toUInt64 >>> ((32 : Int32) &&& 0x3f).toInt64.toUInt64).toInt64).toInt32).toInt8.toInt32).toInt8.toInt32)), (.int (((((x0.toUInt64 >>> ((40 : Int32) &&& 0x3f).toInt64.toUInt64).toInt64).toInt32).toInt8.toInt32).toInt8.toInt32)), (.int (((((x0.toUInt64 >>> ((48 : Int32) &&& 0x3f).toInt64.toUInt64).toInt64).toInt32).toInt8.toInt32).toInt8.toInt32)), (.int (0 : Int32))] := A348
  show own_Ends _ _ _ _ (T344.setTop (mkF m 74 #[.val (.long x0), .second, .val (.int x1), .val (.int x2), .val (.long x3), .second, .val (.int x4), .val (.int x5), .val (.ref b311), .unset, .unset, .unset, .unset, .unset] []))
  refine own_st (fun t_ => XS.aload (own_here Y345) hx rfl (hb hby at_74) rfl rfl) ?_
  show own_Ends _ _ _ _ (T344.setTop (mkF m 76 #[.val (.long x0), .second, .val (.int x1), .val (.int x2), .val (.long x3), .second, .val (.int x4), .val (.int x5), .val (.ref b311), .unset, .unset, .unset, .unset, .unset] [(.ref b311)]))
  refine own_st (fun t_ => XS.bipush (own_here Y345) hx rfl (hb hby at_76) ) ?_
  show own_Ends _ _ _ _ (T344.setTop (mkF m 78 #[.val (.long x0), .second, .val (.int x1), .val (.int x2), .val (.long x3), .second, .val (.int x4), .val (.int x5), .val (.ref b311), .unset, .unset, .unset, .unset, .unset] [(.int (7 : Int32)), (.ref b311)]))
  refine own_st (fun t_ => XS.lloadN (own_here Y345) hx rfl (hb hby at_78) rfl) ?_
  show own_Ends _ _ _ _ (T344.setTop (mkF m 79 #[.val (.long x0), .second, .val (.int x1), .val (.int x2), .val (.long x3), .second, .val (.int x4), .val (.int x5), .val (.ref b311), .unset, .unset, .unset, .unset, .unset] [(.long x0), (.int (7 : Int32)), (.ref b311)]))
  refine own_st (fun t_ => XS.bipush (own_here Y345) hx rfl (hb hby at_79) ) ?_
  show own_Ends _ _ _ _ (T344.setTop (mkF m 81 #[.val (.long x0), .second, .val (.int x1), .val (.int x2), .val (.long x3), .second, .val (.int x4), .val (.int x5), .val (.ref b311), .unset, .unset, .unset, .unset, .unset] [(.int (56 : Int32)), (.long x0), (.int (7 : Int32)), (.ref b311)]))
  refine own_st (fun t_ => XS.lushr (own_here Y345) hx rfl (hb hby at_81) rfl) ?_
  show own_Ends _ _ _ _ (T344.setTop (mkF m 82 #[.val (.long x0), .second, .val (.int x1), .val (.int x2), .val (.long x3), .second, .val (.int x4), .val (.int x5), .val (.ref b311), .unset, .unset, .unset, .unset, .unset] [(.long ((x0.toUInt64 >>> ((56 : Int32) &&& 0x3f).toInt64.toUInt64).toInt64)), (.int (7 : Int32)), (.ref b311)]))
  refine own_st (fun t_ => XS.l2i (own_here Y345) hx rfl (hb hby at_82) rfl) ?_
  show own_Ends _ _ _ _ (T344.setTop (mkF m 83 #[.val (.long x0), .second, .val (.int x1), .val (.int x2), .val (.long x3), .second, .val (.int x4), .val (.int x5), .val (.ref b311), .unset, .unset, .unset, .unset, .unset] [(.int (((x0.toUInt64 >>> ((56 : Int32) &&& 0x3f).toInt64.toUInt64).toInt64).toInt32)), (.int (7 : Int32)), (.ref b311)]))
  refine own_st (fun t_ => XS.i2b (own_here Y345) hx rfl (hb hby at_83) rfl) ?_
  show own_Ends _ _ _ _ (T344.setTop (mkF m 84 #[.val (.long x0), .second, .val (.int x1), .val (.int x2), .val (.long x3), .second, .val (.int x4), .val (.int x5), .val (.ref b311), .unset, .unset, .unset, .unset, .unset] [(.int ((((x0.toUInt64 >>> ((56 : Int32) &&& 0x3f).toInt64.toUInt64).toInt64).toInt32).toInt8.toInt32)), (.int (7 : Int32)), (.ref b311)]))
  refine own_stB Y345 hx hZ A348 g313 (i := 7) (by decide) (by decide) (Nat.le_of_ble_eq_true rfl) rfl rfl (hb hby at_84) (fun T349 h351 Y350 W352 A353 => ?_)
  replace A353 : own_A Z h351 b311 .byte [(.int (((x0.toInt32).toInt8.toInt32).toInt8.toInt32)), (.int (((((x0.toUInt64 >>> ((8 : Int32) &&& 0x3f).toInt64.toUInt64).toInt64).toInt32).toInt8.toInt32).toInt8.toInt32)), (.int (((((x0.toUInt64 >>> ((16 : Int32) &&& 0x3f).toInt64.toUInt64).toInt64).toInt32).toInt8.toInt32).toInt8.toInt32)), (.int (((((x0.toUInt64 >>> ((24 : Int32) &&& 0x3f).toInt64.toUInt64).toInt64).toInt32).toInt8.toInt32).toInt8.toInt32)), (.int (((((x0.toUInt64 >>> ((32 : Int32) &&& 0x3f).toInt64.toUInt64).toInt64).toInt32).toInt8.toInt32).toInt8.toInt32)), (.int (((((x0.toUInt64 >>> ((40 : Int32) &&& 0x3f).toInt64.toUInt64).toInt64).toInt32).toInt8.toInt32).toInt8.toInt32)), (.int (((((x0.toUInt64 >>> ((48 : Int32) &&& 0x3f).toInt64.toUInt64).toInt64).toInt32).toInt8.toInt32).toInt8.toInt32)), (.int (((((x0.toUInt64 >>> ((56 : Int32) &&& 0x3f).toInt64.toUInt64).toInt64).toInt32).toInt8.toInt32).toInt8.toInt32))] := A353
  show own_Ends _ _ _ _ (T349.setTop (mkF m 85 #[.val (.long x0), .second, .val (.int x1), .val (.int x2), .val (.long x3), .second, .val (.int x4), .val (.int x5), .val (.ref b311), .unset, .unset, .unset, .unset, .unset] []))
  refine own_st (fun t_ => XS.iloadN (own_here Y350) hx rfl (hb hby at_85) rfl) ?_
  show own_Ends _ _ _ _ (T349.setTop (mkF m 86 #[.val (.long x0), .second, .val (.int x1), .val (.int x2), .val (.long x3), .second, .val (.int x4), .val (.int x5), .val (.ref b311), .unset, .unset, .unset, .unset, .unset] [(.int x1)]))
  refine own_ldcI Y350 hx hZ hown (hw _ (List.mem_of_getElem? (i := 1) rfl)) rfl (hb hby at_86) ?_
  show own_Ends _ _ _ _ (T349.setTop (mkF m 88 #[.val (.long x0), .second, .val (.int x1), .val (.int x2), .val (.long x3), .second, .val (.int x4), .val (.int x5), .val (.ref b311), .unset, .unset, .unset, .unset, .unset] [(.int (2147483647 : Int32)), (.int x1)]))
  refine own_st (fun t_ => XS.iand (own_here Y350) hx rfl (hb hby at_88) rfl) ?_
  show own_Ends _ _ _ _ (T349.setTop (mkF m 89 #[.val (.long x0), .second, .val (.int x1), .val (.int x2), .val (.long x3), .second, .val (.int x4), .val (.int x5), .val (.ref b311), .unset, .unset, .unset, .unset, .unset] [(.int (x1 &&& (2147483647 : Int32)))]))
  refine own_st (fun t_ => XS.bipush (own_here Y350) hx rfl (hb hby at_89) ) ?_
  show own_Ends _ _ _ _ (T349.setTop (mkF m 91 #[.val (.long x0), .second, .val (.int x1), .val (.int x2), .val (.long x3), .second, .val (.int x4), .val (.int x5), .val (.ref b311), .unset, .unset, .unset, .unset, .unset] [(.int (9 : Int32)), (.int (x1 &&& (2147483647 : Int32)))]))
  refine own_irem Y350 hx rfl (hb hby at_91) rfl (by decide) ?_
  show own_Ends _ _ _ _ (T349.setTop (mkF m 92 #[.val (.long x0), .second, .val (.int x1), .val (.int x2), .val (.long x3), .second, .val (.int x4), .val (.int x5), .val (.ref b311), .unset, .unset, .unset, .unset, .unset] [(.int ((x1 &&& (2147483647 : Int32)) % (9 : Int32)))]))
  refine own_st (fun t_ => XS.istore (own_here Y350) hx rfl (hb hby at_92) rfl (l' := #[.val (.long x0), .second, .val (.int x1), .val (.int x2), .val (.long x3), .second, .val (.int x4), .val (.int x5), .val (.ref b311), .val (.int ((x1 &&& (2147483647 : Int32)) % (9 : Int32))), .unset, .unset, .unset, .unset]) rfl) ?_
  show own_Ends _ _ _ _ (T349.setTop (mkF m 94 #[.val (.long x0), .second, .val (.int x1), .val (.int x2), .val (.long x3), .second, .val (.int x4), .val (.int x5), .val (.ref b311), .val (.int ((x1 &&& (2147483647 : Int32)) % (9 : Int32))), .unset, .unset, .unset, .unset] []))
  generalize ha_ : ((x1 &&& (2147483647 : Int32)) % (9 : Int32)) = a_
  obtain ⟨s0, hs, hs8⟩ : ∃ f : Nat, a_.toInt = (f : Int) ∧ f ≤ 8 := by
    have q := c_mask x1 2147483647 31 (by decide) (by decide)
    have r := (c_irem (x1 &&& 2147483647) 9 9 rfl).1 (by rw [q]; exact Int.emod_nonneg _ (by decide))
    rw [ha_] at r
    refine ⟨a_.toInt.toNat, ?_, ?_⟩ <;> omega
  have hs9 : ((9 : Int32) - a_).toInt = 9 - (s0 : Int) := own_sub (a := 9) rfl hs
  have hnz : ¬ ((9 : Int32) - a_) = 0 := by rw [own_eq, hs9]; show ¬ 9 - (s0 : Int) = 0; omega
  refine own_st (fun t_ => XS.iload (own_here Y350) hx rfl (hb hby at_94) rfl) ?_
  show own_Ends _ _ _ _ (T349.setTop (mkF m 96 #[.val (.long x0), .second, .val (.int x1), .val (.int x2), .val (.long x3), .second, .val (.int x4), .val (.int x5), .val (.ref b311), .val (.int a_), .unset, .unset, .unset, .unset] [(.int a_)]))
  refine own_st (fun t_ => XS.iloadN (own_here Y350) hx rfl (hb hby at_96) rfl) ?_
  show own_Ends _ _ _ _ (T349.setTop (mkF m 97 #[.val (.long x0), .second, .val (.int x1), .val (.int x2), .val (.long x3), .second, .val (.int x4), .val (.int x5), .val (.ref b311), .val (.int a_), .unset, .unset, .unset, .unset] [(.int x2), (.int a_)]))
  refine own_ldcI Y350 hx hZ hown (hw _ (List.mem_of_getElem? (i := 1) rfl)) rfl (hb hby at_97) ?_
  show own_Ends _ _ _ _ (T349.setTop (mkF m 99 #[.val (.long x0), .second, .val (.int x1), .val (.int x2), .val (.long x3), .second, .val (.int x4), .val (.int x5), .val (.ref b311), .val (.int a_), .unset, .unset, .unset, .unset] [(.int (2147483647 : Int32)), (.int x2), (.int a_)]))
  refine own_st (fun t_ => XS.iand (own_here Y350) hx rfl (hb hby at_99) rfl) ?_
  show own_Ends _ _ _ _ (T349.setTop (mkF m 100 #[.val (.long x0), .second, .val (.int x1), .val (.int x2), .val (.long x3), .second, .val (.int x4), .val (.int x5), .val (.ref b311), .val (.int a_), .unset, .unset, .unset, .unset] [(.int (x2 &&& (2147483647 : Int32))), (.int a_)]))
  refine own_st (fun t_ => XS.bipush (own_here Y350) hx rfl (hb hby at_100) ) ?_
  show own_Ends _ _ _ _ (T349.setTop (mkF m 102 #[.val (.long x0), .second, .val (.int x1), .val (.int x2), .val (.long x3), .second, .val (.int x4), .val (.int x5), .val (.ref b311), .val (.int a_), .unset, .unset, .unset, .unset] [(.int (9 : Int32)), (.int (x2 &&& (2147483647 : Int32))), (.int a_)]))
  refine own_st (fun t_ => XS.iload (own_here Y350) hx rfl (hb hby at_102) rfl) ?_
  show own_Ends _ _ _ _ (T349.setTop (mkF m 104 #[.val (.long x0), .second, .val (.int x1), .val (.int x2), .val (.long x3), .second, .val (.int x4), .val (.int x5), .val (.ref b311), .val (.int a_), .unset, .unset, .unset, .unset] [(.int a_), (.int (9 : Int32)), (.int (x2 &&& (2147483647 : Int32))), (.int a_)]))
  refine own_st (fun t_ => XS.isub (own_here Y350) hx rfl (hb hby at_104) rfl) ?_
  show own_Ends _ _ _ _ (T349.setTop (mkF m 105 #[.val (.long x0), .second, .val (.int x1), .val (.int x2), .val (.long x3), .second, .val (.int x4), .val (.int x5), .val (.ref b311), .val (.int a_), .unset, .unset, .unset, .unset] [(.int ((9 : Int32) - a_)), (.int (x2 &&& (2147483647 : Int32))), (.int a_)]))
  refine own_irem Y350 hx rfl (hb hby at_105) rfl hnz ?_
  show own_Ends _ _ _ _ (T349.setTop (mkF m 106 #[.val (.long x0), .second, .val (.int x1), .val (.int x2), .val (.long x3), .second, .val (.int x4), .val (.int x5), .val (.ref b311), .val (.int a_), .unset, .unset, .unset, .unset] [(.int ((x2 &&& (2147483647 : Int32)) % ((9 : Int32) - a_))), (.int a_)]))
  refine own_st (fun t_ => XS.iadd (own_here Y350) hx rfl (hb hby at_106) rfl) ?_
  show own_Ends _ _ _ _ (T349.setTop (mkF m 107 #[.val (.long x0), .second, .val (.int x1), .val (.int x2), .val (.long x3), .second, .val (.int x4), .val (.int x5), .val (.ref b311), .val (.int a_), .unset, .unset, .unset, .unset] [(.int (a_ + ((x2 &&& (2147483647 : Int32)) % ((9 : Int32) - a_))))]))
  refine own_st (fun t_ => XS.istore (own_here Y350) hx rfl (hb hby at_107) rfl (l' := #[.val (.long x0), .second, .val (.int x1), .val (.int x2), .val (.long x3), .second, .val (.int x4), .val (.int x5), .val (.ref b311), .val (.int a_), .val (.int (a_ + ((x2 &&& (2147483647 : Int32)) % ((9 : Int32) - a_)))), .unset, .unset, .unset]) rfl) ?_
  show own_Ends _ _ _ _ (T349.setTop (mkF m 109 #[.val (.long x0), .second, .val (.int x1), .val (.int x2), .val (.long x3), .second, .val (.int x4), .val (.int x5), .val (.ref b311), .val (.int a_), .val (.int (a_ + ((x2 &&& (2147483647 : Int32)) % ((9 : Int32) - a_)))), .unset, .unset, .unset] []))
  generalize hb_ : (a_ + ((x2 &&& (2147483647 : Int32)) % ((9 : Int32) - a_))) = b_
  obtain ⟨e0, he, hse, he8⟩ : ∃ t : Nat, b_.toInt = (t : Int) ∧ s0 ≤ t ∧ t ≤ 8 := by
    have q := c_mask x2 2147483647 31 (by decide) (by decide)
    have q0 : 0 ≤ (x2 &&& 2147483647).toInt := by rw [q]; exact Int.emod_nonneg _ (by decide)
    have r := (c_iremV (x2 &&& 2147483647) (9 - a_)).1 q0 (by omega)
    have s1 := c_iadd a_ ((x2 &&& 2147483647) % (9 - a_))
    rw [hb_] at s1
    have s2 := rng32 b_
    refine ⟨b_.toInt.toNat, ?_, ?_, ?_⟩ <;> omega
  refine own_st (fun t_ => XS.iload (own_here Y350) hx rfl (hb hby at_109) rfl) ?_
  show own_Ends _ _ _ _ (T349.setTop (mkF m 111 #[.val (.long x0), .second, .val (.int x1), .val (.int x2), .val (.long x3), .second, .val (.int x4), .val (.int x5), .val (.ref b311), .val (.int a_), .val (.int b_), .unset, .unset, .unset] [(.int x4)]))
  refine own_ldcI Y350 hx hZ hown (hw _ (List.mem_of_getElem? (i := 1) rfl)) rfl (hb hby at_111) ?_
  show own_Ends _ _ _ _ (T349.setTop (mkF m 113 #[.val (.long x0), .second, .val (.int x1), .val (.int x2), .val (.long x3), .second, .val (.int x4), .val (.int x5), .val (.ref b311), .val (.int a_), .val (.int b_), .unset, .unset, .unset] [(.int (2147483647 : Int32)), (.int x4)]))
  refine own_st (fun t_ => XS.iand (own_here Y350) hx rfl (hb hby at_113) rfl) ?_
  show own_Ends _ _ _ _ (T349.setTop (mkF m 114 #[.val (.long x0), .second, .val (.int x1), .val (.int x2), .val (.long x3), .second, .val (.int x4), .val (.int x5), .val (.ref b311), .val (.int a_), .val (.int b_), .unset, .unset, .unset] [(.int (x4 &&& (2147483647 : Int32)))]))
  refine own_st (fun t_ => XS.bipush (own_here Y350) hx rfl (hb hby at_114) ) ?_
  show own_Ends _ _ _ _ (T349.setTop (mkF m 116 #[.val (.long x0), .second, .val (.int x1), .val (.int x2), .val (.long x3), .second, .val (.int x4), .val (.int x5), .val (.ref b311), .val (.int a_), .val (.int b_), .unset, .unset, .unset] [(.int (9 : Int32)), (.int (x4 &&& (2147483647 : Int32)))]))
  refine own_irem Y350 hx rfl (hb hby at_116) rfl (by decide) ?_
  show own_Ends _ _ _ _ (T349.setTop (mkF m 117 #[.val (.long x0), .second, .val (.int x1), .val (.int x2), .val (.long x3), .second, .val (.int x4), .val (.int x5), .val (.ref b311), .val (.int a_), .val (.int b_), .unset, .unset, .unset] [(.int ((x4 &&& (2147483647 : Int32)) % (9 : Int32)))]))
  refine own_st (fun t_ => XS.istore (own_here Y350) hx rfl (hb hby at_117) rfl (l' := #[.val (.long x0), .second, .val (.int x1), .val (.int x2), .val (.long x3), .second, .val (.int x4), .val (.int x5), .val (.ref b311), .val (.int a_), .val (.int b_), .val (.int ((x4 &&& (2147483647 : Int32)) % (9 : Int32))), .unset, .unset]) rfl) ?_
  show own_Ends _ _ _ _ (T349.setTop (mkF m 119 #[.val (.long x0), .second, .val (.int x1), .val (.int x2), .val (.long x3), .second, .val (.int x4), .val (.int x5), .val (.ref b311), .val (.int a_), .val (.int b_), .val (.int ((x4 &&& (2147483647 : Int32)) % (9 : Int32))), .unset, .unset] []))
  generalize hc_ : ((x4 &&& (2147483647 : Int32)) % (9 : Int32)) = c_
  have hc9 : c_ = 0 ∨ c_ = 1 ∨ c_ = 2 ∨ c_ = 3 ∨ c_ = 4 ∨ c_ = 5 ∨ c_ = 6 ∨ c_ = 7 ∨ c_ = 8 := by
    have q := c_mask x4 2147483647 31 (by decide) (by decide)
    have r := (c_irem (x4 &&& 2147483647) 9 9 rfl).1 (by rw [q]; exact Int.emod_nonneg _ (by decide))
    rw [hc_] at r
    have : c_.toInt = 0 ∨ c_.toInt = 1 ∨ c_.toInt = 2 ∨ c_.toInt = 3 ∨ c_.toInt = 4 ∨ c_.toInt = 5 ∨ c_.toInt = 6 ∨ c_.toInt = 7 ∨ c_.toInt = 8 := by omega
    simp only [own_eq]
    exact this
  have hJ354 : ∀ (T355 : State) (h357 : Heap) (n_ : Int32) (nn : Nat) (rp : Addr) (ys : List Int32) (Y356 : own_S p l e room_1 s m #[(.long x0), (.int x1), (.int x2), (.long x3), (.int x4), (.int x5)] below meth c n0 T355 h357 2 16) (z358 : n0 ≤ h357.size) (f359 : own_A Z h357 b311 .byte [(.int (((x0.toInt32).toInt8.toInt32).toInt8.toInt32)), (.int (((((x0.toUInt64 >>> ((8 : Int32) &&& 0x3f).toInt64.toUInt64).toInt64).toInt32).toInt8.toInt32).toInt8.toInt32)), (.int (((((x0.toUInt64 >>> ((16 : Int32) &&& 0x3f).toInt64.toUInt64).toInt64).toInt32).toInt8.toInt32).toInt8.toInt32)), (.int (((((x0.toUInt64 >>> ((24 : Int32) &&& 0x3f).toInt64.toUInt64).toInt64).toInt32).toInt8.toInt32).toInt8.toInt32)), (.int (((((x0.toUInt64 >>> ((32 : Int32) &&& 0x3f).toInt64.toUInt64).toInt64).toInt32).toInt8.toInt32).toInt8.toInt32)), (.int (((((x0.toUInt64 >>> ((40 : Int32) &&& 0x3f).toInt64.toUInt64).toInt64).toInt32).toInt8.toInt32).toInt8.toInt32)), (.int (((((x0.toUInt64 >>> ((48 : Int32) &&& 0x3f).toInt64.toUInt64).toInt64).toInt32).toInt8.toInt32).toInt8.toInt32)), (.int (((((x0.toUInt64 >>> ((56 : Int32) &&& 0x3f).toInt64.toUInt64).toInt64).toInt32).toInt8.toInt32).toInt8.toInt32))]) (f360 : own_A Z h357 rp .byte (ys.map Value.int)) (hnn : n_.toInt = (nn : Int)) (hn8 : nn ≤ 8) (hyl : ys.length = nn), own_Ends p.tables e below (own_P s n0 (own_Q_own_rm0 Z x0 x1 x2 x3 x4 x5 h0 n0) room_1.cells room_1.slots) (T355.setTop (mkF m 128 #[.val (.long x0), .second, .val (.int x1), .val (.int x2), .val (.long x3), .second, .val (.int x4), .val (.int x5), .val (.ref b311), .val (.int a_), .val (.int b_), .val (.int n_), .val (.ref rp), .unset] [])) := by
   intro T355 h357 n_ nn rp ys Y356 z358 f359 f360 hnn hn8 hyl
   refine own_st (fun t_ => XS.iload (own_here Y356) hx rfl (hb hby at_128) rfl) ?_
   show own_Ends _ _ _ _ (T355.setTop (mkF m 130 #[.val (.long x0), .second, .val (.int x1), .val (.int x2), .val (.long x3), .second, .val (.int x4), .val (.int x5), .val (.ref b311), .val (.int a_), .val (.int b_), .val (.int n_), .val (.ref rp), .unset] [(.int n_)]))
   refine own_st (fun t_ => XS.iload (own_here Y356) hx rfl (hb hby at_130) rfl) ?_
   show own_Ends _ _ _ _ (T355.setTop (mkF m 132 #[.val (.long x0), .second, .val (.int x1), .val (.int x2), .val (.long x3), .second, .val (.int x4), .val (.int x5), .val (.ref b311), .val (.int a_), .val (.int b_), .val (.int n_), .val (.ref rp), .unset] [(.int b_), (.int n_)]))
   refine own_st (fun t_ => XS.iload (own_here Y356) hx rfl (hb hby at_132) rfl) ?_
   show own_Ends _ _ _ _ (T355.setTop (mkF m 134 #[.val (.long x0), .second, .val (.int x1), .val (.int x2), .val (.long x3), .second, .val (.int x4), .val (.int x5), .val (.ref b311), .val (.int a_), .val (.int b_), .val (.int n_), .val (.ref rp), .unset] [(.int a_), (.int b_), (.int n_)]))
   refine own_st (fun t_ => XS.isub (own_here Y356) hx rfl (hb hby at_134) rfl) ?_
   show own_Ends _ _ _ _ (T355.setTop (mkF m 135 #[.val (.long x0), .second, .val (.int x1), .val (.int x2), .val (.long x3), .second, .val (.int x4), .val (.int x5), .val (.ref b311), .val (.int a_), .val (.int b_), .val (.int n_), .val (.ref rp), .unset] [(.int (b_ - a_)), (.int n_)]))
   have hJ361 : ∀ (T362 : State)  (v : Int32) (Y363 : own_S p l e room_1 s m #[(.long x0), (.int x1), (.int x2), (.long x3), (.int x4), (.int x5)] below meth c n0 T362 h357 2 16)  (hv : v = own_b (decide (nn ≤ e0 - s0) && (own_m [(((x0.toInt32).toInt8.toInt32).toInt8.toInt32), (((((x0.toUInt64 >>> ((8 : Int32) &&& 0x3f).toInt64.toUInt64).toInt64).toInt32).toInt8.toInt32).toInt8.toInt32), (((((x0.toUInt64 >>> ((16 : Int32) &&& 0x3f).toInt64.toUInt64).toInt64).toInt32).toInt8.toInt32).toInt8.toInt32), (((((x0.toUInt64 >>> ((24 : Int32) &&& 0x3f).toInt64.toUInt64).toInt64).toInt32).toInt8.toInt32).toInt8.toInt32), (((((x0.toUInt64 >>> ((32 : Int32) &&& 0x3f).toInt64.toUInt64).toInt64).toInt32).toInt8.toInt32).toInt8.toInt32), (((((x0.toUInt64 >>> ((40 : Int32) &&& 0x3f).toInt64.toUInt64).toInt64).toInt32).toInt8.toInt32).toInt8.toInt32), (((((x0.toUInt64 >>> ((48 : Int32) &&& 0x3f).toInt64.toUInt64).toInt64).toInt32).toInt8.toInt32).toInt8.toInt32), (((((x0.toUInt64 >>> ((56 : Int32) &&& 0x3f).toInt64.toUInt64).toInt64).toInt32).toInt8.toInt32).toInt8.toInt32)] ys s0 nn 0 && own_m [(((x0.toInt32).toInt8.toInt32).toInt8.toInt32), (((((x0.toUInt64 >>> ((8 : Int32) &&& 0x3f).toInt64.toUInt64).toInt64).toInt32).toInt8.toInt32).toInt8.toInt32), (((((x0.toUInt64 >>> ((16 : Int32) &&& 0x3f).toInt64.toUInt64).toInt64).toInt32).toInt8.toInt32).toInt8.toInt32), (((((x0.toUInt64 >>> ((24 : Int32) &&& 0x3f).toInt64.toUInt64).toInt64).toInt32).toInt8.toInt32).toInt8.toInt32), (((((x0.toUInt64 >>> ((32 : Int32) &&& 0x3f).toInt64.toUInt64).toInt64).toInt32).toInt8.toInt32).toInt8.toInt32), (((((x0.toUInt64 >>> ((40 : Int32) &&& 0x3f).toInt64.toUInt64).toInt64).toInt32).toInt8.toInt32).toInt8.toInt32), (((((x0.toUInt64 >>> ((48 : Int32) &&& 0x3f).toInt64.toUInt64).toInt64).toInt32).toInt8.toInt32).toInt8.toInt32), (((((x0.toUInt64 >>> ((56 : Int32) &&& 0x3f).toInt64.toUInt64).toInt64).toInt32).toInt8.toInt32).toInt8.toInt32)] ys s0 nn 1 && own_m [(((x0.toInt32).toInt8.toInt32).toInt8.toInt32), (((((x0.toUInt64 >>> ((8 : Int32) &&& 0x3f).toInt64.toUInt64).toInt64).toInt32).toInt8.toInt32).toInt8.toInt32), (((((x0.toUInt64 >>> ((16 : Int32) &&& 0x3f).toInt64.toUInt64).toInt64).toInt32).toInt8.toInt32).toInt8.toInt32), (((((x0.toUInt64 >>> ((24 : Int32) &&& 0x3f).toInt64.toUInt64).toInt64).toInt32).toInt8.toInt32).toInt8.toInt32), (((((x0.toUInt64 >>> ((32 : Int32) &&& 0x3f).toInt64.toUInt64).toInt64).toInt32).toInt8.toInt32).toInt8.toInt32), (((((x0.toUInt64 >>> ((40 : Int32) &&& 0x3f).toInt64.toUInt64).toInt64).toInt32).toInt8.toInt32).toInt8.toInt32), (((((x0.toUInt64 >>> ((48 : Int32) &&& 0x3f).toInt64.toUInt64).toInt64).toInt32).toInt8.toInt32).toInt8.toInt32), (((((x0.toUInt64 >>> ((56 : Int32) &&& 0x3f).toInt64.toUInt64).toInt64).toInt32).toInt8.toInt32).toInt8.toInt32)] ys s0 nn 2 && own_m [(((x0.toInt32).toInt8.toInt32).toInt8.toInt32), (((((x0.toUInt64 >>> ((8 : Int32) &&& 0x3f).toInt64.toUInt64).toInt64).toInt32).toInt8.toInt32).toInt8.toInt32), (((((x0.toUInt64 >>> ((16 : Int32) &&& 0x3f).toInt64.toUInt64).toInt64).toInt32).toInt8.toInt32).toInt8.toInt32), (((((x0.toUInt64 >>> ((24 : Int32) &&& 0x3f).toInt64.toUInt64).toInt64).toInt32).toInt8.toInt32).toInt8.toInt32), (((((x0.toUInt64 >>> ((32 : Int32) &&& 0x3f).toInt64.toUInt64).toInt64).toInt32).toInt8.toInt32).toInt8.toInt32), (((((x0.toUInt64 >>> ((40 : Int32) &&& 0x3f).toInt64.toUInt64).toInt64).toInt32).toInt8.toInt32).toInt8.toInt32), (((((x0.toUInt64 >>> ((48 : Int32) &&& 0x3f).toInt64.toUInt64).toInt64).toInt32).toInt8.toInt32).toInt8.toInt32), (((((x0.toUInt64 >>> ((56 : Int32) &&& 0x3f).toInt64.toUInt64).toInt64).toInt32).toInt8.toInt32).toInt8.toInt32)] ys s0 nn 3 && own_m [(((x0.toInt32).toInt8.toInt32).toInt8.toInt32), (((((x0.toUInt64 >>> ((8 : Int32) &&& 0x3f).toInt64.toUInt64).toInt64).toInt32).toInt8.toInt32).toInt8.toInt32), (((((x0.toUInt64 >>> ((16 : Int32) &&& 0x3f).toInt64.toUInt64).toInt64).toInt32).toInt8.toInt32).toInt8.toInt32), (((((x0.toUInt64 >>> ((24 : Int32) &&& 0x3f).toInt64.toUInt64).toInt64).toInt32).toInt8.toInt32).toInt8.toInt32), (((((x0.toUInt64 >>> ((32 : Int32) &&& 0x3f).toInt64.toUInt64).toInt64).toInt32).toInt8.toInt32).toInt8.toInt32), (((((x0.toUInt64 >>> ((40 : Int32) &&& 0x3f).toInt64.toUInt64).toInt64).toInt32).toInt8.toInt32).toInt8.toInt32), (((((x0.toUInt64 >>> ((48 : Int32) &&& 0x3f).toInt64.toUInt64).toInt64).toInt32).toInt8.toInt32).toInt8.toInt32), (((((x0.toUInt64 >>> ((56 : Int32) &&& 0x3f).toInt64.toUInt64).toInt64).toInt32).toInt8.toInt32).toInt8.toInt32)] ys s0 nn 4 && own_m [(((x0.toInt32).toInt8.toInt32).toInt8.toInt32), (((((x0.toUInt64 >>> ((8 : Int32) &&& 0x3f).toInt64.toUInt64).toInt64).toInt32).toInt8.toInt32).toInt8.toInt32), (((((x0.toUInt64 >>> ((16 : Int32) &&& 0x3f).toInt64.toUInt64).toInt64).toInt32).toInt8.toInt32).toInt8.toInt32), (((((x0.toUInt64 >>> ((24 : Int32) &&& 0x3f).toInt64.toUInt64).toInt64).toInt32).toInt8.toInt32).toInt8.toInt32), (((((x0.toUInt64 >>> ((32 : Int32) &&& 0x3f).toInt64.toUInt64).toInt64).toInt32).toInt8.toInt32).toInt8.toInt32), (((((x0.toUInt64 >>> ((40 : Int32) &&& 0x3f).toInt64.toUInt64).toInt64).toInt32).toInt8.toInt32).toInt8.toInt32), (((((x0.toUInt64 >>> ((48 : Int32) &&& 0x3f).toInt64.toUInt64).toInt64).toInt32).toInt8.toInt32).toInt8.toInt32), (((((x0.toUInt64 >>> ((56 : Int32) &&& 0x3f).toInt64.toUInt64).toInt64).toInt32).toInt8.toInt32).toInt8.toInt32)] ys s0 nn 5 && own_m [(((x0.toInt32).toInt8.toInt32).toInt8.toInt32), (((((x0.toUInt64 >>> ((8 : Int32) &&& 0x3f).toInt64.toUInt64).toInt64).toInt32).toInt8.toInt32).toInt8.toInt32), (((((x0.toUInt64 >>> ((16 : Int32) &&& 0x3f).toInt64.toUInt64).toInt64).toInt32).toInt8.toInt32).toInt8.toInt32), (((((x0.toUInt64 >>> ((24 : Int32) &&& 0x3f).toInt64.toUInt64).toInt64).toInt32).toInt8.toInt32).toInt8.toInt32), (((((x0.toUInt64 >>> ((32 : Int32) &&& 0x3f).toInt64.toUInt64).toInt64).toInt32).toInt8.toInt32).toInt8.toInt32), (((((x0.toUInt64 >>> ((40 : Int32) &&& 0x3f).toInt64.toUInt64).toInt64).toInt32).toInt8.toInt32).toInt8.toInt32), (((((x0.toUInt64 >>> ((48 : Int32) &&& 0x3f).toInt64.toUInt64).toInt64).toInt32).toInt8.toInt32).toInt8.toInt32), (((((x0.toUInt64 >>> ((56 : Int32) &&& 0x3f).toInt64.toUInt64).toInt64).toInt32).toInt8.toInt32).toInt8.toInt32)] ys s0 nn 6 && own_m [(((x0.toInt32).toInt8.toInt32).toInt8.toInt32), (((((x0.toUInt64 >>> ((8 : Int32) &&& 0x3f).toInt64.toUInt64).toInt64).toInt32).toInt8.toInt32).toInt8.toInt32), (((((x0.toUInt64 >>> ((16 : Int32) &&& 0x3f).toInt64.toUInt64).toInt64).toInt32).toInt8.toInt32).toInt8.toInt32), (((((x0.toUInt64 >>> ((24 : Int32) &&& 0x3f).toInt64.toUInt64).toInt64).toInt32).toInt8.toInt32).toInt8.toInt32), (((((x0.toUInt64 >>> ((32 : Int32) &&& 0x3f).toInt64.toUInt64).toInt64).toInt32).toInt8.toInt32).toInt8.toInt32), (((((x0.toUInt64 >>> ((40 : Int32) &&& 0x3f).toInt64.toUInt64).toInt64).toInt32).toInt8.toInt32).toInt8.toInt32), (((((x0.toUInt64 >>> ((48 : Int32) &&& 0x3f).toInt64.toUInt64).toInt64).toInt32).toInt8.toInt32).toInt8.toInt32), (((((x0.toUInt64 >>> ((56 : Int32) &&& 0x3f).toInt64.toUInt64).toInt64).toInt32).toInt8.toInt32).toInt8.toInt32)] ys s0 nn 7))), own_Ends p.tables e below (own_P s n0 (own_Q_own_rm0 Z x0 x1 x2 x3 x4 x5 h0 n0) room_1.cells room_1.slots) (T362.setTop (mkF m 265 #[.val (.long x0), .second, .val (.int x1), .val (.int x2), .val (.long x3), .second, .val (.int x4), .val (.int x5), .val (.ref b311), .val (.int a_), .val (.int b_), .val (.int n_), .val (.ref rp), .unset] [(.int v)])) := by
    intro T362  v Y363  hv
    refine own_st (fun t_ => XS.istore (own_here Y363) hx rfl (hb hby at_265) rfl (l' := #[.val (.long x0), .second, .val (.int x1), .val (.int x2), .val (.long x3), .second, .val (.int x4), .val (.int x5), .val (.ref b311), .val (.int a_), .val (.int b_), .val (.int n_), .val (.ref rp), .val (.int v)]) rfl) ?_
    show own_Ends _ _ _ _ (T362.setTop (mkF m 267 #[.val (.long x0), .second, .val (.int x1), .val (.int x2), .val (.long x3), .second, .val (.int x4), .val (.int x5), .val (.ref b311), .val (.int a_), .val (.int b_), .val (.int n_), .val (.ref rp), .val (.int v)] []))
    refine own_st (fun t_ => XS.aload (own_here Y363) hx rfl (hb hby at_267) rfl rfl) ?_
    show own_Ends _ _ _ _ (T362.setTop (mkF m 269 #[.val (.long x0), .second, .val (.int x1), .val (.int x2), .val (.long x3), .second, .val (.int x4), .val (.int x5), .val (.ref b311), .val (.int a_), .val (.int b_), .val (.int n_), .val (.ref rp), .val (.int v)] [(.ref b311)]))
    refine own_st (fun t_ => XS.iload (own_here Y363) hx rfl (hb hby at_269) rfl) ?_
    show own_Ends _ _ _ _ (T362.setTop (mkF m 271 #[.val (.long x0), .second, .val (.int x1), .val (.int x2), .val (.long x3), .second, .val (.int x4), .val (.int x5), .val (.ref b311), .val (.int a_), .val (.int b_), .val (.int n_), .val (.ref rp), .val (.int v)] [(.int a_), (.ref b311)]))
    refine own_st (fun t_ => XS.iload (own_here Y363) hx rfl (hb hby at_271) rfl) ?_
    show own_Ends _ _ _ _ (T362.setTop (mkF m 273 #[.val (.long x0), .second, .val (.int x1), .val (.int x2), .val (.long x3), .second, .val (.int x4), .val (.int x5), .val (.ref b311), .val (.int a_), .val (.int b_), .val (.int n_), .val (.ref rp), .val (.int v)] [(.int b_), (.int a_), (.ref b311)]))
    refine own_st (fun t_ => XS.aload (own_here Y363) hx rfl (hb hby at_273) rfl rfl) ?_
    show own_Ends _ _ _ _ (T362.setTop (mkF m 275 #[.val (.long x0), .second, .val (.int x1), .val (.int x2), .val (.long x3), .second, .val (.int x4), .val (.int x5), .val (.ref b311), .val (.int a_), .val (.int b_), .val (.int n_), .val (.ref rp), .val (.int v)] [(.ref rp), (.int b_), (.int a_), (.ref b311)]))
    refine own_callS Y363 hx hZ (y := (⟨"com/example/tagwire/tagwire/wire/Bytes", "startsWith", "([BII[B)Z"⟩ : MethodName)) hown (hw _ (List.mem_of_getElem? (i := 6) rfl)) (hw _ (List.mem_of_getElem? (i := 7) rfl)) (hw _ (List.mem_of_getElem? (i := 8) rfl)) (hw _ (List.mem_of_getElem? (i := 9) rfl)) (by decide) (argsL := [(.ref b311), (.int a_), (.int b_), (.ref rp)]) (rest := []) (own_rm2 l Z a0 hw [] b311 a_ b_ rp [(((x0.toInt32).toInt8.toInt32).toInt8.toInt32), (((((x0.toUInt64 >>> ((8 : Int32) &&& 0x3f).toInt64.toUInt64).toInt64).toInt32).toInt8.toInt32).toInt8.toInt32), (((((x0.toUInt64 >>> ((16 : Int32) &&& 0x3f).toInt64.toUInt64).toInt64).toInt32).toInt8.toInt32).toInt8.toInt32), (((((x0.toUInt64 >>> ((24 : Int32) &&& 0x3f).toInt64.toUInt64).toInt64).toInt32).toInt8.toInt32).toInt8.toInt32), (((((x0.toUInt64 >>> ((32 : Int32) &&& 0x3f).toInt64.toUInt64).toInt64).toInt32).toInt8.toInt32).toInt8.toInt32), (((((x0.toUInt64 >>> ((40 : Int32) &&& 0x3f).toInt64.toUInt64).toInt64).toInt32).toInt8.toInt32).toInt8.toInt32), (((((x0.toUInt64 >>> ((48 : Int32) &&& 0x3f).toInt64.toUInt64).toInt64).toInt32).toInt8.toInt32).toInt8.toInt32), (((((x0.toUInt64 >>> ((56 : Int32) &&& 0x3f).toInt64.toUInt64).toInt64).toInt32).toInt8.toInt32).toInt8.toInt32)] ys s0 e0 n_ h357 n0  f359 f360 hs he hse (by have : [(((x0.toInt32).toInt8.toInt32).toInt8.toInt32), (((((x0.toUInt64 >>> ((8 : Int32) &&& 0x3f).toInt64.toUInt64).toInt64).toInt32).toInt8.toInt32).toInt8.toInt32), (((((x0.toUInt64 >>> ((16 : Int32) &&& 0x3f).toInt64.toUInt64).toInt64).toInt32).toInt8.toInt32).toInt8.toInt32), (((((x0.toUInt64 >>> ((24 : Int32) &&& 0x3f).toInt64.toUInt64).toInt64).toInt32).toInt8.toInt32).toInt8.toInt32), (((((x0.toUInt64 >>> ((32 : Int32) &&& 0x3f).toInt64.toUInt64).toInt64).toInt32).toInt8.toInt32).toInt8.toInt32), (((((x0.toUInt64 >>> ((40 : Int32) &&& 0x3f).toInt64.toUInt64).toInt64).toInt32).toInt8.toInt32).toInt8.toInt32), (((((x0.toUInt64 >>> ((48 : Int32) &&& 0x3f).toInt64.toUInt64).toInt64).toInt32).toInt8.toInt32).toInt8.toInt32), (((((x0.toUInt64 >>> ((56 : Int32) &&& 0x3f).toInt64.toUInt64).toInt64).toInt32).toInt8.toInt32).toInt8.toInt32)].length = 8 := rfl; omega) (by rw [hyl]; exact hnn)) (W := 0) (by decide) (by decide) (by decide) (by decide) rfl (by rw [hml]; rfl) (lenOf own_pd0 rfl) rfl (by show 2 * 0 + _ ≤ _; exact Nat.le_of_eq rfl) (hb hby at_275) (fun T364 h366 v367 Y365 q368 => ?_)
    obtain ⟨rfl, rfl⟩ := q368
    show own_Ends _ _ _ _ (T364.setTop (mkF m 278 #[.val (.long x0), .second, .val (.int x1), .val (.int x2), .val (.long x3), .second, .val (.int x4), .val (.int x5), .val (.ref b311), .val (.int a_), .val (.int b_), .val (.int n_), .val (.ref rp), .val (.int v)] [(.int (own_b (own_sw [(((x0.toInt32).toInt8.toInt32).toInt8.toInt32), (((((x0.toUInt64 >>> ((8 : Int32) &&& 0x3f).toInt64.toUInt64).toInt64).toInt32).toInt8.toInt32).toInt8.toInt32), (((((x0.toUInt64 >>> ((16 : Int32) &&& 0x3f).toInt64.toUInt64).toInt64).toInt32).toInt8.toInt32).toInt8.toInt32), (((((x0.toUInt64 >>> ((24 : Int32) &&& 0x3f).toInt64.toUInt64).toInt64).toInt32).toInt8.toInt32).toInt8.toInt32), (((((x0.toUInt64 >>> ((32 : Int32) &&& 0x3f).toInt64.toUInt64).toInt64).toInt32).toInt8.toInt32).toInt8.toInt32), (((((x0.toUInt64 >>> ((40 : Int32) &&& 0x3f).toInt64.toUInt64).toInt64).toInt32).toInt8.toInt32).toInt8.toInt32), (((((x0.toUInt64 >>> ((48 : Int32) &&& 0x3f).toInt64.toUInt64).toInt64).toInt32).toInt8.toInt32).toInt8.toInt32), (((((x0.toUInt64 >>> ((56 : Int32) &&& 0x3f).toInt64.toUInt64).toInt64).toInt32).toInt8.toInt32).toInt8.toInt32)] ys s0 e0)))]))
    refine own_st (fun t_ => XS.iload (own_here Y365) hx rfl (hb hby at_278) rfl) ?_
    show own_Ends _ _ _ _ (T364.setTop (mkF m 280 #[.val (.long x0), .second, .val (.int x1), .val (.int x2), .val (.long x3), .second, .val (.int x4), .val (.int x5), .val (.ref b311), .val (.int a_), .val (.int b_), .val (.int n_), .val (.ref rp), .val (.int v)] [(.int v), (.int (own_b (own_sw [(((x0.toInt32).toInt8.toInt32).toInt8.toInt32), (((((x0.toUInt64 >>> ((8 : Int32) &&& 0x3f).toInt64.toUInt64).toInt64).toInt32).toInt8.toInt32).toInt8.toInt32), (((((x0.toUInt64 >>> ((16 : Int32) &&& 0x3f).toInt64.toUInt64).toInt64).toInt32).toInt8.toInt32).toInt8.toInt32), (((((x0.toUInt64 >>> ((24 : Int32) &&& 0x3f).toInt64.toUInt64).toInt64).toInt32).toInt8.toInt32).toInt8.toInt32), (((((x0.toUInt64 >>> ((32 : Int32) &&& 0x3f).toInt64.toUInt64).toInt64).toInt32).toInt8.toInt32).toInt8.toInt32), (((((x0.toUInt64 >>> ((40 : Int32) &&& 0x3f).toInt64.toUInt64).toInt64).toInt32).toInt8.toInt32).toInt8.toInt32), (((((x0.toUInt64 >>> ((48 : Int32) &&& 0x3f).toInt64.toUInt64).toInt64).toInt32).toInt8.toInt32).toInt8.toInt32), (((((x0.toUInt64 >>> ((56 : Int32) &&& 0x3f).toInt64.toUInt64).toInt64).toInt32).toInt8.toInt32).toInt8.toInt32)] ys s0 e0)))]))
    refine own_st (fun t_ => XS.icmpNo (own_here Y365) hx rfl (hb hby at_280) rfl (XT.ii_ne_f (by rw [hv, own_law _ _ _ _ _ hyl hn8]))) ?_
    show own_Ends _ _ _ _ (T364.setTop (mkF m 283 #[.val (.long x0), .second, .val (.int x1), .val (.int x2), .val (.long x3), .second, .val (.int x4), .val (.int x5), .val (.ref b311), .val (.int a_), .val (.int b_), .val (.int n_), .val (.ref rp), .val (.int v)] []))
    refine own_st (fun t_ => XS.iconst (own_here Y365) hx rfl (hb hby at_283) ) ?_
    show own_Ends _ _ _ _ (T364.setTop (mkF m 284 #[.val (.long x0), .second, .val (.int x1), .val (.int x2), .val (.long x3), .second, .val (.int x4), .val (.int x5), .val (.ref b311), .val (.int a_), .val (.int b_), .val (.int n_), .val (.ref rp), .val (.int v)] [(.int (1 : Int32))]))
    refine own_st (fun t_ => XS.goto (own_here Y365) hx rfl (pc0 := 284) (pc' := 288) rfl (hb hby at_284) (by decide) (by decide)) ?_
    show own_Ends _ _ _ _ (T364.setTop (mkF m 288 #[.val (.long x0), .second, .val (.int x1), .val (.int x2), .val (.long x3), .second, .val (.int x4), .val (.int x5), .val (.ref b311), .val (.int a_), .val (.int b_), .val (.int n_), .val (.ref rp), .val (.int v)] [(.int (1 : Int32))]))
    refine own_retN Y365 hx hlk (t := .boolean) hret (by simp) (hb hby at_288) (by decide) (by decide) ?_
    exact rfl
   by_cases c135_369 : (b_ - a_) < n_
   ·
    refine own_st (fun t_ => XS.icmpYes (own_here Y356) hx rfl (pc0 := 135) (pc' := 264) rfl (hb hby at_135) rfl (XT.ii_gt_t c135_369) (by decide) (by decide)) ?_
    show own_Ends _ _ _ _ (T355.setTop (mkF m 264 #[.val (.long x0), .second, .val (.int x1), .val (.int x2), .val (.long x3), .second, .val (.int x4), .val (.int x5), .val (.ref b311), .val (.int a_), .val (.int b_), .val (.int n_), .val (.ref rp), .unset] []))
    refine own_st (fun t_ => XS.iconst (own_here Y356) hx rfl (hb hby at_264) ) ?_
    show own_Ends _ _ _ _ (T355.setTop (mkF m 265 #[.val (.long x0), .second, .val (.int x1), .val (.int x2), .val (.long x3), .second, .val (.int x4), .val (.int x5), .val (.ref b311), .val (.int a_), .val (.int b_), .val (.int n_), .val (.ref rp), .unset] [(.int (0 : Int32))]))
    have hd : (decide (nn ≤ e0 - s0)) = false := by have := c135_369; rw [own_lt, own_sub he hs, hnn] at this; simp only [decide_eq_false_iff_not]; omega
    exact hJ361 T355   ((0 : Int32)) Y356  (by rw [hd]; rfl)
   ·
    refine own_st (fun t_ => XS.icmpNo (own_here Y356) hx rfl (hb hby at_135) rfl (XT.ii_gt_f c135_369)) ?_
    show own_Ends _ _ _ _ (T355.setTop (mkF m 138 #[.val (.long x0), .second, .val (.int x1), .val (.int x2), .val (.long x3), .second, .val (.int x4), .val (.int x5), .val (.ref b311), .val (.int a_), .val (.int b_), .val (.int n_), .val (.ref rp), .unset] []))
    have hfit : nn ≤ e0 - s0 := by have := c135_369; rw [own_lt, own_sub he hs, hnn] at this; omega
    refine own_st (fun t_ => XS.aload (own_here Y356) hx rfl (hb hby at_138) rfl rfl) ?_
    show own_Ends _ _ _ _ (T355.setTop (mkF m 140 #[.val (.long x0), .second, .val (.int x1), .val (.int x2), .val (.long x3), .second, .val (.int x4), .val (.int x5), .val (.ref b311), .val (.int a_), .val (.int b_), .val (.int n_), .val (.ref rp), .unset] [(.ref b311)]))
    refine own_st (fun t_ => XS.iload (own_here Y356) hx rfl (hb hby at_140) rfl) ?_
    show own_Ends _ _ _ _ (T355.setTop (mkF m 142 #[.val (.long x0), .second, .val (.int x1), .val (.int x2), .val (.long x3), .second, .val (.int x4), .val (.int x5), .val (.ref b311), .val (.int a_), .val (.int b_), .val (.int n_), .val (.ref rp), .unset] [(.int a_), (.ref b311)]))
    refine own_st (fun t_ => XS.aload (own_here Y356) hx rfl (hb hby at_142) rfl rfl) ?_
    show own_Ends _ _ _ _ (T355.setTop (mkF m 144 #[.val (.long x0), .second, .val (.int x1), .val (.int x2), .val (.long x3), .second, .val (.int x4), .val (.int x5), .val (.ref b311), .val (.int a_), .val (.int b_), .val (.int n_), .val (.ref rp), .unset] [(.ref rp), (.int a_), (.ref b311)]))
    refine own_st (fun t_ => XS.iload (own_here Y356) hx rfl (hb hby at_144) rfl) ?_
    show own_Ends _ _ _ _ (T355.setTop (mkF m 146 #[.val (.long x0), .second, .val (.int x1), .val (.int x2), .val (.long x3), .second, .val (.int x4), .val (.int x5), .val (.ref b311), .val (.int a_), .val (.int b_), .val (.int n_), .val (.ref rp), .unset] [(.int n_), (.ref rp), (.int a_), (.ref b311)]))
    refine own_st (fun t_ => XS.iconst (own_here Y356) hx rfl (hb hby at_146) ) ?_
    show own_Ends _ _ _ _ (T355.setTop (mkF m 147 #[.val (.long x0), .second, .val (.int x1), .val (.int x2), .val (.long x3), .second, .val (.int x4), .val (.int x5), .val (.ref b311), .val (.int a_), .val (.int b_), .val (.int n_), .val (.ref rp), .unset] [(.int (0 : Int32)), (.int n_), (.ref rp), (.int a_), (.ref b311)]))
    refine own_callS Y356 hx hZ (y := (⟨"com/example/tagwire/tagwire/wire/BytesStartsWithPinLaw", "m", "([BI[BII)Z"⟩ : MethodName)) hown (hw _ (List.mem_of_getElem? (i := 10) rfl)) (hw _ (List.mem_of_getElem? (i := 11) rfl)) (hw _ (List.mem_of_getElem? (i := 4) rfl)) (hw _ (List.mem_of_getElem? (i := 12) rfl)) (by decide) (argsL := [(.ref b311), (.int a_), (.ref rp), (.int n_), (.int (0 : Int32))]) (rest := []) (own_rm3 l Z a0 hw [] b311 a_ rp n_ (0 : Int32) [(((x0.toInt32).toInt8.toInt32).toInt8.toInt32), (((((x0.toUInt64 >>> ((8 : Int32) &&& 0x3f).toInt64.toUInt64).toInt64).toInt32).toInt8.toInt32).toInt8.toInt32), (((((x0.toUInt64 >>> ((16 : Int32) &&& 0x3f).toInt64.toUInt64).toInt64).toInt32).toInt8.toInt32).toInt8.toInt32), (((((x0.toUInt64 >>> ((24 : Int32) &&& 0x3f).toInt64.toUInt64).toInt64).toInt32).toInt8.toInt32).toInt8.toInt32), (((((x0.toUInt64 >>> ((32 : Int32) &&& 0x3f).toInt64.toUInt64).toInt64).toInt32).toInt8.toInt32).toInt8.toInt32), (((((x0.toUInt64 >>> ((40 : Int32) &&& 0x3f).toInt64.toUInt64).toInt64).toInt32).toInt8.toInt32).toInt8.toInt32), (((((x0.toUInt64 >>> ((48 : Int32) &&& 0x3f).toInt64.toUInt64).toInt64).toInt32).toInt8.toInt32).toInt8.toInt32), (((((x0.toUInt64 >>> ((56 : Int32) &&& 0x3f).toInt64.toUInt64).toInt64).toInt32).toInt8.toInt32).toInt8.toInt32)] ys s0 nn 0 h357 n0  f359 f360 hs hnn rfl hyl (by have : [(((x0.toInt32).toInt8.toInt32).toInt8.toInt32), (((((x0.toUInt64 >>> ((8 : Int32) &&& 0x3f).toInt64.toUInt64).toInt64).toInt32).toInt8.toInt32).toInt8.toInt32), (((((x0.toUInt64 >>> ((16 : Int32) &&& 0x3f).toInt64.toUInt64).toInt64).toInt32).toInt8.toInt32).toInt8.toInt32), (((((x0.toUInt64 >>> ((24 : Int32) &&& 0x3f).toInt64.toUInt64).toInt64).toInt32).toInt8.toInt32).toInt8.toInt32), (((((x0.toUInt64 >>> ((32 : Int32) &&& 0x3f).toInt64.toUInt64).toInt64).toInt32).toInt8.toInt32).toInt8.toInt32), (((((x0.toUInt64 >>> ((40 : Int32) &&& 0x3f).toInt64.toUInt64).toInt64).toInt32).toInt8.toInt32).toInt8.toInt32), (((((x0.toUInt64 >>> ((48 : Int32) &&& 0x3f).toInt64.toUInt64).toInt64).toInt32).toInt8.toInt32).toInt8.toInt32), (((((x0.toUInt64 >>> ((56 : Int32) &&& 0x3f).toInt64.toUInt64).toInt64).toInt32).toInt8.toInt32).toInt8.toInt32)].length = 8 := rfl; omega) (by omega)) (W := 0) (by decide) (by decide) (by decide) (by decide) rfl (by rw [hml]; rfl) (lenOf own_pd1 rfl) rfl (by show 2 * 0 + _ ≤ _; exact Nat.le_of_eq rfl) (hb hby at_147) (fun T370 h372 v373 Y371 q374 => ?_)
    obtain ⟨rfl, rfl⟩ := q374
    show own_Ends _ _ _ _ (T370.setTop (mkF m 150 #[.val (.long x0), .second, .val (.int x1), .val (.int x2), .val (.long x3), .second, .val (.int x4), .val (.int x5), .val (.ref b311), .val (.int a_), .val (.int b_), .val (.int n_), .val (.ref rp), .unset] [(.int (own_b (own_m [(((x0.toInt32).toInt8.toInt32).toInt8.toInt32), (((((x0.toUInt64 >>> ((8 : Int32) &&& 0x3f).toInt64.toUInt64).toInt64).toInt32).toInt8.toInt32).toInt8.toInt32), (((((x0.toUInt64 >>> ((16 : Int32) &&& 0x3f).toInt64.toUInt64).toInt64).toInt32).toInt8.toInt32).toInt8.toInt32), (((((x0.toUInt64 >>> ((24 : Int32) &&& 0x3f).toInt64.toUInt64).toInt64).toInt32).toInt8.toInt32).toInt8.toInt32), (((((x0.toUInt64 >>> ((32 : Int32) &&& 0x3f).toInt64.toUInt64).toInt64).toInt32).toInt8.toInt32).toInt8.toInt32), (((((x0.toUInt64 >>> ((40 : Int32) &&& 0x3f).toInt64.toUInt64).toInt64).toInt32).toInt8.toInt32).toInt8.toInt32), (((((x0.toUInt64 >>> ((48 : Int32) &&& 0x3f).toInt64.toUInt64).toInt64).toInt32).toInt8.toInt32).toInt8.toInt32), (((((x0.toUInt64 >>> ((56 : Int32) &&& 0x3f).toInt64.toUInt64).toInt64).toInt32).toInt8.toInt32).toInt8.toInt32)] ys s0 nn 0)))]))
    by_cases c150_375 : (own_b (own_m [(((x0.toInt32).toInt8.toInt32).toInt8.toInt32), (((((x0.toUInt64 >>> ((8 : Int32) &&& 0x3f).toInt64.toUInt64).toInt64).toInt32).toInt8.toInt32).toInt8.toInt32), (((((x0.toUInt64 >>> ((16 : Int32) &&& 0x3f).toInt64.toUInt64).toInt64).toInt32).toInt8.toInt32).toInt8.toInt32), (((((x0.toUInt64 >>> ((24 : Int32) &&& 0x3f).toInt64.toUInt64).toInt64).toInt32).toInt8.toInt32).toInt8.toInt32), (((((x0.toUInt64 >>> ((32 : Int32) &&& 0x3f).toInt64.toUInt64).toInt64).toInt32).toInt8.toInt32).toInt8.toInt32), (((((x0.toUInt64 >>> ((40 : Int32) &&& 0x3f).toInt64.toUInt64).toInt64).toInt32).toInt8.toInt32).toInt8.toInt32), (((((x0.toUInt64 >>> ((48 : Int32) &&& 0x3f).toInt64.toUInt64).toInt64).toInt32).toInt8.toInt32).toInt8.toInt32), (((((x0.toUInt64 >>> ((56 : Int32) &&& 0x3f).toInt64.toUInt64).toInt64).toInt32).toInt8.toInt32).toInt8.toInt32)] ys s0 nn 0)) = (0 : Int32)
    ·
     refine own_st (fun t_ => XS.ifYes (own_here Y371) hx rfl (pc0 := 150) (pc' := 264) rfl (hb hby at_150) rfl (XT.i0_eq_t c150_375) (by decide) (by decide)) ?_
     show own_Ends _ _ _ _ (T370.setTop (mkF m 264 #[.val (.long x0), .second, .val (.int x1), .val (.int x2), .val (.long x3), .second, .val (.int x4), .val (.int x5), .val (.ref b311), .val (.int a_), .val (.int b_), .val (.int n_), .val (.ref rp), .unset] []))
     refine own_st (fun t_ => XS.iconst (own_here Y371) hx rfl (hb hby at_264) ) ?_
     show own_Ends _ _ _ _ (T370.setTop (mkF m 265 #[.val (.long x0), .second, .val (.int x1), .val (.int x2), .val (.long x3), .second, .val (.int x4), .val (.int x5), .val (.ref b311), .val (.int a_), .val (.int b_), .val (.int n_), .val (.ref rp), .unset] [(.int (0 : Int32))]))
     have hd : (decide (nn ≤ e0 - s0)) = true := by have := c135_369; rw [own_lt, own_sub he hs, hnn] at this; simp only [decide_eq_true_eq]; omega
     exact hJ361 T370   ((0 : Int32)) Y371  (by rw [hd]; simp [own_b, own_b_0] at c150_375; simp [own_b, c150_375])
    ·
     refine own_st (fun t_ => XS.ifNo (own_here Y371) hx rfl (hb hby at_150) rfl (XT.i0_eq_f c150_375)) ?_
     show own_Ends _ _ _ _ (T370.setTop (mkF m 153 #[.val (.long x0), .second, .val (.int x1), .val (.int x2), .val (.long x3), .second, .val (.int x4), .val (.int x5), .val (.ref b311), .val (.int a_), .val (.int b_), .val (.int n_), .val (.ref rp), .unset] []))
     refine own_st (fun t_ => XS.aload (own_here Y371) hx rfl (hb hby at_153) rfl rfl) ?_
     show own_Ends _ _ _ _ (T370.setTop (mkF m 155 #[.val (.long x0), .second, .val (.int x1), .val (.int x2), .val (.long x3), .second, .val (.int x4), .val (.int x5), .val (.ref b311), .val (.int a_), .val (.int b_), .val (.int n_), .val (.ref rp), .unset] [(.ref b311)]))
     refine own_st (fun t_ => XS.iload (own_here Y371) hx rfl (hb hby at_155) rfl) ?_
     show own_Ends _ _ _ _ (T370.setTop (mkF m 157 #[.val (.long x0), .second, .val (.int x1), .val (.int x2), .val (.long x3), .second, .val (.int x4), .val (.int x5), .val (.ref b311), .val (.int a_), .val (.int b_), .val (.int n_), .val (.ref rp), .unset] [(.int a_), (.ref b311)]))
     refine own_st (fun t_ => XS.aload (own_here Y371) hx rfl (hb hby at_157) rfl rfl) ?_
     show own_Ends _ _ _ _ (T370.setTop (mkF m 159 #[.val (.long x0), .second, .val (.int x1), .val (.int x2), .val (.long x3), .second, .val (.int x4), .val (.int x5), .val (.ref b311), .val (.int a_), .val (.int b_), .val (.int n_), .val (.ref rp), .unset] [(.ref rp), (.int a_), (.ref b311)]))
     refine own_st (fun t_ => XS.iload (own_here Y371) hx rfl (hb hby at_159) rfl) ?_
     show own_Ends _ _ _ _ (T370.setTop (mkF m 161 #[.val (.long x0), .second, .val (.int x1), .val (.int x2), .val (.long x3), .second, .val (.int x4), .val (.int x5), .val (.ref b311), .val (.int a_), .val (.int b_), .val (.int n_), .val (.ref rp), .unset] [(.int n_), (.ref rp), (.int a_), (.ref b311)]))
     refine own_st (fun t_ => XS.iconst (own_here Y371) hx rfl (hb hby at_161) ) ?_
     show own_Ends _ _ _ _ (T370.setTop (mkF m 162 #[.val (.long x0), .second, .val (.int x1), .val (.int x2), .val (.long x3), .second, .val (.int x4), .val (.int x5), .val (.ref b311), .val (.int a_), .val (.int b_), .val (.int n_), .val (.ref rp), .unset] [(.int (1 : Int32)), (.int n_), (.ref rp), (.int a_), (.ref b311)]))
     refine own_callS Y371 hx hZ (y := (⟨"com/example/tagwire/tagwire/wire/BytesStartsWithPinLaw", "m", "([BI[BII)Z"⟩ : MethodName)) hown (hw _ (List.mem_of_getElem? (i := 10) rfl)) (hw _ (List.mem_of_getElem? (i := 11) rfl)) (hw _ (List.mem_of_getElem? (i := 4) rfl)) (hw _ (List.mem_of_getElem? (i := 12) rfl)) (by decide) (argsL := [(.ref b311), (.int a_), (.ref rp), (.int n_), (.int (1 : Int32))]) (rest := []) (own_rm3 l Z a0 hw [] b311 a_ rp n_ (1 : Int32) [(((x0.toInt32).toInt8.toInt32).toInt8.toInt32), (((((x0.toUInt64 >>> ((8 : Int32) &&& 0x3f).toInt64.toUInt64).toInt64).toInt32).toInt8.toInt32).toInt8.toInt32), (((((x0.toUInt64 >>> ((16 : Int32) &&& 0x3f).toInt64.toUInt64).toInt64).toInt32).toInt8.toInt32).toInt8.toInt32), (((((x0.toUInt64 >>> ((24 : Int32) &&& 0x3f).toInt64.toUInt64).toInt64).toInt32).toInt8.toInt32).toInt8.toInt32), (((((x0.toUInt64 >>> ((32 : Int32) &&& 0x3f).toInt64.toUInt64).toInt64).toInt32).toInt8.toInt32).toInt8.toInt32), (((((x0.toUInt64 >>> ((40 : Int32) &&& 0x3f).toInt64.toUInt64).toInt64).toInt32).toInt8.toInt32).toInt8.toInt32), (((((x0.toUInt64 >>> ((48 : Int32) &&& 0x3f).toInt64.toUInt64).toInt64).toInt32).toInt8.toInt32).toInt8.toInt32), (((((x0.toUInt64 >>> ((56 : Int32) &&& 0x3f).toInt64.toUInt64).toInt64).toInt32).toInt8.toInt32).toInt8.toInt32)] ys s0 nn 1 h357 n0  f359 f360 hs hnn rfl hyl (by have : [(((x0.toInt32).toInt8.toInt32).toInt8.toInt32), (((((x0.toUInt64 >>> ((8 : Int32) &&& 0x3f).toInt64.toUInt64).toInt64).toInt32).toInt8.toInt32).toInt8.toInt32), (((((x0.toUInt64 >>> ((16 : Int32) &&& 0x3f).toInt64.toUInt64).toInt64).toInt32).toInt8.toInt32).toInt8.toInt32), (((((x0.toUInt64 >>> ((24 : Int32) &&& 0x3f).toInt64.toUInt64).toInt64).toInt32).toInt8.toInt32).toInt8.toInt32), (((((x0.toUInt64 >>> ((32 : Int32) &&& 0x3f).toInt64.toUInt64).toInt64).toInt32).toInt8.toInt32).toInt8.toInt32), (((((x0.toUInt64 >>> ((40 : Int32) &&& 0x3f).toInt64.toUInt64).toInt64).toInt32).toInt8.toInt32).toInt8.toInt32), (((((x0.toUInt64 >>> ((48 : Int32) &&& 0x3f).toInt64.toUInt64).toInt64).toInt32).toInt8.toInt32).toInt8.toInt32), (((((x0.toUInt64 >>> ((56 : Int32) &&& 0x3f).toInt64.toUInt64).toInt64).toInt32).toInt8.toInt32).toInt8.toInt32)].length = 8 := rfl; omega) (by omega)) (W := 0) (by decide) (by decide) (by decide) (by decide) rfl (by rw [hml]; rfl) (lenOf own_pd1 rfl) rfl (by show 2 * 0 + _ ≤ _; exact Nat.le_of_eq rfl) (hb hby at_162) (fun T376 h378 v379 Y377 q380 => ?_)
     obtain ⟨rfl, rfl⟩ := q380
     show own_Ends _ _ _ _ (T376.setTop (mkF m 165 #[.val (.long x0), .second, .val (.int x1), .val (.int x2), .val (.long x3), .second, .val (.int x4), .val (.int x5), .val (.ref b311), .val (.int a_), .val (.int b_), .val (.int n_), .val (.ref rp), .unset] [(.int (own_b (own_m [(((x0.toInt32).toInt8.toInt32).toInt8.toInt32), (((((x0.toUInt64 >>> ((8 : Int32) &&& 0x3f).toInt64.toUInt64).toInt64).toInt32).toInt8.toInt32).toInt8.toInt32), (((((x0.toUInt64 >>> ((16 : Int32) &&& 0x3f).toInt64.toUInt64).toInt64).toInt32).toInt8.toInt32).toInt8.toInt32), (((((x0.toUInt64 >>> ((24 : Int32) &&& 0x3f).toInt64.toUInt64).toInt64).toInt32).toInt8.toInt32).toInt8.toInt32), (((((x0.toUInt64 >>> ((32 : Int32) &&& 0x3f).toInt64.toUInt64).toInt64).toInt32).toInt8.toInt32).toInt8.toInt32), (((((x0.toUInt64 >>> ((40 : Int32) &&& 0x3f).toInt64.toUInt64).toInt64).toInt32).toInt8.toInt32).toInt8.toInt32), (((((x0.toUInt64 >>> ((48 : Int32) &&& 0x3f).toInt64.toUInt64).toInt64).toInt32).toInt8.toInt32).toInt8.toInt32), (((((x0.toUInt64 >>> ((56 : Int32) &&& 0x3f).toInt64.toUInt64).toInt64).toInt32).toInt8.toInt32).toInt8.toInt32)] ys s0 nn 1)))]))
     by_cases c165_381 : (own_b (own_m [(((x0.toInt32).toInt8.toInt32).toInt8.toInt32), (((((x0.toUInt64 >>> ((8 : Int32) &&& 0x3f).toInt64.toUInt64).toInt64).toInt32).toInt8.toInt32).toInt8.toInt32), (((((x0.toUInt64 >>> ((16 : Int32) &&& 0x3f).toInt64.toUInt64).toInt64).toInt32).toInt8.toInt32).toInt8.toInt32), (((((x0.toUInt64 >>> ((24 : Int32) &&& 0x3f).toInt64.toUInt64).toInt64).toInt32).toInt8.toInt32).toInt8.toInt32), (((((x0.toUInt64 >>> ((32 : Int32) &&& 0x3f).toInt64.toUInt64).toInt64).toInt32).toInt8.toInt32).toInt8.toInt32), (((((x0.toUInt64 >>> ((40 : Int32) &&& 0x3f).toInt64.toUInt64).toInt64).toInt32).toInt8.toInt32).toInt8.toInt32), (((((x0.toUInt64 >>> ((48 : Int32) &&& 0x3f).toInt64.toUInt64).toInt64).toInt32).toInt8.toInt32).toInt8.toInt32), (((((x0.toUInt64 >>> ((56 : Int32) &&& 0x3f).toInt64.toUInt64).toInt64).toInt32).toInt8.toInt32).toInt8.toInt32)] ys s0 nn 1)) = (0 : Int32)
     ·
      refine own_st (fun t_ => XS.ifYes (own_here Y377) hx rfl (pc0 := 165) (pc' := 264) rfl (hb hby at_165) rfl (XT.i0_eq_t c165_381) (by decide) (by decide)) ?_
      show own_Ends _ _ _ _ (T376.setTop (mkF m 264 #[.val (.long x0), .second, .val (.int x1), .val (.int x2), .val (.long x3), .second, .val (.int x4), .val (.int x5), .val (.ref b311), .val (.int a_), .val (.int b_), .val (.int n_), .val (.ref rp), .unset] []))
      refine own_st (fun t_ => XS.iconst (own_here Y377) hx rfl (hb hby at_264) ) ?_
      show own_Ends _ _ _ _ (T376.setTop (mkF m 265 #[.val (.long x0), .second, .val (.int x1), .val (.int x2), .val (.long x3), .second, .val (.int x4), .val (.int x5), .val (.ref b311), .val (.int a_), .val (.int b_), .val (.int n_), .val (.ref rp), .unset] [(.int (0 : Int32))]))
      have hd : (decide (nn ≤ e0 - s0)) = true := by have := c135_369; rw [own_lt, own_sub he hs, hnn] at this; simp only [decide_eq_true_eq]; omega
      exact hJ361 T376   ((0 : Int32)) Y377  (by rw [hd]; simp [own_b, own_b_0] at c150_375 c165_381; simp [own_b, c150_375, c165_381])
     ·
      refine own_st (fun t_ => XS.ifNo (own_here Y377) hx rfl (hb hby at_165) rfl (XT.i0_eq_f c165_381)) ?_
      show own_Ends _ _ _ _ (T376.setTop (mkF m 168 #[.val (.long x0), .second, .val (.int x1), .val (.int x2), .val (.long x3), .second, .val (.int x4), .val (.int x5), .val (.ref b311), .val (.int a_), .val (.int b_), .val (.int n_), .val (.ref rp), .unset] []))
      refine own_st (fun t_ => XS.aload (own_here Y377) hx rfl (hb hby at_168) rfl rfl) ?_
      show own_Ends _ _ _ _ (T376.setTop (mkF m 170 #[.val (.long x0), .second, .val (.int x1), .val (.int x2), .val (.long x3), .second, .val (.int x4), .val (.int x5), .val (.ref b311), .val (.int a_), .val (.int b_), .val (.int n_), .val (.ref rp), .unset] [(.ref b311)]))
      refine own_st (fun t_ => XS.iload (own_here Y377) hx rfl (hb hby at_170) rfl) ?_
      show own_Ends _ _ _ _ (T376.setTop (mkF m 172 #[.val (.long x0), .second, .val (.int x1), .val (.int x2), .val (.long x3), .second, .val (.int x4), .val (.int x5), .val (.ref b311), .val (.int a_), .val (.int b_), .val (.int n_), .val (.ref rp), .unset] [(.int a_), (.ref b311)]))
      refine own_st (fun t_ => XS.aload (own_here Y377) hx rfl (hb hby at_172) rfl rfl) ?_
      show own_Ends _ _ _ _ (T376.setTop (mkF m 174 #[.val (.long x0), .second, .val (.int x1), .val (.int x2), .val (.long x3), .second, .val (.int x4), .val (.int x5), .val (.ref b311), .val (.int a_), .val (.int b_), .val (.int n_), .val (.ref rp), .unset] [(.ref rp), (.int a_), (.ref b311)]))
      refine own_st (fun t_ => XS.iload (own_here Y377) hx rfl (hb hby at_174) rfl) ?_
      show own_Ends _ _ _ _ (T376.setTop (mkF m 176 #[.val (.long x0), .second, .val (.int x1), .val (.int x2), .val (.long x3), .second, .val (.int x4), .val (.int x5), .val (.ref b311), .val (.int a_), .val (.int b_), .val (.int n_), .val (.ref rp), .unset] [(.int n_), (.ref rp), (.int a_), (.ref b311)]))
      refine own_st (fun t_ => XS.iconst (own_here Y377) hx rfl (hb hby at_176) ) ?_
      show own_Ends _ _ _ _ (T376.setTop (mkF m 177 #[.val (.long x0), .second, .val (.int x1), .val (.int x2), .val (.long x3), .second, .val (.int x4), .val (.int x5), .val (.ref b311), .val (.int a_), .val (.int b_), .val (.int n_), .val (.ref rp), .unset] [(.int (2 : Int32)), (.int n_), (.ref rp), (.int a_), (.ref b311)]))
      refine own_callS Y377 hx hZ (y := (⟨"com/example/tagwire/tagwire/wire/BytesStartsWithPinLaw", "m", "([BI[BII)Z"⟩ : MethodName)) hown (hw _ (List.mem_of_getElem? (i := 10) rfl)) (hw _ (List.mem_of_getElem? (i := 11) rfl)) (hw _ (List.mem_of_getElem? (i := 4) rfl)) (hw _ (List.mem_of_getElem? (i := 12) rfl)) (by decide) (argsL := [(.ref b311), (.int a_), (.ref rp), (.int n_), (.int (2 : Int32))]) (rest := []) (own_rm3 l Z a0 hw [] b311 a_ rp n_ (2 : Int32) [(((x0.toInt32).toInt8.toInt32).toInt8.toInt32), (((((x0.toUInt64 >>> ((8 : Int32) &&& 0x3f).toInt64.toUInt64).toInt64).toInt32).toInt8.toInt32).toInt8.toInt32), (((((x0.toUInt64 >>> ((16 : Int32) &&& 0x3f).toInt64.toUInt64).toInt64).toInt32).toInt8.toInt32).toInt8.toInt32), (((((x0.toUInt64 >>> ((24 : Int32) &&& 0x3f).toInt64.toUInt64).toInt64).toInt32).toInt8.toInt32).toInt8.toInt32), (((((x0.toUInt64 >>> ((32 : Int32) &&& 0x3f).toInt64.toUInt64).toInt64).toInt32).toInt8.toInt32).toInt8.toInt32), (((((x0.toUInt64 >>> ((40 : Int32) &&& 0x3f).toInt64.toUInt64).toInt64).toInt32).toInt8.toInt32).toInt8.toInt32), (((((x0.toUInt64 >>> ((48 : Int32) &&& 0x3f).toInt64.toUInt64).toInt64).toInt32).toInt8.toInt32).toInt8.toInt32), (((((x0.toUInt64 >>> ((56 : Int32) &&& 0x3f).toInt64.toUInt64).toInt64).toInt32).toInt8.toInt32).toInt8.toInt32)] ys s0 nn 2 h357 n0  f359 f360 hs hnn rfl hyl (by have : [(((x0.toInt32).toInt8.toInt32).toInt8.toInt32), (((((x0.toUInt64 >>> ((8 : Int32) &&& 0x3f).toInt64.toUInt64).toInt64).toInt32).toInt8.toInt32).toInt8.toInt32), (((((x0.toUInt64 >>> ((16 : Int32) &&& 0x3f).toInt64.toUInt64).toInt64).toInt32).toInt8.toInt32).toInt8.toInt32), (((((x0.toUInt64 >>> ((24 : Int32) &&& 0x3f).toInt64.toUInt64).toInt64).toInt32).toInt8.toInt32).toInt8.toInt32), (((((x0.toUInt64 >>> ((32 : Int32) &&& 0x3f).toInt64.toUInt64).toInt64).toInt32).toInt8.toInt32).toInt8.toInt32), (((((x0.toUInt64 >>> ((40 : Int32) &&& 0x3f).toInt64.toUInt64).toInt64).toInt32).toInt8.toInt32).toInt8.toInt32), (((((x0.toUInt64 >>> ((48 : Int32) &&& 0x3f).toInt64.toUInt64).toInt64).toInt32).toInt8.toInt32).toInt8.toInt32), (((((x0.toUInt64 >>> ((56 : Int32) &&& 0x3f).toInt64.toUInt64).toInt64).toInt32).toInt8.toInt32).toInt8.toInt32)].length = 8 := rfl; omega) (by omega)) (W := 0) (by decide) (by decide) (by decide) (by decide) rfl (by rw [hml]; rfl) (lenOf own_pd1 rfl) rfl (by show 2 * 0 + _ ≤ _; exact Nat.le_of_eq rfl) (hb hby at_177) (fun T382 h384 v385 Y383 q386 => ?_)
      obtain ⟨rfl, rfl⟩ := q386
      show own_Ends _ _ _ _ (T382.setTop (mkF m 180 #[.val (.long x0), .second, .val (.int x1), .val (.int x2), .val (.long x3), .second, .val (.int x4), .val (.int x5), .val (.ref b311), .val (.int a_), .val (.int b_), .val (.int n_), .val (.ref rp), .unset] [(.int (own_b (own_m [(((x0.toInt32).toInt8.toInt32).toInt8.toInt32), (((((x0.toUInt64 >>> ((8 : Int32) &&& 0x3f).toInt64.toUInt64).toInt64).toInt32).toInt8.toInt32).toInt8.toInt32), (((((x0.toUInt64 >>> ((16 : Int32) &&& 0x3f).toInt64.toUInt64).toInt64).toInt32).toInt8.toInt32).toInt8.toInt32), (((((x0.toUInt64 >>> ((24 : Int32) &&& 0x3f).toInt64.toUInt64).toInt64).toInt32).toInt8.toInt32).toInt8.toInt32), (((((x0.toUInt64 >>> ((32 : Int32) &&& 0x3f).toInt64.toUInt64).toInt64).toInt32).toInt8.toInt32).toInt8.toInt32), (((((x0.toUInt64 >>> ((40 : Int32) &&& 0x3f).toInt64.toUInt64).toInt64).toInt32).toInt8.toInt32).toInt8.toInt32), (((((x0.toUInt64 >>> ((48 : Int32) &&& 0x3f).toInt64.toUInt64).toInt64).toInt32).toInt8.toInt32).toInt8.toInt32), (((((x0.toUInt64 >>> ((56 : Int32) &&& 0x3f).toInt64.toUInt64).toInt64).toInt32).toInt8.toInt32).toInt8.toInt32)] ys s0 nn 2)))]))
      by_cases c180_387 : (own_b (own_m [(((x0.toInt32).toInt8.toInt32).toInt8.toInt32), (((((x0.toUInt64 >>> ((8 : Int32) &&& 0x3f).toInt64.toUInt64).toInt64).toInt32).toInt8.toInt32).toInt8.toInt32), (((((x0.toUInt64 >>> ((16 : Int32) &&& 0x3f).toInt64.toUInt64).toInt64).toInt32).toInt8.toInt32).toInt8.toInt32), (((((x0.toUInt64 >>> ((24 : Int32) &&& 0x3f).toInt64.toUInt64).toInt64).toInt32).toInt8.toInt32).toInt8.toInt32), (((((x0.toUInt64 >>> ((32 : Int32) &&& 0x3f).toInt64.toUInt64).toInt64).toInt32).toInt8.toInt32).toInt8.toInt32), (((((x0.toUInt64 >>> ((40 : Int32) &&& 0x3f).toInt64.toUInt64).toInt64).toInt32).toInt8.toInt32).toInt8.toInt32), (((((x0.toUInt64 >>> ((48 : Int32) &&& 0x3f).toInt64.toUInt64).toInt64).toInt32).toInt8.toInt32).toInt8.toInt32), (((((x0.toUInt64 >>> ((56 : Int32) &&& 0x3f).toInt64.toUInt64).toInt64).toInt32).toInt8.toInt32).toInt8.toInt32)] ys s0 nn 2)) = (0 : Int32)
      ·
       refine own_st (fun t_ => XS.ifYes (own_here Y383) hx rfl (pc0 := 180) (pc' := 264) rfl (hb hby at_180) rfl (XT.i0_eq_t c180_387) (by decide) (by decide)) ?_
       show own_Ends _ _ _ _ (T382.setTop (mkF m 264 #[.val (.long x0), .second, .val (.int x1), .val (.int x2), .val (.long x3), .second, .val (.int x4), .val (.int x5), .val (.ref b311), .val (.int a_), .val (.int b_), .val (.int n_), .val (.ref rp), .unset] []))
       refine own_st (fun t_ => XS.iconst (own_here Y383) hx rfl (hb hby at_264) ) ?_
       show own_Ends _ _ _ _ (T382.setTop (mkF m 265 #[.val (.long x0), .second, .val (.int x1), .val (.int x2), .val (.long x3), .second, .val (.int x4), .val (.int x5), .val (.ref b311), .val (.int a_), .val (.int b_), .val (.int n_), .val (.ref rp), .unset] [(.int (0 : Int32))]))
       have hd : (decide (nn ≤ e0 - s0)) = true := by have := c135_369; rw [own_lt, own_sub he hs, hnn] at this; simp only [decide_eq_true_eq]; omega
       exact hJ361 T382   ((0 : Int32)) Y383  (by rw [hd]; simp [own_b, own_b_0] at c150_375 c165_381 c180_387; simp [own_b, c150_375, c165_381, c180_387])
      ·
       refine own_st (fun t_ => XS.ifNo (own_here Y383) hx rfl (hb hby at_180) rfl (XT.i0_eq_f c180_387)) ?_
       show own_Ends _ _ _ _ (T382.setTop (mkF m 183 #[.val (.long x0), .second, .val (.int x1), .val (.int x2), .val (.long x3), .second, .val (.int x4), .val (.int x5), .val (.ref b311), .val (.int a_), .val (.int b_), .val (.int n_), .val (.ref rp), .unset] []))
       refine own_st (fun t_ => XS.aload (own_here Y383) hx rfl (hb hby at_183) rfl rfl) ?_
       show own_Ends _ _ _ _ (T382.setTop (mkF m 185 #[.val (.long x0), .second, .val (.int x1), .val (.int x2), .val (.long x3), .second, .val (.int x4), .val (.int x5), .val (.ref b311), .val (.int a_), .val (.int b_), .val (.int n_), .val (.ref rp), .unset] [(.ref b311)]))
       refine own_st (fun t_ => XS.iload (own_here Y383) hx rfl (hb hby at_185) rfl) ?_
       show own_Ends _ _ _ _ (T382.setTop (mkF m 187 #[.val (.long x0), .second, .val (.int x1), .val (.int x2), .val (.long x3), .second, .val (.int x4), .val (.int x5), .val (.ref b311), .val (.int a_), .val (.int b_), .val (.int n_), .val (.ref rp), .unset] [(.int a_), (.ref b311)]))
       refine own_st (fun t_ => XS.aload (own_here Y383) hx rfl (hb hby at_187) rfl rfl) ?_
       show own_Ends _ _ _ _ (T382.setTop (mkF m 189 #[.val (.long x0), .second, .val (.int x1), .val (.int x2), .val (.long x3), .second, .val (.int x4), .val (.int x5), .val (.ref b311), .val (.int a_), .val (.int b_), .val (.int n_), .val (.ref rp), .unset] [(.ref rp), (.int a_), (.ref b311)]))
       refine own_st (fun t_ => XS.iload (own_here Y383) hx rfl (hb hby at_189) rfl) ?_
       show own_Ends _ _ _ _ (T382.setTop (mkF m 191 #[.val (.long x0), .second, .val (.int x1), .val (.int x2), .val (.long x3), .second, .val (.int x4), .val (.int x5), .val (.ref b311), .val (.int a_), .val (.int b_), .val (.int n_), .val (.ref rp), .unset] [(.int n_), (.ref rp), (.int a_), (.ref b311)]))
       refine own_st (fun t_ => XS.iconst (own_here Y383) hx rfl (hb hby at_191) ) ?_
       show own_Ends _ _ _ _ (T382.setTop (mkF m 192 #[.val (.long x0), .second, .val (.int x1), .val (.int x2), .val (.long x3), .second, .val (.int x4), .val (.int x5), .val (.ref b311), .val (.int a_), .val (.int b_), .val (.int n_), .val (.ref rp), .unset] [(.int (3 : Int32)), (.int n_), (.ref rp), (.int a_), (.ref b311)]))
       refine own_callS Y383 hx hZ (y := (⟨"com/example/tagwire/tagwire/wire/BytesStartsWithPinLaw", "m", "([BI[BII)Z"⟩ : MethodName)) hown (hw _ (List.mem_of_getElem? (i := 10) rfl)) (hw _ (List.mem_of_getElem? (i := 11) rfl)) (hw _ (List.mem_of_getElem? (i := 4) rfl)) (hw _ (List.mem_of_getElem? (i := 12) rfl)) (by decide) (argsL := [(.ref b311), (.int a_), (.ref rp), (.int n_), (.int (3 : Int32))]) (rest := []) (own_rm3 l Z a0 hw [] b311 a_ rp n_ (3 : Int32) [(((x0.toInt32).toInt8.toInt32).toInt8.toInt32), (((((x0.toUInt64 >>> ((8 : Int32) &&& 0x3f).toInt64.toUInt64).toInt64).toInt32).toInt8.toInt32).toInt8.toInt32), (((((x0.toUInt64 >>> ((16 : Int32) &&& 0x3f).toInt64.toUInt64).toInt64).toInt32).toInt8.toInt32).toInt8.toInt32), (((((x0.toUInt64 >>> ((24 : Int32) &&& 0x3f).toInt64.toUInt64).toInt64).toInt32).toInt8.toInt32).toInt8.toInt32), (((((x0.toUInt64 >>> ((32 : Int32) &&& 0x3f).toInt64.toUInt64).toInt64).toInt32).toInt8.toInt32).toInt8.toInt32), (((((x0.toUInt64 >>> ((40 : Int32) &&& 0x3f).toInt64.toUInt64).toInt64).toInt32).toInt8.toInt32).toInt8.toInt32), (((((x0.toUInt64 >>> ((48 : Int32) &&& 0x3f).toInt64.toUInt64).toInt64).toInt32).toInt8.toInt32).toInt8.toInt32), (((((x0.toUInt64 >>> ((56 : Int32) &&& 0x3f).toInt64.toUInt64).toInt64).toInt32).toInt8.toInt32).toInt8.toInt32)] ys s0 nn 3 h357 n0  f359 f360 hs hnn rfl hyl (by have : [(((x0.toInt32).toInt8.toInt32).toInt8.toInt32), (((((x0.toUInt64 >>> ((8 : Int32) &&& 0x3f).toInt64.toUInt64).toInt64).toInt32).toInt8.toInt32).toInt8.toInt32), (((((x0.toUInt64 >>> ((16 : Int32) &&& 0x3f).toInt64.toUInt64).toInt64).toInt32).toInt8.toInt32).toInt8.toInt32), (((((x0.toUInt64 >>> ((24 : Int32) &&& 0x3f).toInt64.toUInt64).toInt64).toInt32).toInt8.toInt32).toInt8.toInt32), (((((x0.toUInt64 >>> ((32 : Int32) &&& 0x3f).toInt64.toUInt64).toInt64).toInt32).toInt8.toInt32).toInt8.toInt32), (((((x0.toUInt64 >>> ((40 : Int32) &&& 0x3f).toInt64.toUInt64).toInt64).toInt32).toInt8.toInt32).toInt8.toInt32), (((((x0.toUInt64 >>> ((48 : Int32) &&& 0x3f).toInt64.toUInt64).toInt64).toInt32).toInt8.toInt32).toInt8.toInt32), (((((x0.toUInt64 >>> ((56 : Int32) &&& 0x3f).toInt64.toUInt64).toInt64).toInt32).toInt8.toInt32).toInt8.toInt32)].length = 8 := rfl; omega) (by omega)) (W := 0) (by decide) (by decide) (by decide) (by decide) rfl (by rw [hml]; rfl) (lenOf own_pd1 rfl) rfl (by show 2 * 0 + _ ≤ _; exact Nat.le_of_eq rfl) (hb hby at_192) (fun T388 h390 v391 Y389 q392 => ?_)
       obtain ⟨rfl, rfl⟩ := q392
       show own_Ends _ _ _ _ (T388.setTop (mkF m 195 #[.val (.long x0), .second, .val (.int x1), .val (.int x2), .val (.long x3), .second, .val (.int x4), .val (.int x5), .val (.ref b311), .val (.int a_), .val (.int b_), .val (.int n_), .val (.ref rp), .unset] [(.int (own_b (own_m [(((x0.toInt32).toInt8.toInt32).toInt8.toInt32), (((((x0.toUInt64 >>> ((8 : Int32) &&& 0x3f).toInt64.toUInt64).toInt64).toInt32).toInt8.toInt32).toInt8.toInt32), (((((x0.toUInt64 >>> ((16 : Int32) &&& 0x3f).toInt64.toUInt64).toInt64).toInt32).toInt8.toInt32).toInt8.toInt32), (((((x0.toUInt64 >>> ((24 : Int32) &&& 0x3f).toInt64.toUInt64).toInt64).toInt32).toInt8.toInt32).toInt8.toInt32), (((((x0.toUInt64 >>> ((32 : Int32) &&& 0x3f).toInt64.toUInt64).toInt64).toInt32).toInt8.toInt32).toInt8.toInt32), (((((x0.toUInt64 >>> ((40 : Int32) &&& 0x3f).toInt64.toUInt64).toInt64).toInt32).toInt8.toInt32).toInt8.toInt32), (((((x0.toUInt64 >>> ((48 : Int32) &&& 0x3f).toInt64.toUInt64).toInt64).toInt32).toInt8.toInt32).toInt8.toInt32), (((((x0.toUInt64 >>> ((56 : Int32) &&& 0x3f).toInt64.toUInt64).toInt64).toInt32).toInt8.toInt32).toInt8.toInt32)] ys s0 nn 3)))]))
       by_cases c195_393 : (own_b (own_m [(((x0.toInt32).toInt8.toInt32).toInt8.toInt32), (((((x0.toUInt64 >>> ((8 : Int32) &&& 0x3f).toInt64.toUInt64).toInt64).toInt32).toInt8.toInt32).toInt8.toInt32), (((((x0.toUInt64 >>> ((16 : Int32) &&& 0x3f).toInt64.toUInt64).toInt64).toInt32).toInt8.toInt32).toInt8.toInt32), (((((x0.toUInt64 >>> ((24 : Int32) &&& 0x3f).toInt64.toUInt64).toInt64).toInt32).toInt8.toInt32).toInt8.toInt32), (((((x0.toUInt64 >>> ((32 : Int32) &&& 0x3f).toInt64.toUInt64).toInt64).toInt32).toInt8.toInt32).toInt8.toInt32), (((((x0.toUInt64 >>> ((40 : Int32) &&& 0x3f).toInt64.toUInt64).toInt64).toInt32).toInt8.toInt32).toInt8.toInt32), (((((x0.toUInt64 >>> ((48 : Int32) &&& 0x3f).toInt64.toUInt64).toInt64).toInt32).toInt8.toInt32).toInt8.toInt32), (((((x0.toUInt64 >>> ((56 : Int32) &&& 0x3f).toInt64.toUInt64).toInt64).toInt32).toInt8.toInt32).toInt8.toInt32)] ys s0 nn 3)) = (0 : Int32)
       ·
        refine own_st (fun t_ => XS.ifYes (own_here Y389) hx rfl (pc0 := 195) (pc' := 264) rfl (hb hby at_195) rfl (XT.i0_eq_t c195_393) (by decide) (by decide)) ?_
        show own_Ends _ _ _ _ (T388.setTop (mkF m 264 #[.val (.long x0), .second, .val (.int x1), .val (.int x2), .val (.long x3), .second, .val (.int x4), .val (.int x5), .val (.ref b311), .val (.int a_), .val (.int b_), .val (.int n_), .val (.ref rp), .unset] []))
        refine own_st (fun t_ => XS.iconst (own_here Y389) hx rfl (hb hby at_264) ) ?_
        show own_Ends _ _ _ _ (T388.setTop (mkF m 265 #[.val (.long x0), .second, .val (.int x1), .val (.int x2), .val (.long x3), .second, .val (.int x4), .val (.int x5), .val (.ref b311), .val (.int a_), .val (.int b_), .val (.int n_), .val (.ref rp), .unset] [(.int (0 : Int32))]))
        have hd : (decide (nn ≤ e0 - s0)) = true := by have := c135_369; rw [own_lt, own_sub he hs, hnn] at this; simp only [decide_eq_true_eq]; omega
        exact hJ361 T388   ((0 : Int32)) Y389  (by rw [hd]; simp [own_b, own_b_0] at c150_375 c165_381 c180_387 c195_393; simp [own_b, c150_375, c165_381, c180_387, c195_393])
       ·
        refine own_st (fun t_ => XS.ifNo (own_here Y389) hx rfl (hb hby at_195) rfl (XT.i0_eq_f c195_393)) ?_
        show own_Ends _ _ _ _ (T388.setTop (mkF m 198 #[.val (.long x0), .second, .val (.int x1), .val (.int x2), .val (.long x3), .second, .val (.int x4), .val (.int x5), .val (.ref b311), .val (.int a_), .val (.int b_), .val (.int n_), .val (.ref rp), .unset] []))
        refine own_st (fun t_ => XS.aload (own_here Y389) hx rfl (hb hby at_198) rfl rfl) ?_
        show own_Ends _ _ _ _ (T388.setTop (mkF m 200 #[.val (.long x0), .second, .val (.int x1), .val (.int x2), .val (.long x3), .second, .val (.int x4), .val (.int x5), .val (.ref b311), .val (.int a_), .val (.int b_), .val (.int n_), .val (.ref rp), .unset] [(.ref b311)]))
        refine own_st (fun t_ => XS.iload (own_here Y389) hx rfl (hb hby at_200) rfl) ?_
        show own_Ends _ _ _ _ (T388.setTop (mkF m 202 #[.val (.long x0), .second, .val (.int x1), .val (.int x2), .val (.long x3), .second, .val (.int x4), .val (.int x5), .val (.ref b311), .val (.int a_), .val (.int b_), .val (.int n_), .val (.ref rp), .unset] [(.int a_), (.ref b311)]))
        refine own_st (fun t_ => XS.aload (own_here Y389) hx rfl (hb hby at_202) rfl rfl) ?_
        show own_Ends _ _ _ _ (T388.setTop (mkF m 204 #[.val (.long x0), .second, .val (.int x1), .val (.int x2), .val (.long x3), .second, .val (.int x4), .val (.int x5), .val (.ref b311), .val (.int a_), .val (.int b_), .val (.int n_), .val (.ref rp), .unset] [(.ref rp), (.int a_), (.ref b311)]))
        refine own_st (fun t_ => XS.iload (own_here Y389) hx rfl (hb hby at_204) rfl) ?_
        show own_Ends _ _ _ _ (T388.setTop (mkF m 206 #[.val (.long x0), .second, .val (.int x1), .val (.int x2), .val (.long x3), .second, .val (.int x4), .val (.int x5), .val (.ref b311), .val (.int a_), .val (.int b_), .val (.int n_), .val (.ref rp), .unset] [(.int n_), (.ref rp), (.int a_), (.ref b311)]))
        refine own_st (fun t_ => XS.iconst (own_here Y389) hx rfl (hb hby at_206) ) ?_
        show own_Ends _ _ _ _ (T388.setTop (mkF m 207 #[.val (.long x0), .second, .val (.int x1), .val (.int x2), .val (.long x3), .second, .val (.int x4), .val (.int x5), .val (.ref b311), .val (.int a_), .val (.int b_), .val (.int n_), .val (.ref rp), .unset] [(.int (4 : Int32)), (.int n_), (.ref rp), (.int a_), (.ref b311)]))
        refine own_callS Y389 hx hZ (y := (⟨"com/example/tagwire/tagwire/wire/BytesStartsWithPinLaw", "m", "([BI[BII)Z"⟩ : MethodName)) hown (hw _ (List.mem_of_getElem? (i := 10) rfl)) (hw _ (List.mem_of_getElem? (i := 11) rfl)) (hw _ (List.mem_of_getElem? (i := 4) rfl)) (hw _ (List.mem_of_getElem? (i := 12) rfl)) (by decide) (argsL := [(.ref b311), (.int a_), (.ref rp), (.int n_), (.int (4 : Int32))]) (rest := []) (own_rm3 l Z a0 hw [] b311 a_ rp n_ (4 : Int32) [(((x0.toInt32).toInt8.toInt32).toInt8.toInt32), (((((x0.toUInt64 >>> ((8 : Int32) &&& 0x3f).toInt64.toUInt64).toInt64).toInt32).toInt8.toInt32).toInt8.toInt32), (((((x0.toUInt64 >>> ((16 : Int32) &&& 0x3f).toInt64.toUInt64).toInt64).toInt32).toInt8.toInt32).toInt8.toInt32), (((((x0.toUInt64 >>> ((24 : Int32) &&& 0x3f).toInt64.toUInt64).toInt64).toInt32).toInt8.toInt32).toInt8.toInt32), (((((x0.toUInt64 >>> ((32 : Int32) &&& 0x3f).toInt64.toUInt64).toInt64).toInt32).toInt8.toInt32).toInt8.toInt32), (((((x0.toUInt64 >>> ((40 : Int32) &&& 0x3f).toInt64.toUInt64).toInt64).toInt32).toInt8.toInt32).toInt8.toInt32), (((((x0.toUInt64 >>> ((48 : Int32) &&& 0x3f).toInt64.toUInt64).toInt64).toInt32).toInt8.toInt32).toInt8.toInt32), (((((x0.toUInt64 >>> ((56 : Int32) &&& 0x3f).toInt64.toUInt64).toInt64).toInt32).toInt8.toInt32).toInt8.toInt32)] ys s0 nn 4 h357 n0  f359 f360 hs hnn rfl hyl (by have : [(((x0.toInt32).toInt8.toInt32).toInt8.toInt32), (((((x0.toUInt64 >>> ((8 : Int32) &&& 0x3f).toInt64.toUInt64).toInt64).toInt32).toInt8.toInt32).toInt8.toInt32), (((((x0.toUInt64 >>> ((16 : Int32) &&& 0x3f).toInt64.toUInt64).toInt64).toInt32).toInt8.toInt32).toInt8.toInt32), (((((x0.toUInt64 >>> ((24 : Int32) &&& 0x3f).toInt64.toUInt64).toInt64).toInt32).toInt8.toInt32).toInt8.toInt32), (((((x0.toUInt64 >>> ((32 : Int32) &&& 0x3f).toInt64.toUInt64).toInt64).toInt32).toInt8.toInt32).toInt8.toInt32), (((((x0.toUInt64 >>> ((40 : Int32) &&& 0x3f).toInt64.toUInt64).toInt64).toInt32).toInt8.toInt32).toInt8.toInt32), (((((x0.toUInt64 >>> ((48 : Int32) &&& 0x3f).toInt64.toUInt64).toInt64).toInt32).toInt8.toInt32).toInt8.toInt32), (((((x0.toUInt64 >>> ((56 : Int32) &&& 0x3f).toInt64.toUInt64).toInt64).toInt32).toInt8.toInt32).toInt8.toInt32)].length = 8 := rfl; omega) (by omega)) (W := 0) (by decide) (by decide) (by decide) (by decide) rfl (by rw [hml]; rfl) (lenOf own_pd1 rfl) rfl (by show 2 * 0 + _ ≤ _; exact Nat.le_of_eq rfl) (hb hby at_207) (fun T394 h396 v397 Y395 q398 => ?_)
        obtain ⟨rfl, rfl⟩ := q398
        show own_Ends _ _ _ _ (T394.setTop (mkF m 210 #[.val (.long x0), .second, .val (.int x1), .val (.int x2), .val (.long x3), .second, .val (.int x4), .val (.int x5), .val (.ref b311), .val (.int a_), .val (.int b_), .val (.int n_), .val (.ref rp), .unset] [(.int (own_b (own_m [(((x0.toInt32).toInt8.toInt32).toInt8.toInt32), (((((x0.toUInt64 >>> ((8 : Int32) &&& 0x3f).toInt64.toUInt64).toInt64).toInt32).toInt8.toInt32).toInt8.toInt32), (((((x0.toUInt64 >>> ((16 : Int32) &&& 0x3f).toInt64.toUInt64).toInt64).toInt32).toInt8.toInt32).toInt8.toInt32), (((((x0.toUInt64 >>> ((24 : Int32) &&& 0x3f).toInt64.toUInt64).toInt64).toInt32).toInt8.toInt32).toInt8.toInt32), (((((x0.toUInt64 >>> ((32 : Int32) &&& 0x3f).toInt64.toUInt64).toInt64).toInt32).toInt8.toInt32).toInt8.toInt32), (((((x0.toUInt64 >>> ((40 : Int32) &&& 0x3f).toInt64.toUInt64).toInt64).toInt32).toInt8.toInt32).toInt8.toInt32), (((((x0.toUInt64 >>> ((48 : Int32) &&& 0x3f).toInt64.toUInt64).toInt64).toInt32).toInt8.toInt32).toInt8.toInt32), (((((x0.toUInt64 >>> ((56 : Int32) &&& 0x3f).toInt64.toUInt64).toInt64).toInt32).toInt8.toInt32).toInt8.toInt32)] ys s0 nn 4)))]))
        by_cases c210_399 : (own_b (own_m [(((x0.toInt32).toInt8.toInt32).toInt8.toInt32), (((((x0.toUInt64 >>> ((8 : Int32) &&& 0x3f).toInt64.toUInt64).toInt64).toInt32).toInt8.toInt32).toInt8.toInt32), (((((x0.toUInt64 >>> ((16 : Int32) &&& 0x3f).toInt64.toUInt64).toInt64).toInt32).toInt8.toInt32).toInt8.toInt32), (((((x0.toUInt64 >>> ((24 : Int32) &&& 0x3f).toInt64.toUInt64).toInt64).toInt32).toInt8.toInt32).toInt8.toInt32), (((((x0.toUInt64 >>> ((32 : Int32) &&& 0x3f).toInt64.toUInt64).toInt64).toInt32).toInt8.toInt32).toInt8.toInt32), (((((x0.toUInt64 >>> ((40 : Int32) &&& 0x3f).toInt64.toUInt64).toInt64).toInt32).toInt8.toInt32).toInt8.toInt32), (((((x0.toUInt64 >>> ((48 : Int32) &&& 0x3f).toInt64.toUInt64).toInt64).toInt32).toInt8.toInt32).toInt8.toInt32), (((((x0.toUInt64 >>> ((56 : Int32) &&& 0x3f).toInt64.toUInt64).toInt64).toInt32).toInt8.toInt32).toInt8.toInt32)] ys s0 nn 4)) = (0 : Int32)
        ·
         refine own_st (fun t_ => XS.ifYes (own_here Y395) hx rfl (pc0 := 210) (pc' := 264) rfl (hb hby at_210) rfl (XT.i0_eq_t c210_399) (by decide) (by decide)) ?_
         show own_Ends _ _ _ _ (T394.setTop (mkF m 264 #[.val (.long x0), .second, .val (.int x1), .val (.int x2), .val (.long x3), .second, .val (.int x4), .val (.int x5), .val (.ref b311), .val (.int a_), .val (.int b_), .val (.int n_), .val (.ref rp), .unset] []))
         refine own_st (fun t_ => XS.iconst (own_here Y395) hx rfl (hb hby at_264) ) ?_
         show own_Ends _ _ _ _ (T394.setTop (mkF m 265 #[.val (.long x0), .second, .val (.int x1), .val (.int x2), .val (.long x3), .second, .val (.int x4), .val (.int x5), .val (.ref b311), .val (.int a_), .val (.int b_), .val (.int n_), .val (.ref rp), .unset] [(.int (0 : Int32))]))
         have hd : (decide (nn ≤ e0 - s0)) = true := by have := c135_369; rw [own_lt, own_sub he hs, hnn] at this; simp only [decide_eq_true_eq]; omega
         exact hJ361 T394   ((0 : Int32)) Y395  (by rw [hd]; simp [own_b, own_b_0] at c150_375 c165_381 c180_387 c195_393 c210_399; simp [own_b, c150_375, c165_381, c180_387, c195_393, c210_399])
        ·
         refine own_st (fun t_ => XS.ifNo (own_here Y395) hx rfl (hb hby at_210) rfl (XT.i0_eq_f c210_399)) ?_
         show own_Ends _ _ _ _ (T394.setTop (mkF m 213 #[.val (.long x0), .second, .val (.int x1), .val (.int x2), .val (.long x3), .second, .val (.int x4), .val (.int x5), .val (.ref b311), .val (.int a_), .val (.int b_), .val (.int n_), .val (.ref rp), .unset] []))
         refine own_st (fun t_ => XS.aload (own_here Y395) hx rfl (hb hby at_213) rfl rfl) ?_
         show own_Ends _ _ _ _ (T394.setTop (mkF m 215 #[.val (.long x0), .second, .val (.int x1), .val (.int x2), .val (.long x3), .second, .val (.int x4), .val (.int x5), .val (.ref b311), .val (.int a_), .val (.int b_), .val (.int n_), .val (.ref rp), .unset] [(.ref b311)]))
         refine own_st (fun t_ => XS.iload (own_here Y395) hx rfl (hb hby at_215) rfl) ?_
         show own_Ends _ _ _ _ (T394.setTop (mkF m 217 #[.val (.long x0), .second, .val (.int x1), .val (.int x2), .val (.long x3), .second, .val (.int x4), .val (.int x5), .val (.ref b311), .val (.int a_), .val (.int b_), .val (.int n_), .val (.ref rp), .unset] [(.int a_), (.ref b311)]))
         refine own_st (fun t_ => XS.aload (own_here Y395) hx rfl (hb hby at_217) rfl rfl) ?_
         show own_Ends _ _ _ _ (T394.setTop (mkF m 219 #[.val (.long x0), .second, .val (.int x1), .val (.int x2), .val (.long x3), .second, .val (.int x4), .val (.int x5), .val (.ref b311), .val (.int a_), .val (.int b_), .val (.int n_), .val (.ref rp), .unset] [(.ref rp), (.int a_), (.ref b311)]))
         refine own_st (fun t_ => XS.iload (own_here Y395) hx rfl (hb hby at_219) rfl) ?_
         show own_Ends _ _ _ _ (T394.setTop (mkF m 221 #[.val (.long x0), .second, .val (.int x1), .val (.int x2), .val (.long x3), .second, .val (.int x4), .val (.int x5), .val (.ref b311), .val (.int a_), .val (.int b_), .val (.int n_), .val (.ref rp), .unset] [(.int n_), (.ref rp), (.int a_), (.ref b311)]))
         refine own_st (fun t_ => XS.iconst (own_here Y395) hx rfl (hb hby at_221) ) ?_
         show own_Ends _ _ _ _ (T394.setTop (mkF m 222 #[.val (.long x0), .second, .val (.int x1), .val (.int x2), .val (.long x3), .second, .val (.int x4), .val (.int x5), .val (.ref b311), .val (.int a_), .val (.int b_), .val (.int n_), .val (.ref rp), .unset] [(.int (5 : Int32)), (.int n_), (.ref rp), (.int a_), (.ref b311)]))
         refine own_callS Y395 hx hZ (y := (⟨"com/example/tagwire/tagwire/wire/BytesStartsWithPinLaw", "m", "([BI[BII)Z"⟩ : MethodName)) hown (hw _ (List.mem_of_getElem? (i := 10) rfl)) (hw _ (List.mem_of_getElem? (i := 11) rfl)) (hw _ (List.mem_of_getElem? (i := 4) rfl)) (hw _ (List.mem_of_getElem? (i := 12) rfl)) (by decide) (argsL := [(.ref b311), (.int a_), (.ref rp), (.int n_), (.int (5 : Int32))]) (rest := []) (own_rm3 l Z a0 hw [] b311 a_ rp n_ (5 : Int32) [(((x0.toInt32).toInt8.toInt32).toInt8.toInt32), (((((x0.toUInt64 >>> ((8 : Int32) &&& 0x3f).toInt64.toUInt64).toInt64).toInt32).toInt8.toInt32).toInt8.toInt32), (((((x0.toUInt64 >>> ((16 : Int32) &&& 0x3f).toInt64.toUInt64).toInt64).toInt32).toInt8.toInt32).toInt8.toInt32), (((((x0.toUInt64 >>> ((24 : Int32) &&& 0x3f).toInt64.toUInt64).toInt64).toInt32).toInt8.toInt32).toInt8.toInt32), (((((x0.toUInt64 >>> ((32 : Int32) &&& 0x3f).toInt64.toUInt64).toInt64).toInt32).toInt8.toInt32).toInt8.toInt32), (((((x0.toUInt64 >>> ((40 : Int32) &&& 0x3f).toInt64.toUInt64).toInt64).toInt32).toInt8.toInt32).toInt8.toInt32), (((((x0.toUInt64 >>> ((48 : Int32) &&& 0x3f).toInt64.toUInt64).toInt64).toInt32).toInt8.toInt32).toInt8.toInt32), (((((x0.toUInt64 >>> ((56 : Int32) &&& 0x3f).toInt64.toUInt64).toInt64).toInt32).toInt8.toInt32).toInt8.toInt32)] ys s0 nn 5 h357 n0  f359 f360 hs hnn rfl hyl (by have : [(((x0.toInt32).toInt8.toInt32).toInt8.toInt32), (((((x0.toUInt64 >>> ((8 : Int32) &&& 0x3f).toInt64.toUInt64).toInt64).toInt32).toInt8.toInt32).toInt8.toInt32), (((((x0.toUInt64 >>> ((16 : Int32) &&& 0x3f).toInt64.toUInt64).toInt64).toInt32).toInt8.toInt32).toInt8.toInt32), (((((x0.toUInt64 >>> ((24 : Int32) &&& 0x3f).toInt64.toUInt64).toInt64).toInt32).toInt8.toInt32).toInt8.toInt32), (((((x0.toUInt64 >>> ((32 : Int32) &&& 0x3f).toInt64.toUInt64).toInt64).toInt32).toInt8.toInt32).toInt8.toInt32), (((((x0.toUInt64 >>> ((40 : Int32) &&& 0x3f).toInt64.toUInt64).toInt64).toInt32).toInt8.toInt32).toInt8.toInt32), (((((x0.toUInt64 >>> ((48 : Int32) &&& 0x3f).toInt64.toUInt64).toInt64).toInt32).toInt8.toInt32).toInt8.toInt32), (((((x0.toUInt64 >>> ((56 : Int32) &&& 0x3f).toInt64.toUInt64).toInt64).toInt32).toInt8.toInt32).toInt8.toInt32)].length = 8 := rfl; omega) (by omega)) (W := 0) (by decide) (by decide) (by decide) (by decide) rfl (by rw [hml]; rfl) (lenOf own_pd1 rfl) rfl (by show 2 * 0 + _ ≤ _; exact Nat.le_of_eq rfl) (hb hby at_222) (fun T400 h402 v403 Y401 q404 => ?_)
         obtain ⟨rfl, rfl⟩ := q404
         show own_Ends _ _ _ _ (T400.setTop (mkF m 225 #[.val (.long x0), .second, .val (.int x1), .val (.int x2), .val (.long x3), .second, .val (.int x4), .val (.int x5), .val (.ref b311), .val (.int a_), .val (.int b_), .val (.int n_), .val (.ref rp), .unset] [(.int (own_b (own_m [(((x0.toInt32).toInt8.toInt32).toInt8.toInt32), (((((x0.toUInt64 >>> ((8 : Int32) &&& 0x3f).toInt64.toUInt64).toInt64).toInt32).toInt8.toInt32).toInt8.toInt32), (((((x0.toUInt64 >>> ((16 : Int32) &&& 0x3f).toInt64.toUInt64).toInt64).toInt32).toInt8.toInt32).toInt8.toInt32), (((((x0.toUInt64 >>> ((24 : Int32) &&& 0x3f).toInt64.toUInt64).toInt64).toInt32).toInt8.toInt32).toInt8.toInt32), (((((x0.toUInt64 >>> ((32 : Int32) &&& 0x3f).toInt64.toUInt64).toInt64).toInt32).toInt8.toInt32).toInt8.toInt32), (((((x0.toUInt64 >>> ((40 : Int32) &&& 0x3f).toInt64.toUInt64).toInt64).toInt32).toInt8.toInt32).toInt8.toInt32), (((((x0.toUInt64 >>> ((48 : Int32) &&& 0x3f).toInt64.toUInt64).toInt64).toInt32).toInt8.toInt32).toInt8.toInt32), (((((x0.toUInt64 >>> ((56 : Int32) &&& 0x3f).toInt64.toUInt64).toInt64).toInt32).toInt8.toInt32).toInt8.toInt32)] ys s0 nn 5)))]))
         by_cases c225_405 : (own_b (own_m [(((x0.toInt32).toInt8.toInt32).toInt8.toInt32), (((((x0.toUInt64 >>> ((8 : Int32) &&& 0x3f).toInt64.toUInt64).toInt64).toInt32).toInt8.toInt32).toInt8.toInt32), (((((x0.toUInt64 >>> ((16 : Int32) &&& 0x3f).toInt64.toUInt64).toInt64).toInt32).toInt8.toInt32).toInt8.toInt32), (((((x0.toUInt64 >>> ((24 : Int32) &&& 0x3f).toInt64.toUInt64).toInt64).toInt32).toInt8.toInt32).toInt8.toInt32), (((((x0.toUInt64 >>> ((32 : Int32) &&& 0x3f).toInt64.toUInt64).toInt64).toInt32).toInt8.toInt32).toInt8.toInt32), (((((x0.toUInt64 >>> ((40 : Int32) &&& 0x3f).toInt64.toUInt64).toInt64).toInt32).toInt8.toInt32).toInt8.toInt32), (((((x0.toUInt64 >>> ((48 : Int32) &&& 0x3f).toInt64.toUInt64).toInt64).toInt32).toInt8.toInt32).toInt8.toInt32), (((((x0.toUInt64 >>> ((56 : Int32) &&& 0x3f).toInt64.toUInt64).toInt64).toInt32).toInt8.toInt32).toInt8.toInt32)] ys s0 nn 5)) = (0 : Int32)
         ·
          refine own_st (fun t_ => XS.ifYes (own_here Y401) hx rfl (pc0 := 225) (pc' := 264) rfl (hb hby at_225) rfl (XT.i0_eq_t c225_405) (by decide) (by decide)) ?_
          show own_Ends _ _ _ _ (T400.setTop (mkF m 264 #[.val (.long x0), .second, .val (.int x1), .val (.int x2), .val (.long x3), .second, .val (.int x4), .val (.int x5), .val (.ref b311), .val (.int a_), .val (.int b_), .val (.int n_), .val (.ref rp), .unset] []))
          refine own_st (fun t_ => XS.iconst (own_here Y401) hx rfl (hb hby at_264) ) ?_
          show own_Ends _ _ _ _ (T400.setTop (mkF m 265 #[.val (.long x0), .second, .val (.int x1), .val (.int x2), .val (.long x3), .second, .val (.int x4), .val (.int x5), .val (.ref b311), .val (.int a_), .val (.int b_), .val (.int n_), .val (.ref rp), .unset] [(.int (0 : Int32))]))
          have hd : (decide (nn ≤ e0 - s0)) = true := by have := c135_369; rw [own_lt, own_sub he hs, hnn] at this; simp only [decide_eq_true_eq]; omega
          exact hJ361 T400   ((0 : Int32)) Y401  (by rw [hd]; simp [own_b, own_b_0] at c150_375 c165_381 c180_387 c195_393 c210_399 c225_405; simp [own_b, c150_375, c165_381, c180_387, c195_393, c210_399, c225_405])
         ·
          refine own_st (fun t_ => XS.ifNo (own_here Y401) hx rfl (hb hby at_225) rfl (XT.i0_eq_f c225_405)) ?_
          show own_Ends _ _ _ _ (T400.setTop (mkF m 228 #[.val (.long x0), .second, .val (.int x1), .val (.int x2), .val (.long x3), .second, .val (.int x4), .val (.int x5), .val (.ref b311), .val (.int a_), .val (.int b_), .val (.int n_), .val (.ref rp), .unset] []))
          refine own_st (fun t_ => XS.aload (own_here Y401) hx rfl (hb hby at_228) rfl rfl) ?_
          show own_Ends _ _ _ _ (T400.setTop (mkF m 230 #[.val (.long x0), .second, .val (.int x1), .val (.int x2), .val (.long x3), .second, .val (.int x4), .val (.int x5), .val (.ref b311), .val (.int a_), .val (.int b_), .val (.int n_), .val (.ref rp), .unset] [(.ref b311)]))
          refine own_st (fun t_ => XS.iload (own_here Y401) hx rfl (hb hby at_230) rfl) ?_
          show own_Ends _ _ _ _ (T400.setTop (mkF m 232 #[.val (.long x0), .second, .val (.int x1), .val (.int x2), .val (.long x3), .second, .val (.int x4), .val (.int x5), .val (.ref b311), .val (.int a_), .val (.int b_), .val (.int n_), .val (.ref rp), .unset] [(.int a_), (.ref b311)]))
          refine own_st (fun t_ => XS.aload (own_here Y401) hx rfl (hb hby at_232) rfl rfl) ?_
          show own_Ends _ _ _ _ (T400.setTop (mkF m 234 #[.val (.long x0), .second, .val (.int x1), .val (.int x2), .val (.long x3), .second, .val (.int x4), .val (.int x5), .val (.ref b311), .val (.int a_), .val (.int b_), .val (.int n_), .val (.ref rp), .unset] [(.ref rp), (.int a_), (.ref b311)]))
          refine own_st (fun t_ => XS.iload (own_here Y401) hx rfl (hb hby at_234) rfl) ?_
          show own_Ends _ _ _ _ (T400.setTop (mkF m 236 #[.val (.long x0), .second, .val (.int x1), .val (.int x2), .val (.long x3), .second, .val (.int x4), .val (.int x5), .val (.ref b311), .val (.int a_), .val (.int b_), .val (.int n_), .val (.ref rp), .unset] [(.int n_), (.ref rp), (.int a_), (.ref b311)]))
          refine own_st (fun t_ => XS.bipush (own_here Y401) hx rfl (hb hby at_236) ) ?_
          show own_Ends _ _ _ _ (T400.setTop (mkF m 238 #[.val (.long x0), .second, .val (.int x1), .val (.int x2), .val (.long x3), .second, .val (.int x4), .val (.int x5), .val (.ref b311), .val (.int a_), .val (.int b_), .val (.int n_), .val (.ref rp), .unset] [(.int (6 : Int32)), (.int n_), (.ref rp), (.int a_), (.ref b311)]))
          refine own_callS Y401 hx hZ (y := (⟨"com/example/tagwire/tagwire/wire/BytesStartsWithPinLaw", "m", "([BI[BII)Z"⟩ : MethodName)) hown (hw _ (List.mem_of_getElem? (i := 10) rfl)) (hw _ (List.mem_of_getElem? (i := 11) rfl)) (hw _ (List.mem_of_getElem? (i := 4) rfl)) (hw _ (List.mem_of_getElem? (i := 12) rfl)) (by decide) (argsL := [(.ref b311), (.int a_), (.ref rp), (.int n_), (.int (6 : Int32))]) (rest := []) (own_rm3 l Z a0 hw [] b311 a_ rp n_ (6 : Int32) [(((x0.toInt32).toInt8.toInt32).toInt8.toInt32), (((((x0.toUInt64 >>> ((8 : Int32) &&& 0x3f).toInt64.toUInt64).toInt64).toInt32).toInt8.toInt32).toInt8.toInt32), (((((x0.toUInt64 >>> ((16 : Int32) &&& 0x3f).toInt64.toUInt64).toInt64).toInt32).toInt8.toInt32).toInt8.toInt32), (((((x0.toUInt64 >>> ((24 : Int32) &&& 0x3f).toInt64.toUInt64).toInt64).toInt32).toInt8.toInt32).toInt8.toInt32), (((((x0.toUInt64 >>> ((32 : Int32) &&& 0x3f).toInt64.toUInt64).toInt64).toInt32).toInt8.toInt32).toInt8.toInt32), (((((x0.toUInt64 >>> ((40 : Int32) &&& 0x3f).toInt64.toUInt64).toInt64).toInt32).toInt8.toInt32).toInt8.toInt32), (((((x0.toUInt64 >>> ((48 : Int32) &&& 0x3f).toInt64.toUInt64).toInt64).toInt32).toInt8.toInt32).toInt8.toInt32), (((((x0.toUInt64 >>> ((56 : Int32) &&& 0x3f).toInt64.toUInt64).toInt64).toInt32).toInt8.toInt32).toInt8.toInt32)] ys s0 nn 6 h357 n0  f359 f360 hs hnn rfl hyl (by have : [(((x0.toInt32).toInt8.toInt32).toInt8.toInt32), (((((x0.toUInt64 >>> ((8 : Int32) &&& 0x3f).toInt64.toUInt64).toInt64).toInt32).toInt8.toInt32).toInt8.toInt32), (((((x0.toUInt64 >>> ((16 : Int32) &&& 0x3f).toInt64.toUInt64).toInt64).toInt32).toInt8.toInt32).toInt8.toInt32), (((((x0.toUInt64 >>> ((24 : Int32) &&& 0x3f).toInt64.toUInt64).toInt64).toInt32).toInt8.toInt32).toInt8.toInt32), (((((x0.toUInt64 >>> ((32 : Int32) &&& 0x3f).toInt64.toUInt64).toInt64).toInt32).toInt8.toInt32).toInt8.toInt32), (((((x0.toUInt64 >>> ((40 : Int32) &&& 0x3f).toInt64.toUInt64).toInt64).toInt32).toInt8.toInt32).toInt8.toInt32), (((((x0.toUInt64 >>> ((48 : Int32) &&& 0x3f).toInt64.toUInt64).toInt64).toInt32).toInt8.toInt32).toInt8.toInt32), (((((x0.toUInt64 >>> ((56 : Int32) &&& 0x3f).toInt64.toUInt64).toInt64).toInt32).toInt8.toInt32).toInt8.toInt32)].length = 8 := rfl; omega) (by omega)) (W := 0) (by decide) (by decide) (by decide) (by decide) rfl (by rw [hml]; rfl) (lenOf own_pd1 rfl) rfl (by show 2 * 0 + _ ≤ _; exact Nat.le_of_eq rfl) (hb hby at_238) (fun T406 h408 v409 Y407 q410 => ?_)
          obtain ⟨rfl, rfl⟩ := q410
          show own_Ends _ _ _ _ (T406.setTop (mkF m 241 #[.val (.long x0), .second, .val (.int x1), .val (.int x2), .val (.long x3), .second, .val (.int x4), .val (.int x5), .val (.ref b311), .val (.int a_), .val (.int b_), .val (.int n_), .val (.ref rp), .unset] [(.int (own_b (own_m [(((x0.toInt32).toInt8.toInt32).toInt8.toInt32), (((((x0.toUInt64 >>> ((8 : Int32) &&& 0x3f).toInt64.toUInt64).toInt64).toInt32).toInt8.toInt32).toInt8.toInt32), (((((x0.toUInt64 >>> ((16 : Int32) &&& 0x3f).toInt64.toUInt64).toInt64).toInt32).toInt8.toInt32).toInt8.toInt32), (((((x0.toUInt64 >>> ((24 : Int32) &&& 0x3f).toInt64.toUInt64).toInt64).toInt32).toInt8.toInt32).toInt8.toInt32), (((((x0.toUInt64 >>> ((32 : Int32) &&& 0x3f).toInt64.toUInt64).toInt64).toInt32).toInt8.toInt32).toInt8.toInt32), (((((x0.toUInt64 >>> ((40 : Int32) &&& 0x3f).toInt64.toUInt64).toInt64).toInt32).toInt8.toInt32).toInt8.toInt32), (((((x0.toUInt64 >>> ((48 : Int32) &&& 0x3f).toInt64.toUInt64).toInt64).toInt32).toInt8.toInt32).toInt8.toInt32), (((((x0.toUInt64 >>> ((56 : Int32) &&& 0x3f).toInt64.toUInt64).toInt64).toInt32).toInt8.toInt32).toInt8.toInt32)] ys s0 nn 6)))]))
          by_cases c241_411 : (own_b (own_m [(((x0.toInt32).toInt8.toInt32).toInt8.toInt32), (((((x0.toUInt64 >>> ((8 : Int32) &&& 0x3f).toInt64.toUInt64).toInt64).toInt32).toInt8.toInt32).toInt8.toInt32), (((((x0.toUInt64 >>> ((16 : Int32) &&& 0x3f).toInt64.toUInt64).toInt64).toInt32).toInt8.toInt32).toInt8.toInt32), (((((x0.toUInt64 >>> ((24 : Int32) &&& 0x3f).toInt64.toUInt64).toInt64).toInt32).toInt8.toInt32).toInt8.toInt32), (((((x0.toUInt64 >>> ((32 : Int32) &&& 0x3f).toInt64.toUInt64).toInt64).toInt32).toInt8.toInt32).toInt8.toInt32), (((((x0.toUInt64 >>> ((40 : Int32) &&& 0x3f).toInt64.toUInt64).toInt64).toInt32).toInt8.toInt32).toInt8.toInt32), (((((x0.toUInt64 >>> ((48 : Int32) &&& 0x3f).toInt64.toUInt64).toInt64).toInt32).toInt8.toInt32).toInt8.toInt32), (((((x0.toUInt64 >>> ((56 : Int32) &&& 0x3f).toInt64.toUInt64).toInt64).toInt32).toInt8.toInt32).toInt8.toInt32)] ys s0 nn 6)) = (0 : Int32)
          ·
           refine own_st (fun t_ => XS.ifYes (own_here Y407) hx rfl (pc0 := 241) (pc' := 264) rfl (hb hby at_241) rfl (XT.i0_eq_t c241_411) (by decide) (by decide)) ?_
           show own_Ends _ _ _ _ (T406.setTop (mkF m 264 #[.val (.long x0), .second, .val (.int x1), .val (.int x2), .val (.long x3), .second, .val (.int x4), .val (.int x5), .val (.ref b311), .val (.int a_), .val (.int b_), .val (.int n_), .val (.ref rp), .unset] []))
           refine own_st (fun t_ => XS.iconst (own_here Y407) hx rfl (hb hby at_264) ) ?_
           show own_Ends _ _ _ _ (T406.setTop (mkF m 265 #[.val (.long x0), .second, .val (.int x1), .val (.int x2), .val (.long x3), .second, .val (.int x4), .val (.int x5), .val (.ref b311), .val (.int a_), .val (.int b_), .val (.int n_), .val (.ref rp), .unset] [(.int (0 : Int32))]))
           have hd : (decide (nn ≤ e0 - s0)) = true := by have := c135_369; rw [own_lt, own_sub he hs, hnn] at this; simp only [decide_eq_true_eq]; omega
           exact hJ361 T406   ((0 : Int32)) Y407  (by rw [hd]; simp [own_b, own_b_0] at c150_375 c165_381 c180_387 c195_393 c210_399 c225_405 c241_411; simp [own_b, c150_375, c165_381, c180_387, c195_393, c210_399, c225_405, c241_411])
          ·
           refine own_st (fun t_ => XS.ifNo (own_here Y407) hx rfl (hb hby at_241) rfl (XT.i0_eq_f c241_411)) ?_
           show own_Ends _ _ _ _ (T406.setTop (mkF m 244 #[.val (.long x0), .second, .val (.int x1), .val (.int x2), .val (.long x3), .second, .val (.int x4), .val (.int x5), .val (.ref b311), .val (.int a_), .val (.int b_), .val (.int n_), .val (.ref rp), .unset] []))
           refine own_st (fun t_ => XS.aload (own_here Y407) hx rfl (hb hby at_244) rfl rfl) ?_
           show own_Ends _ _ _ _ (T406.setTop (mkF m 246 #[.val (.long x0), .second, .val (.int x1), .val (.int x2), .val (.long x3), .second, .val (.int x4), .val (.int x5), .val (.ref b311), .val (.int a_), .val (.int b_), .val (.int n_), .val (.ref rp), .unset] [(.ref b311)]))
           refine own_st (fun t_ => XS.iload (own_here Y407) hx rfl (hb hby at_246) rfl) ?_
           show own_Ends _ _ _ _ (T406.setTop (mkF m 248 #[.val (.long x0), .second, .val (.int x1), .val (.int x2), .val (.long x3), .second, .val (.int x4), .val (.int x5), .val (.ref b311), .val (.int a_), .val (.int b_), .val (.int n_), .val (.ref rp), .unset] [(.int a_), (.ref b311)]))
           refine own_st (fun t_ => XS.aload (own_here Y407) hx rfl (hb hby at_248) rfl rfl) ?_
           show own_Ends _ _ _ _ (T406.setTop (mkF m 250 #[.val (.long x0), .second, .val (.int x1), .val (.int x2), .val (.long x3), .second, .val (.int x4), .val (.int x5), .val (.ref b311), .val (.int a_), .val (.int b_), .val (.int n_), .val (.ref rp), .unset] [(.ref rp), (.int a_), (.ref b311)]))
           refine own_st (fun t_ => XS.iload (own_here Y407) hx rfl (hb hby at_250) rfl) ?_
           show own_Ends _ _ _ _ (T406.setTop (mkF m 252 #[.val (.long x0), .second, .val (.int x1), .val (.int x2), .val (.long x3), .second, .val (.int x4), .val (.int x5), .val (.ref b311), .val (.int a_), .val (.int b_), .val (.int n_), .val (.ref rp), .unset] [(.int n_), (.ref rp), (.int a_), (.ref b311)]))
           refine own_st (fun t_ => XS.bipush (own_here Y407) hx rfl (hb hby at_252) ) ?_
           show own_Ends _ _ _ _ (T406.setTop (mkF m 254 #[.val (.long x0), .second, .val (.int x1), .val (.int x2), .val (.long x3), .second, .val (.int x4), .val (.int x5), .val (.ref b311), .val (.int a_), .val (.int b_), .val (.int n_), .val (.ref rp), .unset] [(.int (7 : Int32)), (.int n_), (.ref rp), (.int a_), (.ref b311)]))
           refine own_callS Y407 hx hZ (y := (⟨"com/example/tagwire/tagwire/wire/BytesStartsWithPinLaw", "m", "([BI[BII)Z"⟩ : MethodName)) hown (hw _ (List.mem_of_getElem? (i := 10) rfl)) (hw _ (List.mem_of_getElem? (i := 11) rfl)) (hw _ (List.mem_of_getElem? (i := 4) rfl)) (hw _ (List.mem_of_getElem? (i := 12) rfl)) (by decide) (argsL := [(.ref b311), (.int a_), (.ref rp), (.int n_), (.int (7 : Int32))]) (rest := []) (own_rm3 l Z a0 hw [] b311 a_ rp n_ (7 : Int32) [(((x0.toInt32).toInt8.toInt32).toInt8.toInt32), (((((x0.toUInt64 >>> ((8 : Int32) &&& 0x3f).toInt64.toUInt64).toInt64).toInt32).toInt8.toInt32).toInt8.toInt32), (((((x0.toUInt64 >>> ((16 : Int32) &&& 0x3f).toInt64.toUInt64).toInt64).toInt32).toInt8.toInt32).toInt8.toInt32), (((((x0.toUInt64 >>> ((24 : Int32) &&& 0x3f).toInt64.toUInt64).toInt64).toInt32).toInt8.toInt32).toInt8.toInt32), (((((x0.toUInt64 >>> ((32 : Int32) &&& 0x3f).toInt64.toUInt64).toInt64).toInt32).toInt8.toInt32).toInt8.toInt32), (((((x0.toUInt64 >>> ((40 : Int32) &&& 0x3f).toInt64.toUInt64).toInt64).toInt32).toInt8.toInt32).toInt8.toInt32), (((((x0.toUInt64 >>> ((48 : Int32) &&& 0x3f).toInt64.toUInt64).toInt64).toInt32).toInt8.toInt32).toInt8.toInt32), (((((x0.toUInt64 >>> ((56 : Int32) &&& 0x3f).toInt64.toUInt64).toInt64).toInt32).toInt8.toInt32).toInt8.toInt32)] ys s0 nn 7 h357 n0  f359 f360 hs hnn rfl hyl (by have : [(((x0.toInt32).toInt8.toInt32).toInt8.toInt32), (((((x0.toUInt64 >>> ((8 : Int32) &&& 0x3f).toInt64.toUInt64).toInt64).toInt32).toInt8.toInt32).toInt8.toInt32), (((((x0.toUInt64 >>> ((16 : Int32) &&& 0x3f).toInt64.toUInt64).toInt64).toInt32).toInt8.toInt32).toInt8.toInt32), (((((x0.toUInt64 >>> ((24 : Int32) &&& 0x3f).toInt64.toUInt64).toInt64).toInt32).toInt8.toInt32).toInt8.toInt32), (((((x0.toUInt64 >>> ((32 : Int32) &&& 0x3f).toInt64.toUInt64).toInt64).toInt32).toInt8.toInt32).toInt8.toInt32), (((((x0.toUInt64 >>> ((40 : Int32) &&& 0x3f).toInt64.toUInt64).toInt64).toInt32).toInt8.toInt32).toInt8.toInt32), (((((x0.toUInt64 >>> ((48 : Int32) &&& 0x3f).toInt64.toUInt64).toInt64).toInt32).toInt8.toInt32).toInt8.toInt32), (((((x0.toUInt64 >>> ((56 : Int32) &&& 0x3f).toInt64.toUInt64).toInt64).toInt32).toInt8.toInt32).toInt8.toInt32)].length = 8 := rfl; omega) (by omega)) (W := 0) (by decide) (by decide) (by decide) (by decide) rfl (by rw [hml]; rfl) (lenOf own_pd1 rfl) rfl (by show 2 * 0 + _ ≤ _; exact Nat.le_of_eq rfl) (hb hby at_254) (fun T412 h414 v415 Y413 q416 => ?_)
           obtain ⟨rfl, rfl⟩ := q416
           show own_Ends _ _ _ _ (T412.setTop (mkF m 257 #[.val (.long x0), .second, .val (.int x1), .val (.int x2), .val (.long x3), .second, .val (.int x4), .val (.int x5), .val (.ref b311), .val (.int a_), .val (.int b_), .val (.int n_), .val (.ref rp), .unset] [(.int (own_b (own_m [(((x0.toInt32).toInt8.toInt32).toInt8.toInt32), (((((x0.toUInt64 >>> ((8 : Int32) &&& 0x3f).toInt64.toUInt64).toInt64).toInt32).toInt8.toInt32).toInt8.toInt32), (((((x0.toUInt64 >>> ((16 : Int32) &&& 0x3f).toInt64.toUInt64).toInt64).toInt32).toInt8.toInt32).toInt8.toInt32), (((((x0.toUInt64 >>> ((24 : Int32) &&& 0x3f).toInt64.toUInt64).toInt64).toInt32).toInt8.toInt32).toInt8.toInt32), (((((x0.toUInt64 >>> ((32 : Int32) &&& 0x3f).toInt64.toUInt64).toInt64).toInt32).toInt8.toInt32).toInt8.toInt32), (((((x0.toUInt64 >>> ((40 : Int32) &&& 0x3f).toInt64.toUInt64).toInt64).toInt32).toInt8.toInt32).toInt8.toInt32), (((((x0.toUInt64 >>> ((48 : Int32) &&& 0x3f).toInt64.toUInt64).toInt64).toInt32).toInt8.toInt32).toInt8.toInt32), (((((x0.toUInt64 >>> ((56 : Int32) &&& 0x3f).toInt64.toUInt64).toInt64).toInt32).toInt8.toInt32).toInt8.toInt32)] ys s0 nn 7)))]))
           by_cases c257_417 : (own_b (own_m [(((x0.toInt32).toInt8.toInt32).toInt8.toInt32), (((((x0.toUInt64 >>> ((8 : Int32) &&& 0x3f).toInt64.toUInt64).toInt64).toInt32).toInt8.toInt32).toInt8.toInt32), (((((x0.toUInt64 >>> ((16 : Int32) &&& 0x3f).toInt64.toUInt64).toInt64).toInt32).toInt8.toInt32).toInt8.toInt32), (((((x0.toUInt64 >>> ((24 : Int32) &&& 0x3f).toInt64.toUInt64).toInt64).toInt32).toInt8.toInt32).toInt8.toInt32), (((((x0.toUInt64 >>> ((32 : Int32) &&& 0x3f).toInt64.toUInt64).toInt64).toInt32).toInt8.toInt32).toInt8.toInt32), (((((x0.toUInt64 >>> ((40 : Int32) &&& 0x3f).toInt64.toUInt64).toInt64).toInt32).toInt8.toInt32).toInt8.toInt32), (((((x0.toUInt64 >>> ((48 : Int32) &&& 0x3f).toInt64.toUInt64).toInt64).toInt32).toInt8.toInt32).toInt8.toInt32), (((((x0.toUInt64 >>> ((56 : Int32) &&& 0x3f).toInt64.toUInt64).toInt64).toInt32).toInt8.toInt32).toInt8.toInt32)] ys s0 nn 7)) = (0 : Int32)
           ·
            refine own_st (fun t_ => XS.ifYes (own_here Y413) hx rfl (pc0 := 257) (pc' := 264) rfl (hb hby at_257) rfl (XT.i0_eq_t c257_417) (by decide) (by decide)) ?_
            show own_Ends _ _ _ _ (T412.setTop (mkF m 264 #[.val (.long x0), .second, .val (.int x1), .val (.int x2), .val (.long x3), .second, .val (.int x4), .val (.int x5), .val (.ref b311), .val (.int a_), .val (.int b_), .val (.int n_), .val (.ref rp), .unset] []))
            refine own_st (fun t_ => XS.iconst (own_here Y413) hx rfl (hb hby at_264) ) ?_
            show own_Ends _ _ _ _ (T412.setTop (mkF m 265 #[.val (.long x0), .second, .val (.int x1), .val (.int x2), .val (.long x3), .second, .val (.int x4), .val (.int x5), .val (.ref b311), .val (.int a_), .val (.int b_), .val (.int n_), .val (.ref rp), .unset] [(.int (0 : Int32))]))
            have hd : (decide (nn ≤ e0 - s0)) = true := by have := c135_369; rw [own_lt, own_sub he hs, hnn] at this; simp only [decide_eq_true_eq]; omega
            exact hJ361 T412   ((0 : Int32)) Y413  (by rw [hd]; simp [own_b, own_b_0] at c150_375 c165_381 c180_387 c195_393 c210_399 c225_405 c241_411 c257_417; simp [own_b, c150_375, c165_381, c180_387, c195_393, c210_399, c225_405, c241_411, c257_417])
           ·
            refine own_st (fun t_ => XS.ifNo (own_here Y413) hx rfl (hb hby at_257) rfl (XT.i0_eq_f c257_417)) ?_
            show own_Ends _ _ _ _ (T412.setTop (mkF m 260 #[.val (.long x0), .second, .val (.int x1), .val (.int x2), .val (.long x3), .second, .val (.int x4), .val (.int x5), .val (.ref b311), .val (.int a_), .val (.int b_), .val (.int n_), .val (.ref rp), .unset] []))
            refine own_st (fun t_ => XS.iconst (own_here Y413) hx rfl (hb hby at_260) ) ?_
            show own_Ends _ _ _ _ (T412.setTop (mkF m 261 #[.val (.long x0), .second, .val (.int x1), .val (.int x2), .val (.long x3), .second, .val (.int x4), .val (.int x5), .val (.ref b311), .val (.int a_), .val (.int b_), .val (.int n_), .val (.ref rp), .unset] [(.int (1 : Int32))]))
            refine own_st (fun t_ => XS.goto (own_here Y413) hx rfl (pc0 := 261) (pc' := 265) rfl (hb hby at_261) (by decide) (by decide)) ?_
            show own_Ends _ _ _ _ (T412.setTop (mkF m 265 #[.val (.long x0), .second, .val (.int x1), .val (.int x2), .val (.long x3), .second, .val (.int x4), .val (.int x5), .val (.ref b311), .val (.int a_), .val (.int b_), .val (.int n_), .val (.ref rp), .unset] [(.int (1 : Int32))]))
            have hd : (decide (nn ≤ e0 - s0)) = true := by have := c135_369; rw [own_lt, own_sub he hs, hnn] at this; simp only [decide_eq_true_eq]; omega
            exact hJ361 T412   ((1 : Int32)) Y413  (by rw [hd]; simp [own_b, own_b_0] at c150_375 c165_381 c180_387 c195_393 c210_399 c225_405 c241_411 c257_417; simp [own_b, c150_375, c165_381, c180_387, c195_393, c210_399, c225_405, c241_411, c257_417])
  rcases hc9 with rfl | rfl | rfl | rfl | rfl | rfl | rfl | rfl | rfl
  ·
   show own_Ends _ _ _ _ (T349.setTop (mkF m 119 #[.val (.long x0), .second, .val (.int x1), .val (.int x2), .val (.long x3), .second, .val (.int x4), .val (.int x5), .val (.ref b311), .val (.int a_), .val (.int b_), .val (.int (0 : Int32)), .unset, .unset] []))
   refine own_st (fun t_ => XS.lload (own_here Y350) hx rfl (hb hby at_119) rfl) ?_
   show own_Ends _ _ _ _ (T349.setTop (mkF m 121 #[.val (.long x0), .second, .val (.int x1), .val (.int x2), .val (.long x3), .second, .val (.int x4), .val (.int x5), .val (.ref b311), .val (.int a_), .val (.int b_), .val (.int (0 : Int32)), .unset, .unset] [(.long x3)]))
   refine own_st (fun t_ => XS.iload (own_here Y350) hx rfl (hb hby at_121) rfl) ?_
   show own_Ends _ _ _ _ (T349.setTop (mkF m 123 #[.val (.long x0), .second, .val (.int x1), .val (.int x2), .val (.long x3), .second, .val (.int x4), .val (.int x5), .val (.ref b311), .val (.int a_), .val (.int b_), .val (.int (0 : Int32)), .unset, .unset] [(.int (0 : Int32)), (.long x3)]))
   have z418 : n0 ≤ h308.size := Nat.le_trans Z0 E309.1
   have z419 : n0 ≤ h316.size := Nat.le_trans z418 (Nat.le_of_eq W317.size.symm)
   have z420 : n0 ≤ h321.size := Nat.le_trans z419 (Nat.le_of_eq W322.size.symm)
   have z421 : n0 ≤ h326.size := Nat.le_trans z420 (Nat.le_of_eq W327.size.symm)
   have z422 : n0 ≤ h331.size := Nat.le_trans z421 (Nat.le_of_eq W332.size.symm)
   have z423 : n0 ≤ h336.size := Nat.le_trans z422 (Nat.le_of_eq W337.size.symm)
   have z424 : n0 ≤ h341.size := Nat.le_trans z423 (Nat.le_of_eq W342.size.symm)
   have z425 : n0 ≤ h346.size := Nat.le_trans z424 (Nat.le_of_eq W347.size.symm)
   have z426 : n0 ≤ h351.size := Nat.le_trans z425 (Nat.le_of_eq W352.size.symm)
   refine own_callS Y350 hx hZ (y := (⟨"com/example/tagwire/tagwire/wire/BytesStartsWithPinLaw", "prefixOf", "(JI)[B"⟩ : MethodName)) hown (hw _ (List.mem_of_getElem? (i := 2) rfl)) (hw _ (List.mem_of_getElem? (i := 3) rfl)) (hw _ (List.mem_of_getElem? (i := 4) rfl)) (hw _ (List.mem_of_getElem? (i := 5) rfl)) (by decide) (argsL := [(.long x3), (.int (0 : Int32))]) (rest := []) (own_rm1_0 l Z a0 hw [] x3  h351 n0 z426 ) (W := 0) (by decide) (by decide) (by decide) (by decide) rfl (by rw [hml]; rfl) (lenOf own_pd2 rfl) rfl (by show 2 * 0 + _ ≤ _; exact Nat.le_of_eq rfl) (hb hby at_123) (fun T427 h429 v430 Y428 q431 => ?_)
   obtain ⟨b432, rfl, K433, A434⟩ := q431
   show own_Ends _ _ _ _ (T427.setTop (mkF m 126 #[.val (.long x0), .second, .val (.int x1), .val (.int x2), .val (.long x3), .second, .val (.int x4), .val (.int x5), .val (.ref b311), .val (.int a_), .val (.int b_), .val (.int (0 : Int32)), .unset, .unset] [(.ref b432)]))
   refine own_st (fun t_ => XS.astore (own_here Y428) hx rfl (hb hby at_126) rfl rfl (l' := #[.val (.long x0), .second, .val (.int x1), .val (.int x2), .val (.long x3), .second, .val (.int x4), .val (.int x5), .val (.ref b311), .val (.int a_), .val (.int b_), .val (.int (0 : Int32)), .val (.ref b432), .unset]) rfl) ?_
   show own_Ends _ _ _ _ (T427.setTop (mkF m 128 #[.val (.long x0), .second, .val (.int x1), .val (.int x2), .val (.long x3), .second, .val (.int x4), .val (.int x5), .val (.ref b311), .val (.int a_), .val (.int b_), .val (.int (0 : Int32)), .val (.ref b432), .unset] []))
   have z435 : n0 ≤ h429.size := Nat.le_trans z426 K433.1
   have f436 : own_A Z h429 b311 .byte [(.int (((x0.toInt32).toInt8.toInt32).toInt8.toInt32)), (.int (((((x0.toUInt64 >>> ((8 : Int32) &&& 0x3f).toInt64.toUInt64).toInt64).toInt32).toInt8.toInt32).toInt8.toInt32)), (.int (((((x0.toUInt64 >>> ((16 : Int32) &&& 0x3f).toInt64.toUInt64).toInt64).toInt32).toInt8.toInt32).toInt8.toInt32)), (.int (((((x0.toUInt64 >>> ((24 : Int32) &&& 0x3f).toInt64.toUInt64).toInt64).toInt32).toInt8.toInt32).toInt8.toInt32)), (.int (((((x0.toUInt64 >>> ((32 : Int32) &&& 0x3f).toInt64.toUInt64).toInt64).toInt32).toInt8.toInt32).toInt8.toInt32)), (.int (((((x0.toUInt64 >>> ((40 : Int32) &&& 0x3f).toInt64.toUInt64).toInt64).toInt32).toInt8.toInt32).toInt8.toInt32)), (.int (((((x0.toUInt64 >>> ((48 : Int32) &&& 0x3f).toInt64.toUInt64).toInt64).toInt32).toInt8.toInt32).toInt8.toInt32)), (.int (((((x0.toUInt64 >>> ((56 : Int32) &&& 0x3f).toInt64.toUInt64).toInt64).toInt32).toInt8.toInt32).toInt8.toInt32))] := A353.keep K433 nin0
   exact hJ354 T427 h429  ((0 : Int32)) (0) (b432) (([] : List Int32)) (own_mono Y428 (by decide) (by decide)) z435 f436 A434 rfl (by decide) rfl
  ·
   show own_Ends _ _ _ _ (T349.setTop (mkF m 119 #[.val (.long x0), .second, .val (.int x1), .val (.int x2), .val (.long x3), .second, .val (.int x4), .val (.int x5), .val (.ref b311), .val (.int a_), .val (.int b_), .val (.int (1 : Int32)), .unset, .unset] []))
   refine own_st (fun t_ => XS.lload (own_here Y350) hx rfl (hb hby at_119) rfl) ?_
   show own_Ends _ _ _ _ (T349.setTop (mkF m 121 #[.val (.long x0), .second, .val (.int x1), .val (.int x2), .val (.long x3), .second, .val (.int x4), .val (.int x5), .val (.ref b311), .val (.int a_), .val (.int b_), .val (.int (1 : Int32)), .unset, .unset] [(.long x3)]))
   refine own_st (fun t_ => XS.iload (own_here Y350) hx rfl (hb hby at_121) rfl) ?_
   show own_Ends _ _ _ _ (T349.setTop (mkF m 123 #[.val (.long x0), .second, .val (.int x1), .val (.int x2), .val (.long x3), .second, .val (.int x4), .val (.int x5), .val (.ref b311), .val (.int a_), .val (.int b_), .val (.int (1 : Int32)), .unset, .unset] [(.int (1 : Int32)), (.long x3)]))
   have z437 : n0 ≤ h308.size := Nat.le_trans Z0 E309.1
   have z438 : n0 ≤ h316.size := Nat.le_trans z437 (Nat.le_of_eq W317.size.symm)
   have z439 : n0 ≤ h321.size := Nat.le_trans z438 (Nat.le_of_eq W322.size.symm)
   have z440 : n0 ≤ h326.size := Nat.le_trans z439 (Nat.le_of_eq W327.size.symm)
   have z441 : n0 ≤ h331.size := Nat.le_trans z440 (Nat.le_of_eq W332.size.symm)
   have z442 : n0 ≤ h336.size := Nat.le_trans z441 (Nat.le_of_eq W337.size.symm)
   have z443 : n0 ≤ h341.size := Nat.le_trans z442 (Nat.le_of_eq W342.size.symm)
   have z444 : n0 ≤ h346.size := Nat.le_trans z443 (Nat.le_of_eq W347.size.symm)
   have z445 : n0 ≤ h351.size := Nat.le_trans z444 (Nat.le_of_eq W352.size.symm)
   refine own_callS Y350 hx hZ (y := (⟨"com/example/tagwire/tagwire/wire/BytesStartsWithPinLaw", "prefixOf", "(JI)[B"⟩ : MethodName)) hown (hw _ (List.mem_of_getElem? (i := 2) rfl)) (hw _ (List.mem_of_getElem? (i := 3) rfl)) (hw _ (List.mem_of_getElem? (i := 4) rfl)) (hw _ (List.mem_of_getElem? (i := 5) rfl)) (by decide) (argsL := [(.long x3), (.int (1 : Int32))]) (rest := []) (own_rm1_1 l Z a0 hw [] x3  h351 n0 z445 ) (W := 0) (by decide) (by decide) (by decide) (by decide) rfl (by rw [hml]; rfl) (lenOf own_pd2 rfl) rfl (by show 2 * 0 + _ ≤ _; exact Nat.le_of_eq rfl) (hb hby at_123) (fun T446 h448 v449 Y447 q450 => ?_)
   obtain ⟨b451, rfl, K452, A453⟩ := q450
   show own_Ends _ _ _ _ (T446.setTop (mkF m 126 #[.val (.long x0), .second, .val (.int x1), .val (.int x2), .val (.long x3), .second, .val (.int x4), .val (.int x5), .val (.ref b311), .val (.int a_), .val (.int b_), .val (.int (1 : Int32)), .unset, .unset] [(.ref b451)]))
   refine own_st (fun t_ => XS.astore (own_here Y447) hx rfl (hb hby at_126) rfl rfl (l' := #[.val (.long x0), .second, .val (.int x1), .val (.int x2), .val (.long x3), .second, .val (.int x4), .val (.int x5), .val (.ref b311), .val (.int a_), .val (.int b_), .val (.int (1 : Int32)), .val (.ref b451), .unset]) rfl) ?_
   show own_Ends _ _ _ _ (T446.setTop (mkF m 128 #[.val (.long x0), .second, .val (.int x1), .val (.int x2), .val (.long x3), .second, .val (.int x4), .val (.int x5), .val (.ref b311), .val (.int a_), .val (.int b_), .val (.int (1 : Int32)), .val (.ref b451), .unset] []))
   have z454 : n0 ≤ h448.size := Nat.le_trans z445 K452.1
   have f455 : own_A Z h448 b311 .byte [(.int (((x0.toInt32).toInt8.toInt32).toInt8.toInt32)), (.int (((((x0.toUInt64 >>> ((8 : Int32) &&& 0x3f).toInt64.toUInt64).toInt64).toInt32).toInt8.toInt32).toInt8.toInt32)), (.int (((((x0.toUInt64 >>> ((16 : Int32) &&& 0x3f).toInt64.toUInt64).toInt64).toInt32).toInt8.toInt32).toInt8.toInt32)), (.int (((((x0.toUInt64 >>> ((24 : Int32) &&& 0x3f).toInt64.toUInt64).toInt64).toInt32).toInt8.toInt32).toInt8.toInt32)), (.int (((((x0.toUInt64 >>> ((32 : Int32) &&& 0x3f).toInt64.toUInt64).toInt64).toInt32).toInt8.toInt32).toInt8.toInt32)), (.int (((((x0.toUInt64 >>> ((40 : Int32) &&& 0x3f).toInt64.toUInt64).toInt64).toInt32).toInt8.toInt32).toInt8.toInt32)), (.int (((((x0.toUInt64 >>> ((48 : Int32) &&& 0x3f).toInt64.toUInt64).toInt64).toInt32).toInt8.toInt32).toInt8.toInt32)), (.int (((((x0.toUInt64 >>> ((56 : Int32) &&& 0x3f).toInt64.toUInt64).toInt64).toInt32).toInt8.toInt32).toInt8.toInt32))] := A353.keep K452 nin0
   exact hJ354 T446 h448  ((1 : Int32)) (1) (b451) (([(x3.toInt32.toInt8.toInt32)] : List Int32)) (own_mono Y447 (by decide) (by decide)) z454 f455 A453 rfl (by decide) rfl
  ·
   show own_Ends _ _ _ _ (T349.setTop (mkF m 119 #[.val (.long x0), .second, .val (.int x1), .val (.int x2), .val (.long x3), .second, .val (.int x4), .val (.int x5), .val (.ref b311), .val (.int a_), .val (.int b_), .val (.int (2 : Int32)), .unset, .unset] []))
   refine own_st (fun t_ => XS.lload (own_here Y350) hx rfl (hb hby at_119) rfl) ?_
   show own_Ends _ _ _ _ (T349.setTop (mkF m 121 #[.val (.long x0), .second, .val (.int x1), .val (.int x2), .val (.long x3), .second, .val (.int x4), .val (.int x5), .val (.ref b311), .val (.int a_), .val (.int b_), .val (.int (2 : Int32)), .unset, .unset] [(.long x3)]))
   refine own_st (fun t_ => XS.iload (own_here Y350) hx rfl (hb hby at_121) rfl) ?_
   show own_Ends _ _ _ _ (T349.setTop (mkF m 123 #[.val (.long x0), .second, .val (.int x1), .val (.int x2), .val (.long x3), .second, .val (.int x4), .val (.int x5), .val (.ref b311), .val (.int a_), .val (.int b_), .val (.int (2 : Int32)), .unset, .unset] [(.int (2 : Int32)), (.long x3)]))
   have z456 : n0 ≤ h308.size := Nat.le_trans Z0 E309.1
   have z457 : n0 ≤ h316.size := Nat.le_trans z456 (Nat.le_of_eq W317.size.symm)
   have z458 : n0 ≤ h321.size := Nat.le_trans z457 (Nat.le_of_eq W322.size.symm)
   have z459 : n0 ≤ h326.size := Nat.le_trans z458 (Nat.le_of_eq W327.size.symm)
   have z460 : n0 ≤ h331.size := Nat.le_trans z459 (Nat.le_of_eq W332.size.symm)
   have z461 : n0 ≤ h336.size := Nat.le_trans z460 (Nat.le_of_eq W337.size.symm)
   have z462 : n0 ≤ h341.size := Nat.le_trans z461 (Nat.le_of_eq W342.size.symm)
   have z463 : n0 ≤ h346.size := Nat.le_trans z462 (Nat.le_of_eq W347.size.symm)
   have z464 : n0 ≤ h351.size := Nat.le_trans z463 (Nat.le_of_eq W352.size.symm)
   refine own_callS Y350 hx hZ (y := (⟨"com/example/tagwire/tagwire/wire/BytesStartsWithPinLaw", "prefixOf", "(JI)[B"⟩ : MethodName)) hown (hw _ (List.mem_of_getElem? (i := 2) rfl)) (hw _ (List.mem_of_getElem? (i := 3) rfl)) (hw _ (List.mem_of_getElem? (i := 4) rfl)) (hw _ (List.mem_of_getElem? (i := 5) rfl)) (by decide) (argsL := [(.long x3), (.int (2 : Int32))]) (rest := []) (own_rm1_2 l Z a0 hw [] x3  h351 n0 z464 ) (W := 0) (by decide) (by decide) (by decide) (by decide) rfl (by rw [hml]; rfl) (lenOf own_pd2 rfl) rfl (by show 2 * 0 + _ ≤ _; exact Nat.le_of_eq rfl) (hb hby at_123) (fun T465 h467 v468 Y466 q469 => ?_)
   obtain ⟨b470, rfl, K471, A472⟩ := q469
   show own_Ends _ _ _ _ (T465.setTop (mkF m 126 #[.val (.long x0), .second, .val (.int x1), .val (.int x2), .val (.long x3), .second, .val (.int x4), .val (.int x5), .val (.ref b311), .val (.int a_), .val (.int b_), .val (.int (2 : Int32)), .unset, .unset] [(.ref b470)]))
   refine own_st (fun t_ => XS.astore (own_here Y466) hx rfl (hb hby at_126) rfl rfl (l' := #[.val (.long x0), .second, .val (.int x1), .val (.int x2), .val (.long x3), .second, .val (.int x4), .val (.int x5), .val (.ref b311), .val (.int a_), .val (.int b_), .val (.int (2 : Int32)), .val (.ref b470), .unset]) rfl) ?_
   show own_Ends _ _ _ _ (T465.setTop (mkF m 128 #[.val (.long x0), .second, .val (.int x1), .val (.int x2), .val (.long x3), .second, .val (.int x4), .val (.int x5), .val (.ref b311), .val (.int a_), .val (.int b_), .val (.int (2 : Int32)), .val (.ref b470), .unset] []))
   have z473 : n0 ≤ h467.size := Nat.le_trans z464 K471.1
   have f474 : own_A Z h467 b311 .byte [(.int (((x0.toInt32).toInt8.toInt32).toInt8.toInt32)), (.int (((((x0.toUInt64 >>> ((8 : Int32) &&& 0x3f).toInt64.toUInt64).toInt64).toInt32).toInt8.toInt32).toInt8.toInt32)), (.int (((((x0.toUInt64 >>> ((16 : Int32) &&& 0x3f).toInt64.toUInt64).toInt64).toInt32).toInt8.toInt32).toInt8.toInt32)), (.int (((((x0.toUInt64 >>> ((24 : Int32) &&& 0x3f).toInt64.toUInt64).toInt64).toInt32).toInt8.toInt32).toInt8.toInt32)), (.int (((((x0.toUInt64 >>> ((32 : Int32) &&& 0x3f).toInt64.toUInt64).toInt64).toInt32).toInt8.toInt32).toInt8.toInt32)), (.int (((((x0.toUInt64 >>> ((40 : Int32) &&& 0x3f).toInt64.toUInt64).toInt64).toInt32).toInt8.toInt32).toInt8.toInt32)), (.int (((((x0.toUInt64 >>> ((48 : Int32) &&& 0x3f).toInt64.toUInt64).toInt64).toInt32).toInt8.toInt32).toInt8.toInt32)), (.int (((((x0.toUInt64 >>> ((56 : Int32) &&& 0x3f).toInt64.toUInt64).toInt64).toInt32).toInt8.toInt32).toInt8.toInt32))] := A353.keep K471 nin0
   exact hJ354 T465 h467  ((2 : Int32)) (2) (b470) (([(x3.toInt32.toInt8.toInt32), (((x3.toUInt64 >>> ((8 : Int32) &&& 0x3f).toInt64.toUInt64).toInt64).toInt32.toInt8.toInt32)] : List Int32)) (own_mono Y466 (by decide) (by decide)) z473 f474 A472 rfl (by decide) rfl
  ·
   show own_Ends _ _ _ _ (T349.setTop (mkF m 119 #[.val (.long x0), .second, .val (.int x1), .val (.int x2), .val (.long x3), .second, .val (.int x4), .val (.int x5), .val (.ref b311), .val (.int a_), .val (.int b_), .val (.int (3 : Int32)), .unset, .unset] []))
   refine own_st (fun t_ => XS.lload (own_here Y350) hx rfl (hb hby at_119) rfl) ?_
   show own_Ends _ _ _ _ (T349.setTop (mkF m 121 #[.val (.long x0), .second, .val (.int x1), .val (.int x2), .val (.long x3), .second, .val (.int x4), .val (.int x5), .val (.ref b311), .val (.int a_), .val (.int b_), .val (.int (3 : Int32)), .unset, .unset] [(.long x3)]))
   refine own_st (fun t_ => XS.iload (own_here Y350) hx rfl (hb hby at_121) rfl) ?_
   show own_Ends _ _ _ _ (T349.setTop (mkF m 123 #[.val (.long x0), .second, .val (.int x1), .val (.int x2), .val (.long x3), .second, .val (.int x4), .val (.int x5), .val (.ref b311), .val (.int a_), .val (.int b_), .val (.int (3 : Int32)), .unset, .unset] [(.int (3 : Int32)), (.long x3)]))
   have z475 : n0 ≤ h308.size := Nat.le_trans Z0 E309.1
   have z476 : n0 ≤ h316.size := Nat.le_trans z475 (Nat.le_of_eq W317.size.symm)
   have z477 : n0 ≤ h321.size := Nat.le_trans z476 (Nat.le_of_eq W322.size.symm)
   have z478 : n0 ≤ h326.size := Nat.le_trans z477 (Nat.le_of_eq W327.size.symm)
   have z479 : n0 ≤ h331.size := Nat.le_trans z478 (Nat.le_of_eq W332.size.symm)
   have z480 : n0 ≤ h336.size := Nat.le_trans z479 (Nat.le_of_eq W337.size.symm)
   have z481 : n0 ≤ h341.size := Nat.le_trans z480 (Nat.le_of_eq W342.size.symm)
   have z482 : n0 ≤ h346.size := Nat.le_trans z481 (Nat.le_of_eq W347.size.symm)
   have z483 : n0 ≤ h351.size := Nat.le_trans z482 (Nat.le_of_eq W352.size.symm)
   refine own_callS Y350 hx hZ (y := (⟨"com/example/tagwire/tagwire/wire/BytesStartsWithPinLaw", "prefixOf", "(JI)[B"⟩ : MethodName)) hown (hw _ (List.mem_of_getElem? (i := 2) rfl)) (hw _ (List.mem_of_getElem? (i := 3) rfl)) (hw _ (List.mem_of_getElem? (i := 4) rfl)) (hw _ (List.mem_of_getElem? (i := 5) rfl)) (by decide) (argsL := [(.long x3), (.int (3 : Int32))]) (rest := []) (own_rm1_3 l Z a0 hw [] x3  h351 n0 z483 ) (W := 0) (by decide) (by decide) (by decide) (by decide) rfl (by rw [hml]; rfl) (lenOf own_pd2 rfl) rfl (by show 2 * 0 + _ ≤ _; exact Nat.le_of_eq rfl) (hb hby at_123) (fun T484 h486 v487 Y485 q488 => ?_)
   obtain ⟨b489, rfl, K490, A491⟩ := q488
   show own_Ends _ _ _ _ (T484.setTop (mkF m 126 #[.val (.long x0), .second, .val (.int x1), .val (.int x2), .val (.long x3), .second, .val (.int x4), .val (.int x5), .val (.ref b311), .val (.int a_), .val (.int b_), .val (.int (3 : Int32)), .unset, .unset] [(.ref b489)]))
   refine own_st (fun t_ => XS.astore (own_here Y485) hx rfl (hb hby at_126) rfl rfl (l' := #[.val (.long x0), .second, .val (.int x1), .val (.int x2), .val (.long x3), .second, .val (.int x4), .val (.int x5), .val (.ref b311), .val (.int a_), .val (.int b_), .val (.int (3 : Int32)), .val (.ref b489), .unset]) rfl) ?_
   show own_Ends _ _ _ _ (T484.setTop (mkF m 128 #[.val (.long x0), .second, .val (.int x1), .val (.int x2), .val (.long x3), .second, .val (.int x4), .val (.int x5), .val (.ref b311), .val (.int a_), .val (.int b_), .val (.int (3 : Int32)), .val (.ref b489), .unset] []))
   have z492 : n0 ≤ h486.size := Nat.le_trans z483 K490.1
   have f493 : own_A Z h486 b311 .byte [(.int (((x0.toInt32).toInt8.toInt32).toInt8.toInt32)), (.int (((((x0.toUInt64 >>> ((8 : Int32) &&& 0x3f).toInt64.toUInt64).toInt64).toInt32).toInt8.toInt32).toInt8.toInt32)), (.int (((((x0.toUInt64 >>> ((16 : Int32) &&& 0x3f).toInt64.toUInt64).toInt64).toInt32).toInt8.toInt32).toInt8.toInt32)), (.int (((((x0.toUInt64 >>> ((24 : Int32) &&& 0x3f).toInt64.toUInt64).toInt64).toInt32).toInt8.toInt32).toInt8.toInt32)), (.int (((((x0.toUInt64 >>> ((32 : Int32) &&& 0x3f).toInt64.toUInt64).toInt64).toInt32).toInt8.toInt32).toInt8.toInt32)), (.int (((((x0.toUInt64 >>> ((40 : Int32) &&& 0x3f).toInt64.toUInt64).toInt64).toInt32).toInt8.toInt32).toInt8.toInt32)), (.int (((((x0.toUInt64 >>> ((48 : Int32) &&& 0x3f).toInt64.toUInt64).toInt64).toInt32).toInt8.toInt32).toInt8.toInt32)), (.int (((((x0.toUInt64 >>> ((56 : Int32) &&& 0x3f).toInt64.toUInt64).toInt64).toInt32).toInt8.toInt32).toInt8.toInt32))] := A353.keep K490 nin0
   exact hJ354 T484 h486  ((3 : Int32)) (3) (b489) (([(x3.toInt32.toInt8.toInt32), (((x3.toUInt64 >>> ((8 : Int32) &&& 0x3f).toInt64.toUInt64).toInt64).toInt32.toInt8.toInt32), (((x3.toUInt64 >>> ((16 : Int32) &&& 0x3f).toInt64.toUInt64).toInt64).toInt32.toInt8.toInt32)] : List Int32)) (own_mono Y485 (by decide) (by decide)) z492 f493 A491 rfl (by decide) rfl
  ·
   show own_Ends _ _ _ _ (T349.setTop (mkF m 119 #[.val (.long x0), .second, .val (.int x1), .val (.int x2), .val (.long x3), .second, .val (.int x4), .val (.int x5), .val (.ref b311), .val (.int a_), .val (.int b_), .val (.int (4 : Int32)), .unset, .unset] []))
   refine own_st (fun t_ => XS.lload (own_here Y350) hx rfl (hb hby at_119) rfl) ?_
   show own_Ends _ _ _ _ (T349.setTop (mkF m 121 #[.val (.long x0), .second, .val (.int x1), .val (.int x2), .val (.long x3), .second, .val (.int x4), .val (.int x5), .val (.ref b311), .val (.int a_), .val (.int b_), .val (.int (4 : Int32)), .unset, .unset] [(.long x3)]))
   refine own_st (fun t_ => XS.iload (own_here Y350) hx rfl (hb hby at_121) rfl) ?_
   show own_Ends _ _ _ _ (T349.setTop (mkF m 123 #[.val (.long x0), .second, .val (.int x1), .val (.int x2), .val (.long x3), .second, .val (.int x4), .val (.int x5), .val (.ref b311), .val (.int a_), .val (.int b_), .val (.int (4 : Int32)), .unset, .unset] [(.int (4 : Int32)), (.long x3)]))
   have z494 : n0 ≤ h308.size := Nat.le_trans Z0 E309.1
   have z495 : n0 ≤ h316.size := Nat.le_trans z494 (Nat.le_of_eq W317.size.symm)
   have z496 : n0 ≤ h321.size := Nat.le_trans z495 (Nat.le_of_eq W322.size.symm)
   have z497 : n0 ≤ h326.size := Nat.le_trans z496 (Nat.le_of_eq W327.size.symm)
   have z498 : n0 ≤ h331.size := Nat.le_trans z497 (Nat.le_of_eq W332.size.symm)
   have z499 : n0 ≤ h336.size := Nat.le_trans z498 (Nat.le_of_eq W337.size.symm)
   have z500 : n0 ≤ h341.size := Nat.le_trans z499 (Nat.le_of_eq W342.size.symm)
   have z501 : n0 ≤ h346.size := Nat.le_trans z500 (Nat.le_of_eq W347.size.symm)
   have z502 : n0 ≤ h351.size := Nat.le_trans z501 (Nat.le_of_eq W352.size.symm)
   refine own_callS Y350 hx hZ (y := (⟨"com/example/tagwire/tagwire/wire/BytesStartsWithPinLaw", "prefixOf", "(JI)[B"⟩ : MethodName)) hown (hw _ (List.mem_of_getElem? (i := 2) rfl)) (hw _ (List.mem_of_getElem? (i := 3) rfl)) (hw _ (List.mem_of_getElem? (i := 4) rfl)) (hw _ (List.mem_of_getElem? (i := 5) rfl)) (by decide) (argsL := [(.long x3), (.int (4 : Int32))]) (rest := []) (own_rm1_4 l Z a0 hw [] x3  h351 n0 z502 ) (W := 0) (by decide) (by decide) (by decide) (by decide) rfl (by rw [hml]; rfl) (lenOf own_pd2 rfl) rfl (by show 2 * 0 + _ ≤ _; exact Nat.le_of_eq rfl) (hb hby at_123) (fun T503 h505 v506 Y504 q507 => ?_)
   obtain ⟨b508, rfl, K509, A510⟩ := q507
   show own_Ends _ _ _ _ (T503.setTop (mkF m 126 #[.val (.long x0), .second, .val (.int x1), .val (.int x2), .val (.long x3), .second, .val (.int x4), .val (.int x5), .val (.ref b311), .val (.int a_), .val (.int b_), .val (.int (4 : Int32)), .unset, .unset] [(.ref b508)]))
   refine own_st (fun t_ => XS.astore (own_here Y504) hx rfl (hb hby at_126) rfl rfl (l' := #[.val (.long x0), .second, .val (.int x1), .val (.int x2), .val (.long x3), .second, .val (.int x4), .val (.int x5), .val (.ref b311), .val (.int a_), .val (.int b_), .val (.int (4 : Int32)), .val (.ref b508), .unset]) rfl) ?_
   show own_Ends _ _ _ _ (T503.setTop (mkF m 128 #[.val (.long x0), .second, .val (.int x1), .val (.int x2), .val (.long x3), .second, .val (.int x4), .val (.int x5), .val (.ref b311), .val (.int a_), .val (.int b_), .val (.int (4 : Int32)), .val (.ref b508), .unset] []))
   have z511 : n0 ≤ h505.size := Nat.le_trans z502 K509.1
   have f512 : own_A Z h505 b311 .byte [(.int (((x0.toInt32).toInt8.toInt32).toInt8.toInt32)), (.int (((((x0.toUInt64 >>> ((8 : Int32) &&& 0x3f).toInt64.toUInt64).toInt64).toInt32).toInt8.toInt32).toInt8.toInt32)), (.int (((((x0.toUInt64 >>> ((16 : Int32) &&& 0x3f).toInt64.toUInt64).toInt64).toInt32).toInt8.toInt32).toInt8.toInt32)), (.int (((((x0.toUInt64 >>> ((24 : Int32) &&& 0x3f).toInt64.toUInt64).toInt64).toInt32).toInt8.toInt32).toInt8.toInt32)), (.int (((((x0.toUInt64 >>> ((32 : Int32) &&& 0x3f).toInt64.toUInt64).toInt64).toInt32).toInt8.toInt32).toInt8.toInt32)), (.int (((((x0.toUInt64 >>> ((40 : Int32) &&& 0x3f).toInt64.toUInt64).toInt64).toInt32).toInt8.toInt32).toInt8.toInt32)), (.int (((((x0.toUInt64 >>> ((48 : Int32) &&& 0x3f).toInt64.toUInt64).toInt64).toInt32).toInt8.toInt32).toInt8.toInt32)), (.int (((((x0.toUInt64 >>> ((56 : Int32) &&& 0x3f).toInt64.toUInt64).toInt64).toInt32).toInt8.toInt32).toInt8.toInt32))] := A353.keep K509 nin0
   exact hJ354 T503 h505  ((4 : Int32)) (4) (b508) (([(x3.toInt32.toInt8.toInt32), (((x3.toUInt64 >>> ((8 : Int32) &&& 0x3f).toInt64.toUInt64).toInt64).toInt32.toInt8.toInt32), (((x3.toUInt64 >>> ((16 : Int32) &&& 0x3f).toInt64.toUInt64).toInt64).toInt32.toInt8.toInt32), (((x3.toUInt64 >>> ((24 : Int32) &&& 0x3f).toInt64.toUInt64).toInt64).toInt32.toInt8.toInt32)] : List Int32)) (own_mono Y504 (by decide) (by decide)) z511 f512 A510 rfl (by decide) rfl
  ·
   show own_Ends _ _ _ _ (T349.setTop (mkF m 119 #[.val (.long x0), .second, .val (.int x1), .val (.int x2), .val (.long x3), .second, .val (.int x4), .val (.int x5), .val (.ref b311), .val (.int a_), .val (.int b_), .val (.int (5 : Int32)), .unset, .unset] []))
   refine own_st (fun t_ => XS.lload (own_here Y350) hx rfl (hb hby at_119) rfl) ?_
   show own_Ends _ _ _ _ (T349.setTop (mkF m 121 #[.val (.long x0), .second, .val (.int x1), .val (.int x2), .val (.long x3), .second, .val (.int x4), .val (.int x5), .val (.ref b311), .val (.int a_), .val (.int b_), .val (.int (5 : Int32)), .unset, .unset] [(.long x3)]))
   refine own_st (fun t_ => XS.iload (own_here Y350) hx rfl (hb hby at_121) rfl) ?_
   show own_Ends _ _ _ _ (T349.setTop (mkF m 123 #[.val (.long x0), .second, .val (.int x1), .val (.int x2), .val (.long x3), .second, .val (.int x4), .val (.int x5), .val (.ref b311), .val (.int a_), .val (.int b_), .val (.int (5 : Int32)), .unset, .unset] [(.int (5 : Int32)), (.long x3)]))
   have z513 : n0 ≤ h308.size := Nat.le_trans Z0 E309.1
   have z514 : n0 ≤ h316.size := Nat.le_trans z513 (Nat.le_of_eq W317.size.symm)
   have z515 : n0 ≤ h321.size := Nat.le_trans z514 (Nat.le_of_eq W322.size.symm)
   have z516 : n0 ≤ h326.size := Nat.le_trans z515 (Nat.le_of_eq W327.size.symm)
   have z517 : n0 ≤ h331.size := Nat.le_trans z516 (Nat.le_of_eq W332.size.symm)
   have z518 : n0 ≤ h336.size := Nat.le_trans z517 (Nat.le_of_eq W337.size.symm)
   have z519 : n0 ≤ h341.size := Nat.le_trans z518 (Nat.le_of_eq W342.size.symm)
   have z520 : n0 ≤ h346.size := Nat.le_trans z519 (Nat.le_of_eq W347.size.symm)
   have z521 : n0 ≤ h351.size := Nat.le_trans z520 (Nat.le_of_eq W352.size.symm)
   refine own_callS Y350 hx hZ (y := (⟨"com/example/tagwire/tagwire/wire/BytesStartsWithPinLaw", "prefixOf", "(JI)[B"⟩ : MethodName)) hown (hw _ (List.mem_of_getElem? (i := 2) rfl)) (hw _ (List.mem_of_getElem? (i := 3) rfl)) (hw _ (List.mem_of_getElem? (i := 4) rfl)) (hw _ (List.mem_of_getElem? (i := 5) rfl)) (by decide) (argsL := [(.long x3), (.int (5 : Int32))]) (rest := []) (own_rm1_5 l Z a0 hw [] x3  h351 n0 z521 ) (W := 0) (by decide) (by decide) (by decide) (by decide) rfl (by rw [hml]; rfl) (lenOf own_pd2 rfl) rfl (by show 2 * 0 + _ ≤ _; exact Nat.le_of_eq rfl) (hb hby at_123) (fun T522 h524 v525 Y523 q526 => ?_)
   obtain ⟨b527, rfl, K528, A529⟩ := q526
   show own_Ends _ _ _ _ (T522.setTop (mkF m 126 #[.val (.long x0), .second, .val (.int x1), .val (.int x2), .val (.long x3), .second, .val (.int x4), .val (.int x5), .val (.ref b311), .val (.int a_), .val (.int b_), .val (.int (5 : Int32)), .unset, .unset] [(.ref b527)]))
   refine own_st (fun t_ => XS.astore (own_here Y523) hx rfl (hb hby at_126) rfl rfl (l' := #[.val (.long x0), .second, .val (.int x1), .val (.int x2), .val (.long x3), .second, .val (.int x4), .val (.int x5), .val (.ref b311), .val (.int a_), .val (.int b_), .val (.int (5 : Int32)), .val (.ref b527), .unset]) rfl) ?_
   show own_Ends _ _ _ _ (T522.setTop (mkF m 128 #[.val (.long x0), .second, .val (.int x1), .val (.int x2), .val (.long x3), .second, .val (.int x4), .val (.int x5), .val (.ref b311), .val (.int a_), .val (.int b_), .val (.int (5 : Int32)), .val (.ref b527), .unset] []))
   have z530 : n0 ≤ h524.size := Nat.le_trans z521 K528.1
   have f531 : own_A Z h524 b311 .byte [(.int (((x0.toInt32).toInt8.toInt32).toInt8.toInt32)), (.int (((((x0.toUInt64 >>> ((8 : Int32) &&& 0x3f).toInt64.toUInt64).toInt64).toInt32).toInt8.toInt32).toInt8.toInt32)), (.int (((((x0.toUInt64 >>> ((16 : Int32) &&& 0x3f).toInt64.toUInt64).toInt64).toInt32).toInt8.toInt32).toInt8.toInt32)), (.int (((((x0.toUInt64 >>> ((24 : Int32) &&& 0x3f).toInt64.toUInt64).toInt64).toInt32).toInt8.toInt32).toInt8.toInt32)), (.int (((((x0.toUInt64 >>> ((32 : Int32) &&& 0x3f).toInt64.toUInt64).toInt64).toInt32).toInt8.toInt32).toInt8.toInt32)), (.int (((((x0.toUInt64 >>> ((40 : Int32) &&& 0x3f).toInt64.toUInt64).toInt64).toInt32).toInt8.toInt32).toInt8.toInt32)), (.int (((((x0.toUInt64 >>> ((48 : Int32) &&& 0x3f).toInt64.toUInt64).toInt64).toInt32).toInt8.toInt32).toInt8.toInt32)), (.int (((((x0.toUInt64 >>> ((56 : Int32) &&& 0x3f).toInt64.toUInt64).toInt64).toInt32).toInt8.toInt32).toInt8.toInt32))] := A353.keep K528 nin0
   exact hJ354 T522 h524  ((5 : Int32)) (5) (b527) (([(x3.toInt32.toInt8.toInt32), (((x3.toUInt64 >>> ((8 : Int32) &&& 0x3f).toInt64.toUInt64).toInt64).toInt32.toInt8.toInt32), (((x3.toUInt64 >>> ((16 : Int32) &&& 0x3f).toInt64.toUInt64).toInt64).toInt32.toInt8.toInt32), (((x3.toUInt64 >>> ((24 : Int32) &&& 0x3f).toInt64.toUInt64).toInt64).toInt32.toInt8.toInt32), (((x3.toUInt64 >>> ((32 : Int32) &&& 0x3f).toInt64.toUInt64).toInt64).toInt32.toInt8.toInt32)] : List Int32)) (own_mono Y523 (by decide) (by decide)) z530 f531 A529 rfl (by decide) rfl
  ·
   show own_Ends _ _ _ _ (T349.setTop (mkF m 119 #[.val (.long x0), .second, .val (.int x1), .val (.int x2), .val (.long x3), .second, .val (.int x4), .val (.int x5), .val (.ref b311), .val (.int a_), .val (.int b_), .val (.int (6 : Int32)), .unset, .unset] []))
   refine own_st (fun t_ => XS.lload (own_here Y350) hx rfl (hb hby at_119) rfl) ?_
   show own_Ends _ _ _ _ (T349.setTop (mkF m 121 #[.val (.long x0), .second, .val (.int x1), .val (.int x2), .val (.long x3), .second, .val (.int x4), .val (.int x5), .val (.ref b311), .val (.int a_), .val (.int b_), .val (.int (6 : Int32)), .unset, .unset] [(.long x3)]))
   refine own_st (fun t_ => XS.iload (own_here Y350) hx rfl (hb hby at_121) rfl) ?_
   show own_Ends _ _ _ _ (T349.setTop (mkF m 123 #[.val (.long x0), .second, .val (.int x1), .val (.int x2), .val (.long x3), .second, .val (.int x4), .val (.int x5), .val (.ref b311), .val (.int a_), .val (.int b_), .val (.int (6 : Int32)), .unset, .unset] [(.int (6 : Int32)), (.long x3)]))
   have z532 : n0 ≤ h308.size := Nat.le_trans Z0 E309.1
   have z533 : n0 ≤ h316.size := Nat.le_trans z532 (Nat.le_of_eq W317.size.symm)
   have z534 : n0 ≤ h321.size := Nat.le_trans z533 (Nat.le_of_eq W322.size.symm)
   have z535 : n0 ≤ h326.size := Nat.le_trans z534 (Nat.le_of_eq W327.size.symm)
   have z536 : n0 ≤ h331.size := Nat.le_trans z535 (Nat.le_of_eq W332.size.symm)
   have z537 : n0 ≤ h336.size := Nat.le_trans z536 (Nat.le_of_eq W337.size.symm)
   have z538 : n0 ≤ h341.size := Nat.le_trans z537 (Nat.le_of_eq W342.size.symm)
   have z539 : n0 ≤ h346.size := Nat.le_trans z538 (Nat.le_of_eq W347.size.symm)
   have z540 : n0 ≤ h351.size := Nat.le_trans z539 (Nat.le_of_eq W352.size.symm)
   refine own_callS Y350 hx hZ (y := (⟨"com/example/tagwire/tagwire/wire/BytesStartsWithPinLaw", "prefixOf", "(JI)[B"⟩ : MethodName)) hown (hw _ (List.mem_of_getElem? (i := 2) rfl)) (hw _ (List.mem_of_getElem? (i := 3) rfl)) (hw _ (List.mem_of_getElem? (i := 4) rfl)) (hw _ (List.mem_of_getElem? (i := 5) rfl)) (by decide) (argsL := [(.long x3), (.int (6 : Int32))]) (rest := []) (own_rm1_6 l Z a0 hw [] x3  h351 n0 z540 ) (W := 0) (by decide) (by decide) (by decide) (by decide) rfl (by rw [hml]; rfl) (lenOf own_pd2 rfl) rfl (by show 2 * 0 + _ ≤ _; exact Nat.le_of_eq rfl) (hb hby at_123) (fun T541 h543 v544 Y542 q545 => ?_)
   obtain ⟨b546, rfl, K547, A548⟩ := q545
   show own_Ends _ _ _ _ (T541.setTop (mkF m 126 #[.val (.long x0), .second, .val (.int x1), .val (.int x2), .val (.long x3), .second, .val (.int x4), .val (.int x5), .val (.ref b311), .val (.int a_), .val (.int b_), .val (.int (6 : Int32)), .unset, .unset] [(.ref b546)]))
   refine own_st (fun t_ => XS.astore (own_here Y542) hx rfl (hb hby at_126) rfl rfl (l' := #[.val (.long x0), .second, .val (.int x1), .val (.int x2), .val (.long x3), .second, .val (.int x4), .val (.int x5), .val (.ref b311), .val (.int a_), .val (.int b_), .val (.int (6 : Int32)), .val (.ref b546), .unset]) rfl) ?_
   show own_Ends _ _ _ _ (T541.setTop (mkF m 128 #[.val (.long x0), .second, .val (.int x1), .val (.int x2), .val (.long x3), .second, .val (.int x4), .val (.int x5), .val (.ref b311), .val (.int a_), .val (.int b_), .val (.int (6 : Int32)), .val (.ref b546), .unset] []))
   have z549 : n0 ≤ h543.size := Nat.le_trans z540 K547.1
   have f550 : own_A Z h543 b311 .byte [(.int (((x0.toInt32).toInt8.toInt32).toInt8.toInt32)), (.int (((((x0.toUInt64 >>> ((8 : Int32) &&& 0x3f).toInt64.toUInt64).toInt64).toInt32).toInt8.toInt32).toInt8.toInt32)), (.int (((((x0.toUInt64 >>> ((16 : Int32) &&& 0x3f).toInt64.toUInt64).toInt64).toInt32).toInt8.toInt32).toInt8.toInt32)), (.int (((((x0.toUInt64 >>> ((24 : Int32) &&& 0x3f).toInt64.toUInt64).toInt64).toInt32).toInt8.toInt32).toInt8.toInt32)), (.int (((((x0.toUInt64 >>> ((32 : Int32) &&& 0x3f).toInt64.toUInt64).toInt64).toInt32).toInt8.toInt32).toInt8.toInt32)), (.int (((((x0.toUInt64 >>> ((40 : Int32) &&& 0x3f).toInt64.toUInt64).toInt64).toInt32).toInt8.toInt32).toInt8.toInt32)), (.int (((((x0.toUInt64 >>> ((48 : Int32) &&& 0x3f).toInt64.toUInt64).toInt64).toInt32).toInt8.toInt32).toInt8.toInt32)), (.int (((((x0.toUInt64 >>> ((56 : Int32) &&& 0x3f).toInt64.toUInt64).toInt64).toInt32).toInt8.toInt32).toInt8.toInt32))] := A353.keep K547 nin0
   exact hJ354 T541 h543  ((6 : Int32)) (6) (b546) (([(x3.toInt32.toInt8.toInt32), (((x3.toUInt64 >>> ((8 : Int32) &&& 0x3f).toInt64.toUInt64).toInt64).toInt32.toInt8.toInt32), (((x3.toUInt64 >>> ((16 : Int32) &&& 0x3f).toInt64.toUInt64).toInt64).toInt32.toInt8.toInt32), (((x3.toUInt64 >>> ((24 : Int32) &&& 0x3f).toInt64.toUInt64).toInt64).toInt32.toInt8.toInt32), (((x3.toUInt64 >>> ((32 : Int32) &&& 0x3f).toInt64.toUInt64).toInt64).toInt32.toInt8.toInt32), (((x3.toUInt64 >>> ((40 : Int32) &&& 0x3f).toInt64.toUInt64).toInt64).toInt32.toInt8.toInt32)] : List Int32)) (own_mono Y542 (by decide) (by decide)) z549 f550 A548 rfl (by decide) rfl
  ·
   show own_Ends _ _ _ _ (T349.setTop (mkF m 119 #[.val (.long x0), .second, .val (.int x1), .val (.int x2), .val (.long x3), .second, .val (.int x4), .val (.int x5), .val (.ref b311), .val (.int a_), .val (.int b_), .val (.int (7 : Int32)), .unset, .unset] []))
   refine own_st (fun t_ => XS.lload (own_here Y350) hx rfl (hb hby at_119) rfl) ?_
   show own_Ends _ _ _ _ (T349.setTop (mkF m 121 #[.val (.long x0), .second, .val (.int x1), .val (.int x2), .val (.long x3), .second, .val (.int x4), .val (.int x5), .val (.ref b311), .val (.int a_), .val (.int b_), .val (.int (7 : Int32)), .unset, .unset] [(.long x3)]))
   refine own_st (fun t_ => XS.iload (own_here Y350) hx rfl (hb hby at_121) rfl) ?_
   show own_Ends _ _ _ _ (T349.setTop (mkF m 123 #[.val (.long x0), .second, .val (.int x1), .val (.int x2), .val (.long x3), .second, .val (.int x4), .val (.int x5), .val (.ref b311), .val (.int a_), .val (.int b_), .val (.int (7 : Int32)), .unset, .unset] [(.int (7 : Int32)), (.long x3)]))
   have z551 : n0 ≤ h308.size := Nat.le_trans Z0 E309.1
   have z552 : n0 ≤ h316.size := Nat.le_trans z551 (Nat.le_of_eq W317.size.symm)
   have z553 : n0 ≤ h321.size := Nat.le_trans z552 (Nat.le_of_eq W322.size.symm)
   have z554 : n0 ≤ h326.size := Nat.le_trans z553 (Nat.le_of_eq W327.size.symm)
   have z555 : n0 ≤ h331.size := Nat.le_trans z554 (Nat.le_of_eq W332.size.symm)
   have z556 : n0 ≤ h336.size := Nat.le_trans z555 (Nat.le_of_eq W337.size.symm)
   have z557 : n0 ≤ h341.size := Nat.le_trans z556 (Nat.le_of_eq W342.size.symm)
   have z558 : n0 ≤ h346.size := Nat.le_trans z557 (Nat.le_of_eq W347.size.symm)
   have z559 : n0 ≤ h351.size := Nat.le_trans z558 (Nat.le_of_eq W352.size.symm)
   refine own_callS Y350 hx hZ (y := (⟨"com/example/tagwire/tagwire/wire/BytesStartsWithPinLaw", "prefixOf", "(JI)[B"⟩ : MethodName)) hown (hw _ (List.mem_of_getElem? (i := 2) rfl)) (hw _ (List.mem_of_getElem? (i := 3) rfl)) (hw _ (List.mem_of_getElem? (i := 4) rfl)) (hw _ (List.mem_of_getElem? (i := 5) rfl)) (by decide) (argsL := [(.long x3), (.int (7 : Int32))]) (rest := []) (own_rm1_7 l Z a0 hw [] x3  h351 n0 z559 ) (W := 0) (by decide) (by decide) (by decide) (by decide) rfl (by rw [hml]; rfl) (lenOf own_pd2 rfl) rfl (by show 2 * 0 + _ ≤ _; exact Nat.le_of_eq rfl) (hb hby at_123) (fun T560 h562 v563 Y561 q564 => ?_)
   obtain ⟨b565, rfl, K566, A567⟩ := q564
   show own_Ends _ _ _ _ (T560.setTop (mkF m 126 #[.val (.long x0), .second, .val (.int x1), .val (.int x2), .val (.long x3), .second, .val (.int x4), .val (.int x5), .val (.ref b311), .val (.int a_), .val (.int b_), .val (.int (7 : Int32)), .unset, .unset] [(.ref b565)]))
   refine own_st (fun t_ => XS.astore (own_here Y561) hx rfl (hb hby at_126) rfl rfl (l' := #[.val (.long x0), .second, .val (.int x1), .val (.int x2), .val (.long x3), .second, .val (.int x4), .val (.int x5), .val (.ref b311), .val (.int a_), .val (.int b_), .val (.int (7 : Int32)), .val (.ref b565), .unset]) rfl) ?_
   show own_Ends _ _ _ _ (T560.setTop (mkF m 128 #[.val (.long x0), .second, .val (.int x1), .val (.int x2), .val (.long x3), .second, .val (.int x4), .val (.int x5), .val (.ref b311), .val (.int a_), .val (.int b_), .val (.int (7 : Int32)), .val (.ref b565), .unset] []))
   have z568 : n0 ≤ h562.size := Nat.le_trans z559 K566.1
   have f569 : own_A Z h562 b311 .byte [(.int (((x0.toInt32).toInt8.toInt32).toInt8.toInt32)), (.int (((((x0.toUInt64 >>> ((8 : Int32) &&& 0x3f).toInt64.toUInt64).toInt64).toInt32).toInt8.toInt32).toInt8.toInt32)), (.int (((((x0.toUInt64 >>> ((16 : Int32) &&& 0x3f).toInt64.toUInt64).toInt64).toInt32).toInt8.toInt32).toInt8.toInt32)), (.int (((((x0.toUInt64 >>> ((24 : Int32) &&& 0x3f).toInt64.toUInt64).toInt64).toInt32).toInt8.toInt32).toInt8.toInt32)), (.int (((((x0.toUInt64 >>> ((32 : Int32) &&& 0x3f).toInt64.toUInt64).toInt64).toInt32).toInt8.toInt32).toInt8.toInt32)), (.int (((((x0.toUInt64 >>> ((40 : Int32) &&& 0x3f).toInt64.toUInt64).toInt64).toInt32).toInt8.toInt32).toInt8.toInt32)), (.int (((((x0.toUInt64 >>> ((48 : Int32) &&& 0x3f).toInt64.toUInt64).toInt64).toInt32).toInt8.toInt32).toInt8.toInt32)), (.int (((((x0.toUInt64 >>> ((56 : Int32) &&& 0x3f).toInt64.toUInt64).toInt64).toInt32).toInt8.toInt32).toInt8.toInt32))] := A353.keep K566 nin0
   exact hJ354 T560 h562  ((7 : Int32)) (7) (b565) (([(x3.toInt32.toInt8.toInt32), (((x3.toUInt64 >>> ((8 : Int32) &&& 0x3f).toInt64.toUInt64).toInt64).toInt32.toInt8.toInt32), (((x3.toUInt64 >>> ((16 : Int32) &&& 0x3f).toInt64.toUInt64).toInt64).toInt32.toInt8.toInt32), (((x3.toUInt64 >>> ((24 : Int32) &&& 0x3f).toInt64.toUInt64).toInt64).toInt32.toInt8.toInt32), (((x3.toUInt64 >>> ((32 : Int32) &&& 0x3f).toInt64.toUInt64).toInt64).toInt32.toInt8.toInt32), (((x3.toUInt64 >>> ((40 : Int32) &&& 0x3f).toInt64.toUInt64).toInt64).toInt32.toInt8.toInt32), (((x3.toUInt64 >>> ((48 : Int32) &&& 0x3f).toInt64.toUInt64).toInt64).toInt32.toInt8.toInt32)] : List Int32)) (own_mono Y561 (by decide) (by decide)) z568 f569 A567 rfl (by decide) rfl
  ·
   show own_Ends _ _ _ _ (T349.setTop (mkF m 119 #[.val (.long x0), .second, .val (.int x1), .val (.int x2), .val (.long x3), .second, .val (.int x4), .val (.int x5), .val (.ref b311), .val (.int a_), .val (.int b_), .val (.int (8 : Int32)), .unset, .unset] []))
   refine own_st (fun t_ => XS.lload (own_here Y350) hx rfl (hb hby at_119) rfl) ?_
   show own_Ends _ _ _ _ (T349.setTop (mkF m 121 #[.val (.long x0), .second, .val (.int x1), .val (.int x2), .val (.long x3), .second, .val (.int x4), .val (.int x5), .val (.ref b311), .val (.int a_), .val (.int b_), .val (.int (8 : Int32)), .unset, .unset] [(.long x3)]))
   refine own_st (fun t_ => XS.iload (own_here Y350) hx rfl (hb hby at_121) rfl) ?_
   show own_Ends _ _ _ _ (T349.setTop (mkF m 123 #[.val (.long x0), .second, .val (.int x1), .val (.int x2), .val (.long x3), .second, .val (.int x4), .val (.int x5), .val (.ref b311), .val (.int a_), .val (.int b_), .val (.int (8 : Int32)), .unset, .unset] [(.int (8 : Int32)), (.long x3)]))
   have z570 : n0 ≤ h308.size := Nat.le_trans Z0 E309.1
   have z571 : n0 ≤ h316.size := Nat.le_trans z570 (Nat.le_of_eq W317.size.symm)
   have z572 : n0 ≤ h321.size := Nat.le_trans z571 (Nat.le_of_eq W322.size.symm)
   have z573 : n0 ≤ h326.size := Nat.le_trans z572 (Nat.le_of_eq W327.size.symm)
   have z574 : n0 ≤ h331.size := Nat.le_trans z573 (Nat.le_of_eq W332.size.symm)
   have z575 : n0 ≤ h336.size := Nat.le_trans z574 (Nat.le_of_eq W337.size.symm)
   have z576 : n0 ≤ h341.size := Nat.le_trans z575 (Nat.le_of_eq W342.size.symm)
   have z577 : n0 ≤ h346.size := Nat.le_trans z576 (Nat.le_of_eq W347.size.symm)
   have z578 : n0 ≤ h351.size := Nat.le_trans z577 (Nat.le_of_eq W352.size.symm)
   refine own_callS Y350 hx hZ (y := (⟨"com/example/tagwire/tagwire/wire/BytesStartsWithPinLaw", "prefixOf", "(JI)[B"⟩ : MethodName)) hown (hw _ (List.mem_of_getElem? (i := 2) rfl)) (hw _ (List.mem_of_getElem? (i := 3) rfl)) (hw _ (List.mem_of_getElem? (i := 4) rfl)) (hw _ (List.mem_of_getElem? (i := 5) rfl)) (by decide) (argsL := [(.long x3), (.int (8 : Int32))]) (rest := []) (own_rm1_8 l Z a0 hw [] x3  h351 n0 z578 ) (W := 0) (by decide) (by decide) (by decide) (by decide) rfl (by rw [hml]; rfl) (lenOf own_pd2 rfl) rfl (by show 2 * 0 + _ ≤ _; exact Nat.le_of_eq rfl) (hb hby at_123) (fun T579 h581 v582 Y580 q583 => ?_)
   obtain ⟨b584, rfl, K585, A586⟩ := q583
   show own_Ends _ _ _ _ (T579.setTop (mkF m 126 #[.val (.long x0), .second, .val (.int x1), .val (.int x2), .val (.long x3), .second, .val (.int x4), .val (.int x5), .val (.ref b311), .val (.int a_), .val (.int b_), .val (.int (8 : Int32)), .unset, .unset] [(.ref b584)]))
   refine own_st (fun t_ => XS.astore (own_here Y580) hx rfl (hb hby at_126) rfl rfl (l' := #[.val (.long x0), .second, .val (.int x1), .val (.int x2), .val (.long x3), .second, .val (.int x4), .val (.int x5), .val (.ref b311), .val (.int a_), .val (.int b_), .val (.int (8 : Int32)), .val (.ref b584), .unset]) rfl) ?_
   show own_Ends _ _ _ _ (T579.setTop (mkF m 128 #[.val (.long x0), .second, .val (.int x1), .val (.int x2), .val (.long x3), .second, .val (.int x4), .val (.int x5), .val (.ref b311), .val (.int a_), .val (.int b_), .val (.int (8 : Int32)), .val (.ref b584), .unset] []))
   have z587 : n0 ≤ h581.size := Nat.le_trans z578 K585.1
   have f588 : own_A Z h581 b311 .byte [(.int (((x0.toInt32).toInt8.toInt32).toInt8.toInt32)), (.int (((((x0.toUInt64 >>> ((8 : Int32) &&& 0x3f).toInt64.toUInt64).toInt64).toInt32).toInt8.toInt32).toInt8.toInt32)), (.int (((((x0.toUInt64 >>> ((16 : Int32) &&& 0x3f).toInt64.toUInt64).toInt64).toInt32).toInt8.toInt32).toInt8.toInt32)), (.int (((((x0.toUInt64 >>> ((24 : Int32) &&& 0x3f).toInt64.toUInt64).toInt64).toInt32).toInt8.toInt32).toInt8.toInt32)), (.int (((((x0.toUInt64 >>> ((32 : Int32) &&& 0x3f).toInt64.toUInt64).toInt64).toInt32).toInt8.toInt32).toInt8.toInt32)), (.int (((((x0.toUInt64 >>> ((40 : Int32) &&& 0x3f).toInt64.toUInt64).toInt64).toInt32).toInt8.toInt32).toInt8.toInt32)), (.int (((((x0.toUInt64 >>> ((48 : Int32) &&& 0x3f).toInt64.toUInt64).toInt64).toInt32).toInt8.toInt32).toInt8.toInt32)), (.int (((((x0.toUInt64 >>> ((56 : Int32) &&& 0x3f).toInt64.toUInt64).toInt64).toInt32).toInt8.toInt32).toInt8.toInt32))] := A353.keep K585 nin0
   exact hJ354 T579 h581  ((8 : Int32)) (8) (b584) (([(x3.toInt32.toInt8.toInt32), (((x3.toUInt64 >>> ((8 : Int32) &&& 0x3f).toInt64.toUInt64).toInt64).toInt32.toInt8.toInt32), (((x3.toUInt64 >>> ((16 : Int32) &&& 0x3f).toInt64.toUInt64).toInt64).toInt32.toInt8.toInt32), (((x3.toUInt64 >>> ((24 : Int32) &&& 0x3f).toInt64.toUInt64).toInt64).toInt32.toInt8.toInt32), (((x3.toUInt64 >>> ((32 : Int32) &&& 0x3f).toInt64.toUInt64).toInt64).toInt32.toInt8.toInt32), (((x3.toUInt64 >>> ((40 : Int32) &&& 0x3f).toInt64.toUInt64).toInt64).toInt32.toInt8.toInt32), (((x3.toUInt64 >>> ((48 : Int32) &&& 0x3f).toInt64.toUInt64).toInt64).toInt32.toInt8.toInt32), (((x3.toUInt64 >>> ((56 : Int32) &&& 0x3f).toInt64.toUInt64).toInt64).toInt32.toInt8.toInt32)] : List Int32)) Y580 z587 f588 A586 rfl (by decide) rfl
set_option maxRecDepth 65536 in
set_option maxHeartbeats 40000000 in
theorem own_comes_1 {Post : Tables → Env → Array Value → State → Outcome → State → Prop} (hpost : ∀ tb e args s v u, (limb_1_1.after args s (.returned v) u = true ∧ limb_1_2.after args s (.returned v) u = true ∧ True) → FrameEnd s (.returned v) u (Jvm.fieldLocs frame_1_writes args s ++ Jvm.arrayLocs frame_1_arrays args s ++ Jvm.staticLocs frame_1_statics s) 16 128 → Post tb e args s (.returned v) u) :
    ArmFor flags0 classFile x code maxLocals ret World_1 tables_1 room_1 Calls_1 rest_1 Pre_1 Post := by
  intro l hfl _ _ p e ha hc hk s m args below hf hA hF happ hP
  obtain ⟨hcalls, hrest, hpre⟩ := hP
  obtain ⟨-, -, -, hnamed, -, -, -, hat⟩ := (Spec.applies_iff hf).mp happ
  obtain ⟨hg, hn⟩ := and_e (Cond.before_iff.mp (show (Jvm.Cond.and given_1 narrow_1).before args s = true from hpre))
  obtain ⟨g1, g2⟩ := and_e hg
  obtain ⟨g3, g4⟩ := and_e g2
  obtain ⟨g5, g6⟩ := and_e g4
  obtain ⟨g7, g8⟩ := and_e g6
  obtain ⟨g9, g10⟩ := and_e g8
  obtain ⟨g11, g12⟩ := and_e g10
  obtain ⟨w0, w1, w2, w3, w4, w5, rfl⟩ : ∃ w0 w1 w2 w3 w4 w5 : Value, args = #[w0, w1, w2, w3, w4, w5] := by
    have hs : args.size = 6 := by simpa [Cond.value, given_1] using g1
    obtain ⟨L⟩ := args
    match L, hs with
    | [w0, w1, w2, w3, w4, w5], _ => exact ⟨w0, w1, w2, w3, w4, w5, rfl⟩
  have hw := fun d (hd : d ∈ tables_1) => atoms_spec (ws := Jvm.Cond.code x code maxLocals ret :: tables_1) hat d (List.mem_cons_of_mem _ hd)
  have hfit : Fit s := fun {y c} hc i hi => by
    obtain ⟨ha, rfl⟩ := Array.getElem?_eq_some_iff.mp hc
    have q := List.all_eq_true.mp ((Array.all_eq_true_iff_forall_mem.mp hF) _ (Array.getElem_mem ha)) i (List.mem_range.mpr hi)
    simpa [Array.getElem?_eq_getElem hi] using q
  obtain ⟨i0, ei0⟩ := isL_v g3
  obtain rfl : w0 = (.long i0) := Option.some.inj ei0
  obtain ⟨i1, ei1⟩ := is_v g5
  obtain rfl : w1 = (.int i1) := Option.some.inj ei1
  obtain ⟨i2, ei2⟩ := is_v g7
  obtain rfl : w2 = (.int i2) := Option.some.inj ei2
  obtain ⟨i3, ei3⟩ := isL_v g9
  obtain rfl : w3 = (.long i3) := Option.some.inj ei3
  obtain ⟨i4, ei4⟩ := is_v g11
  obtain rfl : w4 = (.int i4) := Option.some.inj ei4
  obtain ⟨i5, ei5⟩ := is_v g12
  obtain rfl : w5 = (.int i5) := Option.some.inj ei5
  obtain ⟨n, o, h1, h2, h3, _, L, rfl, ⟨N, rfl⟩, hq⟩ := own_rm0 l s _ hw tables_1 i0 i1 i2 i3 i4 i5  s.heap s.heap.size (Nat.le_refl _)  p e ha hc hk s m _ below hf ((Spec.applies_iff_loose hf).mp happ).1 ⟨rfl, State.Warmed39.refl s, rfl⟩ trivial
  refine ⟨n, _, h1, h2, h3, hpost _ _ _ _ _ _ ⟨Cond.after_iff.mpr rfl, Cond.after_iff.mpr (eq_i res_at (Term.int_eval (1)) rfl), trivial⟩ ⟨hq.1, hq.2.1, (hq.2.2.sift fun y hy => Or.inr (N y hy)).mono (by decide) (by decide)⟩⟩
theorem main_1_1 : Claimed_1_1 := own_comes_1 fun _ _ _ _ _ _ h hF => ⟨h.1, hF⟩
theorem main_1_2 : Claimed_1_2 := own_comes_1 fun _ _ _ _ _ _ h hF => ⟨h.2.1, hF⟩
end Jvm.Pilot.@@N@@
namespace Jvm.Pilot.@@N@@
open Jvm Jvm.ClassFile Sem Op Lib Jvm.Free Jvm.Stand Jvm.Pilot.@@N@@.Jvm.D
/-! MADE BY PROGRAM (witnessworld.py) out of the Statement's table words and the real class files: 9 classes; the members and pool entries that the words name. The judged class is class 1, her method 1. -/
namespace start1
open Jvm.ClassFile
def u (s : String) : CpInfo := .utf8 (stringToUtf16 s)
/-- a pool by its gaps: so many unusable entries, then the entry; so many at the end -/
def gap : Nat → List CpInfo → List CpInfo
  | 0, r => r
  | n + 1, r => .unusable :: gap n r
def poolList (es : List (Nat × CpInfo)) (last : Nat) : List CpInfo := es.foldr (fun e r => gap e.1 (e.2 :: r)) (gap last [])
def pool (es : List (Nat × CpInfo)) (last : Nat) : Array CpInfo := ⟨poolList es last⟩
def fileOf (pool : Array CpInfo) (this : Nat) (attrs : Array Attribute := #[]) (ms : Array MethodInfo := #[]) (fl : Nat := 33) (sup : Nat := 0) (ifs : Array Nat := #[]) (fds : Array FieldInfo := #[]) : ClassFile where
  minorVersion := 0
  majorVersion := 65
  constantPool := pool
  accessFlags := fl
  thisClass := this
  superClass := sup
  interfaces := ifs
  fields := fds
  methods := ms
  attributes := attrs
def plain (name : String) (sup : Option ClassId) : Class where
  name := name
  kind := .ordinary
  loader := none
  accessFlags := 33
  super := sup
  interfaces := #[]
  cf := none
  fields := #[]
  methods := #[]
  instanceTypes := #[]
  staticTypes := #[]
  resolved := #[]
  callSites := []
  init := .initialized
  statics := none
  mirror := none

def pool0 : Array CpInfo := pool [(5, u "<init>"), (0, u "()V"), (1, .class_ 10), (1, u "java/lang/Object")] 113

def k0m0 : Method := { name := "<init>", desc := "()V", sig := { parameters := [], returnType := none }, accessFlags := 1, code := none }
/-- java/lang/Object -/
def k0 : Class := { plain "java/lang/Object" none with
  accessFlags := 33
  interfaces := #[]
  cf := some (fileOf pool0 8 #[] #[{ accessFlags := 1, nameIndex := 5, descriptorIndex := 6, attributes := #[] }] 33 0 #[] #[])
  fields := #[]
  methods := #[k0m0]
  instanceTypes := #[]
  staticTypes := #[]
  resolved := Array.replicate 124 none
  statics := none }

def pool1 : Array CpInfo := pool [(2, .class_ 4), (1, u "java/lang/Object"), (0, u "<init>"), (0, u "()V"), (0, .integer 2147483647), (0, .methodref 9 10), (0, .class_ 11), (0, .nameAndType 12 13), (0, u "com/example/tagwire/tagwire/wire/BytesStartsWithPinLaw"), (0, u "prefixOf"), (0, u "(JI)[B"), (0, .methodref 9 15), (0, .nameAndType 16 17), (0, u "m"), (0, u "([BI[BII)Z"), (0, .methodref 19 20), (0, .class_ 21), (0, .nameAndType 22 23), (0, u "com/example/tagwire/tagwire/wire/Bytes"), (0, u "startsWith"), (0, u "([BII[B)Z"), (2, u "law"), (0, u "(JIIJII)Z")] 5

def k1m0 : Method := { name := "<init>", desc := "()V", sig := { parameters := [], returnType := none }, accessFlags := 2, code := none }
def k1c1 : Code := { maxStack := 5, maxLocals := 14, code := code, exceptionTable := #[], attributes := #[] }
def k1m1 : Method := { name := "law", desc := "(JIIJII)Z", sig := { parameters := [.long, .int, .int, .long, .int, .int], returnType := some .boolean }, accessFlags := 9, code := some k1c1 }
def k1c2 : Code := { maxStack := 3, maxLocals := 5, code := method_3_code, exceptionTable := #[], attributes := #[] }
def k1m2 : Method := { name := "m", desc := "([BI[BII)Z", sig := { parameters := [(.array .byte), .int, (.array .byte), .int, .int], returnType := some .boolean }, accessFlags := 10, code := some k1c2 }
def k1c3 : Code := { maxStack := 5, maxLocals := 4, code := method_4_code, exceptionTable := #[], attributes := #[] }
def k1m3 : Method := { name := "prefixOf", desc := "(JI)[B", sig := { parameters := [.long, .int], returnType := some (.array .byte) }, accessFlags := 10, code := some k1c3 }
/-- com/example/tagwire/tagwire/wire/BytesStartsWithPinLaw -/
def k1 : Class := { plain "com/example/tagwire/tagwire/wire/BytesStartsWithPinLaw" (some 0) with
  accessFlags := 49
  interfaces := #[]
  cf := some (fileOf pool1 9 #[] #[{ accessFlags := 2, nameIndex := 5, descriptorIndex := 6, attributes := #[] }, { accessFlags := 9, nameIndex := 26, descriptorIndex := 27, attributes := #[] }, { accessFlags := 10, nameIndex := 16, descriptorIndex := 17, attributes := #[] }, { accessFlags := 10, nameIndex := 12, descriptorIndex := 13, attributes := #[] }] 49 2 #[] #[])
  fields := #[]
  methods := #[k1m0, k1m1, k1m2, k1m3]
  instanceTypes := #[]
  staticTypes := #[]
  resolved := Array.replicate 33 none
  statics := none }

def pool2 : Array CpInfo := pool [(2, .class_ 4), (1, u "java/lang/Object"), (0, u "<init>"), (0, u "()V"), (1, .class_ 10), (1, u "com/example/tagwire/tagwire/wire/Bytes"), (24, u "startsWith"), (0, u "([BII[B)Z")] 6

def k2m0 : Method := { name := "<init>", desc := "()V", sig := { parameters := [], returnType := none }, accessFlags := 2, code := none }
def k2c1 : Code := { maxStack := 3, maxLocals := 5, code := prog_49_method_3_code, exceptionTable := #[], attributes := #[] }
def k2m1 : Method := { name := "startsWith", desc := "([BII[B)Z", sig := { parameters := [(.array .byte), .int, .int, (.array .byte)], returnType := some .boolean }, accessFlags := 8, code := some k2c1 }
/-- com/example/tagwire/tagwire/wire/Bytes -/
def k2 : Class := { plain "com/example/tagwire/tagwire/wire/Bytes" (some 0) with
  accessFlags := 48
  interfaces := #[]
  cf := some (fileOf pool2 8 #[] #[{ accessFlags := 2, nameIndex := 5, descriptorIndex := 6, attributes := #[] }, { accessFlags := 8, nameIndex := 35, descriptorIndex := 36, attributes := #[] }] 48 2 #[] #[])
  fields := #[]
  methods := #[k2m0, k2m1]
  instanceTypes := #[]
  staticTypes := #[]
  resolved := Array.replicate 43 none
  statics := none }

def pool3 : Array CpInfo := pool [(1, u "java/lang/Cloneable"), (0, .class_ 1), (0, u "java/lang/Object"), (0, .class_ 3)] 3

/-- java/lang/Cloneable -/
def k3 : Class := { plain "java/lang/Cloneable" (some 0) with
  accessFlags := 1537
  interfaces := #[]
  cf := some (fileOf pool3 2 #[] #[] 1537 4 #[] #[])
  fields := #[]
  methods := #[]
  instanceTypes := #[]
  staticTypes := #[]
  resolved := Array.replicate 8 none
  statics := none }

def pool4 : Array CpInfo := pool [(1, u "java/io/Serializable"), (0, .class_ 1), (0, u "java/lang/Object"), (0, .class_ 3)] 3

/-- java/io/Serializable -/
def k4 : Class := { plain "java/io/Serializable" (some 0) with
  accessFlags := 1537
  interfaces := #[]
  cf := some (fileOf pool4 2 #[] #[] 1537 4 #[] #[])
  fields := #[]
  methods := #[]
  instanceTypes := #[]
  staticTypes := #[]
  resolved := Array.replicate 8 none
  statics := none }

/-- the primitive byte -/
def k5 : Class := { plain "byte" none with kind := .primitive 'B', accessFlags := 0x411 }
/-- [B -/
def k6 : Class := { plain "[B" (some 0) with kind := .array 5 .byte, interfaces := #[3, 4], accessFlags := 1041 }

/-- the primitive int -/
def k7 : Class := { plain "int" none with kind := .primitive 'I', accessFlags := 0x411 }
/-- [I -/
def k8 : Class := { plain "[I" (some 0) with kind := .array 7 .int, interfaces := #[3, 4], accessFlags := 1041 }

def heap : Heap := #[]
def classes : Array Class := #[k0, k1, k2, k3, k4, k5, k6, k7, k8]
def interned : List (Array UInt16 × Addr) := []
def slotsUsed : Nat := 0
def theMethod : MethodId := ⟨1, 1⟩
def args0 : Array Value := #[.long 5, .int 3, .int 3, .long 5, .int 1, .int 3]
def aboutOver (below : List Frame) : State where
  vm := { classes := classes, interned := interned.toArray }
  heap := heap
  slotsUsed := slotsUsed
  threads := #[{ frames := .invoking theMethod args0 :: below }]
def below0 : List Frame := [.native { method := ⟨0, 0⟩, args := #[] }]
def about1 : State := aboutOver below0
def p0 : Program := .bare "" "" ""
def e0 : Env := launch0.env 0 0 0
theorem w_frames : about1.frames = Frame.invoking theMethod args0 :: below0 := rfl
set_option maxRecDepth 65536 in
theorem w_args : argsFit about1.vm theMethod args0 = true := by decide +kernel
set_option maxRecDepth 65536 in
theorem w_heap : heapFits about1 = true := by decide +kernel
set_option maxRecDepth 65536 in
theorem w_runnable : about1.curStatus? = some .runnable := by decide +kernel
set_option maxRecDepth 65536 in
theorem w_alone : about1.alone = true := by decide +kernel
set_option maxRecDepth 65536 in
theorem w_named : about1.methodNamed? x = some theMethod := by decide +kernel
set_option maxRecDepth 65536 in
theorem w_hears : about1.hears theMethod below0 = true := by decide +kernel
set_option maxRecDepth 65536 in
theorem w_ripe : about1.ripe theMethod args0 below0 = true := by decide +kernel
theorem w_running : about1.status = .running := rfl
set_option maxRecDepth 65536 in
theorem w_room : about1.hasRoom e0.platform room_1 = true :=
  launch0.hasRoom_least _ room_1 (by decide +kernel) (by decide +kernel) (by decide +kernel) (by decide +kernel) (by decide +kernel) (by decide +kernel)
theorem allAtoms_all (ts : List Jvm.Cond) (a : Array Jvm.Value) (st : Jvm.State) : (allAtoms ts).before a st = ts.all (fun c => c.before a st) := by
  induction ts with
  | nil => rfl
  | cons c t ih =>
    show (Jvm.Cond.and c (allAtoms t)).before a st = _
    rw [Jvm.Cond.before_and, ih, List.all_cons]
def words1 : List Jvm.Cond := Jvm.Cond.code x code maxLocals ret :: tables_1
/-- a 'code' word, met by the world's own term for the bytes: nothing is compared byte by byte -/
theorem code_word {y : MethodName} {bytes : ByteArray} {mx : Nat} {rt : Option FieldType} {a : Array Value} {s : State} {m : MethodId} {meth : Method} {c : Code} (h1 : s.methodNamed? y = some m) (h2 : s.vm.method? m = some meth) (h3 : meth.code = some c) (h4 : c.code = bytes)
    (h5 : (c.maxLocals == mx && c.exceptionTable.isEmpty && decide (c.maxStack ≤ mostOperands) && decide (meth.sig.returnType = rt) && !meth.locks && decide (parseMethodDescriptor y.desc = some meth.sig)) = true) : (Jvm.Cond.code y bytes mx rt).before a s = true := by
  simp only [Bool.and_eq_true, beq_iff_eq, Bool.not_eq_true', decide_eq_true_eq] at h5
  obtain ⟨⟨⟨⟨⟨g1, g2⟩, g3⟩, g4⟩, g5⟩, g6⟩ := h5
  simp [Cond.before, Cond.holds, Cond.value, h1, h2, h3, h4, g1, g2, g3, g4, g5, g6]
def isCode : Jvm.Cond → Bool
  | .code _ _ _ _ => true
  | _ => false
theorem all_split {L : List Jvm.Cond} {P : Jvm.Cond → Bool} (h1 : L.all (fun c => isCode c || P c) = true) (h2 : ∀ c ∈ L.filter isCode, P c = true) : L.all P = true := by
  refine List.all_eq_true.mpr fun c hc => ?_
  have h := List.all_eq_true.mp h1 c hc
  rcases Bool.eq_false_or_eq_true (isCode c) with hi | hi
  · exact h2 c (List.mem_filter.mpr ⟨hc, hi⟩)
  · simpa [hi] using h
set_option maxRecDepth 65536 in
theorem w_c0 : (Jvm.Cond.code x code maxLocals ret).before args0 about1 = true := code_word (m := ⟨1, 1⟩) (meth := k1m1) (c := k1c1) (by decide +kernel) rfl rfl rfl (by decide +kernel)
set_option maxRecDepth 65536 in
theorem w_c1 : (Jvm.Cond.code ({ cls := "com/example/tagwire/tagwire/wire/BytesStartsWithPinLaw", name := "prefixOf", desc := "(JI)[B" } : Jvm.MethodName) method_4_code (4 : Nat) (Option.some (Jvm.ClassFile.FieldType.array Jvm.ClassFile.FieldType.byte))).before args0 about1 = true := code_word (m := ⟨1, 3⟩) (meth := k1m3) (c := k1c3) (by decide +kernel) rfl rfl rfl (by decide +kernel)
set_option maxRecDepth 65536 in
theorem w_c2 : (Jvm.Cond.code ({ cls := "com/example/tagwire/tagwire/wire/Bytes", name := "startsWith", desc := "([BII[B)Z" } : Jvm.MethodName) prog_49_method_3_code (5 : Nat) (Option.some Jvm.ClassFile.FieldType.boolean)).before args0 about1 = true := code_word (m := ⟨2, 1⟩) (meth := k2m1) (c := k2c1) (by decide +kernel) rfl rfl rfl (by decide +kernel)
set_option maxRecDepth 65536 in
theorem w_c3 : (Jvm.Cond.code ({ cls := "com/example/tagwire/tagwire/wire/BytesStartsWithPinLaw", name := "m", desc := "([BI[BII)Z" } : Jvm.MethodName) method_3_code (5 : Nat) (Option.some Jvm.ClassFile.FieldType.boolean)).before args0 about1 = true := code_word (m := ⟨1, 2⟩) (meth := k1m2) (c := k1c2) (by decide +kernel) rfl rfl rfl (by decide +kernel)
def codes1 : List Jvm.Cond := [Jvm.Cond.code x code maxLocals ret, Jvm.Cond.code ({ cls := "com/example/tagwire/tagwire/wire/BytesStartsWithPinLaw", name := "prefixOf", desc := "(JI)[B" } : Jvm.MethodName) method_4_code (4 : Nat) (Option.some (Jvm.ClassFile.FieldType.array Jvm.ClassFile.FieldType.byte)), Jvm.Cond.code ({ cls := "com/example/tagwire/tagwire/wire/Bytes", name := "startsWith", desc := "([BII[B)Z" } : Jvm.MethodName) prog_49_method_3_code (5 : Nat) (Option.some Jvm.ClassFile.FieldType.boolean), Jvm.Cond.code ({ cls := "com/example/tagwire/tagwire/wire/BytesStartsWithPinLaw", name := "m", desc := "([BI[BII)Z" } : Jvm.MethodName) method_3_code (5 : Nat) (Option.some Jvm.ClassFile.FieldType.boolean)]
set_option maxRecDepth 65536 in
theorem codes_eq : words1.filter isCode = codes1 := rfl
theorem w_codes : ∀ c ∈ words1.filter isCode, c.before args0 about1 = true := by
  rw [codes_eq]
  intro c hc
  simp only [codes1, List.mem_cons, List.not_mem_nil, or_false] at hc
  rcases hc with rfl | rfl | rfl | rfl
  · exact w_c0
  · exact w_c1
  · exact w_c2
  · exact w_c3
set_option maxRecDepth 65536 in
theorem w_t1 : words1.all (fun c => isCode c || c.before args0 about1) = true := by decide +kernel
theorem w_tables : (allAtoms (Jvm.Cond.code x code maxLocals ret :: tables_1)).before args0 about1 = true := by
  rw [allAtoms_all]
  show words1.all (fun c => c.before args0 about1) = true
  refine all_split ?_ w_codes
  rw [w_t1]
set_option maxRecDepth 65536 in
theorem w_case : (Jvm.Cond.and given_1 narrow_1).before args0 about1 = true := by decide +kernel
theorem w_applies : (headSpec (Jvm.Cond.code x code maxLocals ret :: tables_1) room_1).applies x e0.platform about1 = true :=
  (Spec.applies_iff w_frames).mpr ⟨w_running, w_runnable, w_alone, w_named, w_hears, w_ripe, w_room, w_tables⟩
theorem atStart : AtStart classFile x code maxLocals ret World_1 tables_1 room_1 Calls_1 rest_1 Pre_1 launch0 p0 e0 about1 theMethod args0 below0 :=
  ⟨lists_1, trivial, launch0.admits_env _ _ _, launch0.least_env, fairChoices_fair.cas, fairChoices_fair.clock, w_frames, w_args, w_heap, w_applies, trivial, trivial, w_case⟩
end start1
theorem witness_1 : WitnessClaimed_1 := ⟨start1.p0, start1.e0, start1.about1, start1.theMethod, start1.args0, start1.below0, start1.atStart⟩
end Jvm.Pilot.@@N@@
