import JvmDerived
import JvmDerived.Pilot.@@N@@Statement
import JvmDerived.Pilot.@@N@@Code
set_option linter.unusedVariables false
set_option linter.unusedSimpArgs false
namespace Jvm.Pilot.@@N@@
open Jvm Jvm.ClassFile Sem Op Lib Jvm.Free Jvm.Stand Jvm.LawKit Jvm.RoadKit Bundle Jvm.Pilot.@@N@@.Jvm.D
section OwnLayer
/-- the run from A ends, and P holds of how it ends -/
def own_Ends (tb : Tables) (e : Env) (below : List Frame) (P : Outcome → State → Prop) (A : State) : Prop :=
  ∃ s₂ o, Steps tb e below A s₂ ∧ s₂.status = .running ∧ Ended s₂ below o ∧ P o s₂
theorem own_st {tb : Tables} {e : Env} {below : List Frame} {P : Outcome → State → Prop} {A B : State} (h : ∀ t, Steps tb e below B t → Steps tb e below A t) (k : own_Ends tb e below P B) : own_Ends tb e below P A := by
  obtain ⟨s2, o, h1, h2⟩ := k
  exact ⟨s2, o, h _ h1, h2⟩
/-- where the walk stands: the state T, its heap h, k cells and n slots made, nothing below n0 written -/
def own_S (p : Program) (l : Launch) (e : Env) (R : Room) (s : State) (m : MethodId) (args : Array Value) (below : List Frame) (meth : Method) (c : Code) (n0 : Nat) (T : State) (h : Heap) (k n : Nat) : Prop :=
  ∃ locs, Stand p l e R s m args below meth c T locs k n ∧ T.heap = h ∧ Fr n0 locs
def own_P (s : State) (n0 : Nat) (Qf : Option Value → Heap → Prop) (C S : Nat) (o : Outcome) (U' : State) : Prop := ∃ v L, o = .returned v ∧ (Fr n0 L ∧ Qf v U'.heap) ∧ FrameEnd s o U' L C S
/-- a body's contract: called with 'as' at the heap h0 it returns, and Qf holds of what it returns and of the heap -/
def own_Con (l : Launch) (Z : State) (y : MethodName) (bytes : ByteArray) (maxL : Nat) (ret : Option FieldType) (ws : List Jvm.Cond) (rm : Room) (as' : Array Value) (h0 : Heap) (n0 : Nat) (Qf : Option Value → Heap → Prop) : Prop :=
  MetFree l y (head1 (Jvm.Cond.code y bytes maxL ret :: ws) rm) (fun a U => a = as' ∧ Z.Warmed39 U.vm ∧ U.heap = h0) (fun _ _ _ _ _ => True) (fun _ U o U' => ∃ v L, o = .returned v ∧ (Fr n0 L ∧ Qf v U'.heap) ∧ FrameEnd U o U' L rm.cells rm.slots)
variable {p : Program} {l : Launch} {e : Env} {R : Room} {s : State} {m : MethodId} {args : Array Value} {below : List Frame} {meth : Method} {c : Code} {n0 : Nat} {T : State} {h : Heap} {k n : Nat} {Z : State} {a0 : Array Value} {P : Outcome → State → Prop}
theorem own_here (Y : own_S p l e R s m args below meth c n0 T h k n) : At T m c below := by
  obtain ⟨_, X, -⟩ := Y
  exact X.here
theorem own_body {y : MethodName} {bytes : ByteArray} {maxL : Nat} {ret : Option FieldType} {ws : List Jvm.Cond} {rm : Room} {as' : Array Value} {h0 : Heap} {Qf : Option Value → Heap → Prop} (hpn : plainFor y = true)
    (hbody : ∀ (p : Program) (e : Env) (s : State) (m : MethodId) (below : List Frame) (meth : Method) (c : Code) (T : State), p.tables.exec = Jvm.exec → Z.Warmed39 s.vm → c.code = bytes → c.maxLocals = maxL → s.vm.findClass y.cls = some m.cls → meth.name = y.name → meth.sig.returnType = ret → meth.locks = false →
      own_S p l e rm s m as' below meth c n0 T h0 0 0 → own_Ends p.tables e below (own_P s n0 Qf rm.cells rm.slots) (T.setTop (entryFrame m as' maxL))) : own_Con l Z y bytes maxL ret ws rm as' h0 n0 Qf := by
  refine MetFree.of_bodySF hpn hisR ?_
  intro p e s m args below meth c s₁ Bd hml0 hP hK
  obtain ⟨rfl, hZ, hh⟩ := hP
  have hown : s.vm.findClass y.cls = some m.cls := findClass_of_methodNamed Bd.named
  have hnm := (name_of_methodNamed Bd.named Bd.method).1
  exact hbody p e s m below meth c s₁ Bd.exec hZ Bd.bytes hml0 hown hnm Bd.returns Bd.notSynchronized ⟨[], Stand.of_body Bd, by rw [← hh, Bd.state]; rfl, Fr.nil n0⟩
theorem own_leave (Y : own_S p l e R s m args below meth c n0 T h k n) (hlk : meth.locks = false) {v : Option Value} (hv : meth.sig.returnType = none → v = none) {Qf : Option Value → Heap → Prop} {C S : Nat} (hk : k ≤ C) (hn : n ≤ S) (hQ : Qf v h) {A : State}
    (st : ∀ (locs : List Loc) (fs : List Frame), Stand p l e R s m args below meth c T locs k n → (∀ (f : JFrame) (acts : List Action), f.method = m → f.locked = none → f.entered = [] → (doReturn e (T.setTop f) acts v).1 = T.setFrames fs) → Steps p.tables e below A (T.setFrames fs)) : own_Ends p.tables e below (own_P s n0 Qf C S) A := by
  obtain ⟨locs, X, e1, N⟩ := Y
  obtain ⟨fs, hr, hrun, hended, hW, hsame⟩ := X.leave hv hlk
  refine ⟨_, _, st locs fs X hr, hrun, hended, v, locs, rfl, ⟨N, ?_⟩, ⟨_, rfl⟩, hW, hsame.mono hk hn⟩
  show Qf v T.heap
  rw [e1]; exact hQ
theorem own_ret (Y : own_S p l e R s m args below meth c n0 T h k n) (hx : p.tables.exec = Jvm.exec) (hlk : meth.locks = false) {pc : Nat} {Ls : Array Slot} {w : Value} {t : FieldType} {i : Instr} {rest : List Value} (hret : meth.sig.returnType = some t) (hd : decode c.code pc = .ok (i, 1)) (hn : narrow t w = w)
    (hi : (i = .ireturn ∧ (t = .int ∨ t = .boolean ∨ t = .byte ∨ t = .char ∨ t = .short) ∧ ∃ z, w = .int z) ∨ (i = .lreturn ∧ t = .long ∧ ∃ z, w = .long z) ∨ (i = .dreturn ∧ t = .double ∧ ∃ z, w = .double z) ∨ (i = .freturn ∧ t = .float ∧ ∃ z, w = .float z) ∨ (i = .areturn ∧ t.isReference = true ∧ w.isRef = true))
    {Qf : Option Value → Heap → Prop} {C S : Nat} (hk : k ≤ C) (hs : n ≤ S) (hQ : Qf (some w) h) : own_Ends p.tables e below (own_P s n0 Qf C S) (T.setTop (mkF m pc Ls (w :: rest))) :=
  own_leave Y hlk (fun q => by rw [hret] at q; cases q) hk hs hQ fun _ _ X hr => retOut X hx hret hn hi hd hr
theorem own_retI (Y : own_S p l e R s m args below meth c n0 T h k n) (hx : p.tables.exec = Jvm.exec) (hlk : meth.locks = false) {pc : Nat} {Ls : Array Slot} {z : Int32} {rest : List Value} (hret : meth.sig.returnType = some .int) (hd : decode c.code pc = .ok (.ireturn, 1))
    {Qf : Option Value → Heap → Prop} {C S : Nat} (hk : k ≤ C) (hs : n ≤ S) (hQ : Qf (some (.int z)) h) : own_Ends p.tables e below (own_P s n0 Qf C S) (T.setTop (mkF m pc Ls (.int z :: rest))) :=
  own_ret Y hx hlk hret hd rfl (Or.inl ⟨rfl, Or.inl rfl, _, rfl⟩) hk hs hQ
theorem own_retN (Y : own_S p l e R s m args below meth c n0 T h k n) (hx : p.tables.exec = Jvm.exec) (hlk : meth.locks = false) {pc : Nat} {Ls : Array Slot} {z : Int32} {t : FieldType} {rest : List Value} (hret : meth.sig.returnType = some t) (ht : t = .boolean ∨ t = .byte ∨ t = .char ∨ t = .short) (hd : decode c.code pc = .ok (.ireturn, 1))
    {Qf : Option Value → Heap → Prop} {C S : Nat} (hk : k ≤ C) (hs : n ≤ S) (hQ : Qf (some (.int (nar t z))) h) : own_Ends p.tables e below (own_P s n0 Qf C S) (T.setTop (mkF m pc Ls (.int z :: rest))) :=
  own_leave Y hlk (fun q => by rw [hret] at q; cases q) hk hs hQ fun _ _ X hr => retN X hx hret ht hd hr
theorem own_retJ (Y : own_S p l e R s m args below meth c n0 T h k n) (hx : p.tables.exec = Jvm.exec) (hlk : meth.locks = false) {pc : Nat} {Ls : Array Slot} {z : Int64} {rest : List Value} (hret : meth.sig.returnType = some .long) (hd : decode c.code pc = .ok (.lreturn, 1))
    {Qf : Option Value → Heap → Prop} {C S : Nat} (hk : k ≤ C) (hs : n ≤ S) (hQ : Qf (some (.long z)) h) : own_Ends p.tables e below (own_P s n0 Qf C S) (T.setTop (mkF m pc Ls (.long z :: rest))) :=
  own_ret Y hx hlk hret hd rfl (Or.inr (Or.inl ⟨rfl, rfl, _, rfl⟩)) hk hs hQ
theorem own_retA (Y : own_S p l e R s m args below meth c n0 T h k n) (hx : p.tables.exec = Jvm.exec) (hlk : meth.locks = false) {pc : Nat} {Ls : Array Slot} {w : Value} {t : FieldType} {rest : List Value} (hret : meth.sig.returnType = some t) (ht : t.isReference = true) (hw : w.isRef = true) (hn : narrow t w = w) (hd : decode c.code pc = .ok (.areturn, 1))
    {Qf : Option Value → Heap → Prop} {C S : Nat} (hk : k ≤ C) (hs : n ≤ S) (hQ : Qf (some w) h) : own_Ends p.tables e below (own_P s n0 Qf C S) (T.setTop (mkF m pc Ls (w :: rest))) :=
  own_ret Y hx hlk hret hd hn (Or.inr (Or.inr (Or.inr (Or.inr ⟨rfl, ht, hw⟩)))) hk hs hQ
theorem own_retV (Y : own_S p l e R s m args below meth c n0 T h k n) (hx : p.tables.exec = Jvm.exec) (hlk : meth.locks = false) {pc : Nat} {Ls : Array Slot} (hret : meth.sig.returnType = none) (hd : decode c.code pc = .ok (.return_, 1))
    {Qf : Option Value → Heap → Prop} {C S : Nat} (hk : k ≤ C) (hs : n ≤ S) (hQ : Qf none h) : own_Ends p.tables e below (own_P s n0 Qf C S) (T.setTop (mkF m pc Ls [])) :=
  own_leave Y hlk (fun _ => rfl) hk hs hQ fun _ _ X hr => X.returnOut hx hret hd hr
/-! fields -/
theorem own_getF (Y : own_S p l e R s m args below meth c n0 T h k n) (hx : p.tables.exec = Jvm.exec) (hZ : Z.Warmed39 s.vm) {own R0 O f d host : String} {index : Nat} (hown : s.vm.findClass own = some m.cls) (w : (Jvm.Cond.fieldLink own index R0 f d).before a0 Z = true ∨ (Jvm.Cond.fieldLinkNest own index R0 f d host).before a0 Z = true) (via : Via Z R0 O f d) {a : Addr} {v : Value} (F : Fld Z h a O f d v)
    {g : JFrame} (hg : g.method = m) {rest : List Value} (hs : g.stack = .ref a :: rest) (hd : decode c.code g.pc = .ok (.getfield index, 3)) (K : ∀ T', own_S p l e R s m args below meth c n0 T' h k n → own_Ends p.tables e below P (T'.setTop { g with pc := g.pc + 3, stack := v :: rest })) : own_Ends p.tables e below P (T.setTop g) := by
  obtain ⟨locs, X, e1, N⟩ := Y
  obtain ⟨T', X', e', st⟩ := getF X hx hZ hown w via e1 F hg hs hd
  exact own_st st (K T' ⟨locs, X', e', N⟩)
theorem own_putF (Y : own_S p l e R s m args below meth c n0 T h k n) (hx : p.tables.exec = Jvm.exec) (hZ : Z.Warmed39 s.vm) {own R0 O f d host C : String} {index kk : Nat} {ty : FieldType} (hown : s.vm.findClass own = some m.cls) (w : (Jvm.Cond.fieldLink own index R0 f d).before a0 Z = true ∨ (Jvm.Cond.fieldLinkNest own index R0 f d host).before a0 Z = true) (via : Via Z R0 O f d) {a : Addr} {v old : Value} (F : Fld Z h a O f d old) (E : Exa Z h a C)
    (L : (Jvm.Cond.lays C O f d).before a0 Z = true ∨ ((Jvm.Cond.laysFinal C O f d).before a0 Z = true ∧ own = O ∧ meth.name = "<init>")) (wi : (Jvm.Cond.instantiable C kk).before a0 Z = true) (ha : n0 ≤ a) (hty : parseFieldDescriptor d = some ty) (hn : narrow ty v = v) (hf : fits ty v = true) {g : JFrame} (hg : g.method = m) {rest : List Value} (hs : g.stack = v :: .ref a :: rest) (hd : decode c.code g.pc = .ok (.putfield index, 3))
    (K : ∀ T' h', own_S p l e R s m args below meth c n0 T' h' k n → Wr h h' a (Jvm.RoadKit.slotOf Z O f d) v → Fld Z h' a O f d v → own_Ends p.tables e below P (T'.setTop { g with pc := g.pc + 3, stack := rest })) : own_Ends p.tables e below P (T.setTop g) := by
  obtain ⟨locs, X, e1, N⟩ := Y
  obtain ⟨T', h', X', e', W, st⟩ := putF X hx hZ hown w via e1 F E L wi hty hn hf hg hs hd
  exact own_st st (K T' h' ⟨_, X', e', Fr.snoc X' N ha⟩ W (F.same W))
theorem own_putFN (Y : own_S p l e R s m args below meth c n0 T h k n) (hx : p.tables.exec = Jvm.exec) (hZ : Z.Warmed39 s.vm) {own R0 O f d C : String} {index kk : Nat} {ty : FieldType} (hown : s.vm.findClass own = some m.cls) (w : (Jvm.Cond.fieldLink own index R0 f d).before a0 Z = true) (via : Via Z R0 O f d) {a : Addr} {v v' old : Value} (F : Fld Z h a O f d old) (E : Exa Z h a C)
    (L : (Jvm.Cond.lays C O f d).before a0 Z = true ∨ ((Jvm.Cond.laysFinal C O f d).before a0 Z = true ∧ own = O ∧ meth.name = "<init>")) (wi : (Jvm.Cond.instantiable C kk).before a0 Z = true) (ha : n0 ≤ a) (hty : parseFieldDescriptor d = some ty) (hn : narrow ty v = v') (hf : fits ty v' = true) {g : JFrame} (hg : g.method = m) {rest : List Value} (hs : g.stack = v :: .ref a :: rest) (hd : decode c.code g.pc = .ok (.putfield index, 3))
    (K : ∀ T' h', own_S p l e R s m args below meth c n0 T' h' k n → Wr h h' a (Jvm.RoadKit.slotOf Z O f d) v' → Fld Z h' a O f d v' → own_Ends p.tables e below P (T'.setTop { g with pc := g.pc + 3, stack := rest })) : own_Ends p.tables e below P (T.setTop g) := by
  obtain ⟨locs, X, e1, N⟩ := Y
  obtain ⟨T', h', X', e', W, st⟩ := putFN X hx hZ hown w via e1 F E L wi hty hn hf hg hs hd
  exact own_st st (K T' h' ⟨_, X', e', Fr.snoc X' N ha⟩ W (F.same W))
theorem own_getS (Y : own_S p l e R s m args below meth c n0 T h k n) (hx : p.tables.exec = Jvm.exec) (hZ : Z.Warmed39 s.vm) {own R0 O f d host : String} {index : Nat} (hown : s.vm.findClass own = some m.cls) (w : (Jvm.Cond.fieldLink own index R0 f d).before a0 Z = true ∨ (Jvm.Cond.fieldLinkNest own index R0 f d host).before a0 Z = true) (via : Via Z R0 O f d) {v : Value} (F : Sta Z h O f d v)
    {g : JFrame} (hg : g.method = m) (hd : decode c.code g.pc = .ok (.getstatic index, 3)) (K : ∀ T', own_S p l e R s m args below meth c n0 T' h k n → own_Ends p.tables e below P (T'.setTop { g with pc := g.pc + 3, stack := v :: g.stack })) : own_Ends p.tables e below P (T.setTop g) := by
  obtain ⟨locs, X, e1, N⟩ := Y
  obtain ⟨T', X', e', st⟩ := getS2 X hx hZ hown w via e1 F hg hd
  exact own_st st (K T' ⟨locs, X', e', N⟩)
/-! new objects -/
theorem own_new (Y : own_S p l e R s m args below meth c n0 T h k n) (hx : p.tables.exec = Jvm.exec) (hZ : Z.Warmed39 s.vm) {own C : String} {index nn : Nat} (hown : s.vm.findClass own = some m.cls) (w : (Jvm.Cond.classLink own index C).before a0 Z = true) (wi : (Jvm.Cond.instantiable C nn).before a0 Z = true) (wz : (Jvm.Cond.initialized C).before a0 Z = true)
    {g : JFrame} (hg : g.method = m) (hd : decode c.code g.pc = .ok (.new index, 3)) (hc : k + 1 ≤ R.cells) (hl : n + nn ≤ R.slots)
    (K : ∀ T' h' b, b = h.size → own_S p l e R s m args below meth c n0 T' h' (k + 1) (n + nn) → Ext h h' → Exa Z h' b C → (∀ (O nm d : String) (ty : FieldType), Laid Z a0 C O nm d → parseFieldDescriptor d = some ty → Fld Z h' b O nm d (defaultValue ty)) →
      own_Ends p.tables e below P (T'.setTop { g with pc := g.pc + 3, stack := .ref b :: g.stack })) : own_Ends p.tables e below P (T.setTop g) := by
  obtain ⟨locs, X, e1, N⟩ := Y
  obtain ⟨T', h', X', e', E, A, D, -, st⟩ := newO X hx hZ hown w wi wz e1 hg hd hc hl
  exact own_st st (K T' h' _ rfl ⟨locs, X', e', N⟩ E A (fun _ _ _ _ q r => D q r))
theorem own_initO (Y : own_S p l e R s m args below meth c n0 T h k n) (hx : p.tables.exec = Jvm.exec) (hZ : Z.Warmed39 s.vm) {own : String} {idx : Nat} (hown : s.vm.findClass own = some m.cls) (w1 : (Jvm.Cond.methodLink own idx Lib.objectInit).before a0 Z = true) (w2 : (Jvm.Cond.instanceMethod Lib.objectInit).before a0 Z = true) (w3 : (Jvm.Cond.code Lib.objectInit ⟨#[0xb1]⟩ 1 none).before a0 Z = true)
    {g : JFrame} (hg : g.method = m) (hsize : g.locals.size = c.maxLocals) {a : Addr} {rest : List Value} (hs : g.stack = .ref a :: rest) (hd : decode c.code g.pc = .ok (.invokespecial idx, 3)) (hf : 1 ≤ R.frames) {W : Nat} (hW : 2 * g.monitorRoom + (rest.map fun v => v.category).sum ≤ W) (hl : W + 12 ≤ R.locals)
    (K : ∀ T', own_S p l e R s m args below meth c n0 T' h k n → own_Ends p.tables e below P (T'.setTop { g with pc := g.pc + 3, stack := rest })) : own_Ends p.tables e below P (T.setTop g) := by
  obtain ⟨locs, X, e1, N⟩ := Y
  obtain ⟨T', X', e', st⟩ := initO X hx hZ hown w1 w2 w3 e1 hg hsize hs hd hf hW hl
  exact own_st st (K T' ⟨locs, X', e', N⟩)
/-! arrays: the cell's slots are the list vs -/
def own_A (Z : State) (h : Heap) (a : Addr) (ty : FieldType) (vs : List Value) : Prop := ∃ c : Cell, Arr Z h a c ty ∧ c.slots.toList = vs ∧ vs.length < 2 ^ 31
theorem own_A.lt {a : Addr} {ty : FieldType} {vs : List Value} (A : own_A Z h a ty vs) : a < h.size := by obtain ⟨c, A, -⟩ := A; exact A.lt
theorem own_A.ext {h' : Heap} {a : Addr} {ty : FieldType} {vs : List Value} (A : own_A Z h a ty vs) (E : Ext h h') : own_A Z h' a ty vs := by obtain ⟨c, A, r⟩ := A; exact ⟨c, A.ext E, r⟩
theorem own_A.other {h' : Heap} {a b : Addr} {sl : Nat} {v : Value} {ty : FieldType} {vs : List Value} (A : own_A Z h a ty vs) (W : Wr h h' b sl v) (q : a ≠ b) : own_A Z h' a ty vs := by obtain ⟨c, A, r⟩ := A; exact ⟨c, A.other W q, r⟩
theorem own_A.keep {h' : Heap} {a : Addr} {ws : List Addr} {ty : FieldType} {vs : List Value} (A : own_A Z h a ty vs) (K : Keep h h' ws) (q : a ∉ ws) : own_A Z h' a ty vs := by obtain ⟨c, A, r⟩ := A; exact ⟨c, ⟨K.2.1 a c A.1 q, A.2⟩, r⟩
theorem own_sz {c : Cell} {vs : List Value} (q : c.slots.toList = vs) : c.slots.size = vs.length := by rw [← q]; simp
theorem own_in {c : Cell} {vs : List Value} {j : Int32} {i : Nat} (q : c.slots.toList = vs) (hj : ¬ j < 0) (hi : j.toNatClampNeg = i) (hl : i < vs.length) : ¬ (j < 0 ∨ c.slots.size ≤ j.toNatClampNeg) := by
  rw [own_sz q, hi]; intro z; rcases z with z | z
  · exact hj z
  · omega
theorem own_get {c : Cell} {vs : List Value} {j : Int32} {i : Nat} {v : Value} (q : c.slots.toList = vs) (hi : j.toNatClampNeg = i) (hv : vs[i]? = some v) : c.slots[j.toNatClampNeg]? = some v := by
  rw [hi, ← Array.getElem?_toList, q, hv]
theorem own_A.set {h' : Heap} {a : Addr} {ty : FieldType} {vs : List Value} {cl : Cell} {i : Nat} {v : Value} (A : Arr Z h a cl ty) (q : cl.slots.toList = vs) (hl : vs.length < 2 ^ 31) (W : Wr h h' a i v) : own_A Z h' a ty (vs.set i v) :=
  ⟨_, A.same W, by simp [Cell.setSlot, q], by simpa using hl⟩
theorem own_newP (Y : own_S p l e R s m args below meth c n0 T h k n) (hx : p.tables.exec = Jvm.exec) (hZ : Z.Warmed39 s.vm) {aty : ArrayType} (w : (Jvm.Cond.arrayClass (newarray.typeOf aty)).before a0 Z = true) {g : JFrame} (hg : g.method = m) (hd : decode c.code g.pc = .ok (.newarray aty, 2)) {z : Int32} {rest : List Value} (hs : g.stack = .int z :: rest)
    (hz : ¬ z < 0) {nz cap : Nat} (hn : z.toNatClampNeg = nz) (hcap : nz ≤ cap) (hb : cap * 8 ≤ 536870912) (hc : k + 1 ≤ R.cells) (hl : n + cap ≤ R.slots) {ty : FieldType} (hty : newarray.typeOf aty = ty)
    (K : ∀ T' h' b, b = h.size → own_S p l e R s m args below meth c n0 T' h' (k + 1) (n + cap) → Ext h h' → own_A Z h' b ty (List.replicate nz (defaultValue ty)) → own_Ends p.tables e below P (T'.setTop { g with pc := g.pc + 2, stack := .ref b :: rest })) : own_Ends p.tables e below P (T.setTop g) := by
  obtain ⟨locs, X, e1, N⟩ := Y
  subst hty
  obtain ⟨T', h', cA, X', e', E, A, st⟩ := newP X hx hZ w e1 hg hd hs hz (cap := cap) (by rw [hn]; exact hcap) hb hc hl
  refine own_st st (K T' h' _ rfl ⟨locs, X', e', N⟩ E ⟨_, A, ?_, ?_⟩)
  · simp [newA, hn]
  · simp; omega
theorem own_newR (Y : own_S p l e R s m args below meth c n0 T h k n) (hx : p.tables.exec = Jvm.exec) (hZ : Z.Warmed39 s.vm) {own C : String} {index : Nat} (hown : s.vm.findClass own = some m.cls) (w1 : (Jvm.Cond.classLink own index C).before a0 Z = true) (w2 : (Jvm.Cond.arrayOver (.object C)).before a0 Z = true) {g : JFrame} (hg : g.method = m) (hd : decode c.code g.pc = .ok (.anewarray index, 3)) {z : Int32} {rest : List Value} (hs : g.stack = .int z :: rest)
    (hz : ¬ z < 0) {nz cap : Nat} (hn : z.toNatClampNeg = nz) (hcap : nz ≤ cap) (hb : cap * 8 ≤ 536870912) (hc : k + 1 ≤ R.cells) (hl : n + cap ≤ R.slots)
    (K : ∀ T' h' b, b = h.size → own_S p l e R s m args below meth c n0 T' h' (k + 1) (n + cap) → Ext h h' → own_A Z h' b (.object C) (List.replicate nz .null) → own_Ends p.tables e below P (T'.setTop { g with pc := g.pc + 3, stack := .ref b :: rest })) : own_Ends p.tables e below P (T.setTop g) := by
  obtain ⟨locs, X, e1, N⟩ := Y
  obtain ⟨T', h', cA, X', e', E, A, O, st⟩ := newR X hx hZ hown w1 w2 e1 hg hd hs hz (cap := cap) (by rw [hn]; exact hcap) hb hc hl
  refine own_st st (K T' h' _ rfl ⟨locs, X', e', N⟩ E ⟨_, A, ?_, ?_⟩)
  · simp [newA, hn, defaultValue]
  · simp; omega
theorem own_mono (Y : own_S p l e R s m args below meth c n0 T h k n) {k' n' : Nat} (hk : k ≤ k') (hn : n ≤ n') : own_S p l e R s m args below meth c n0 T h k' n' := by
  obtain ⟨locs, X, r⟩ := Y
  exact ⟨locs, { X with same := X.same.mono hk hn }, r⟩
theorem own_stI (Y : own_S p l e R s m args below meth c n0 T h k n) (hx : p.tables.exec = Jvm.exec) (hZ : Z.Warmed39 s.vm) {a : Addr} {vs : List Value} (A : own_A Z h a .int vs) (ha : n0 ≤ a) {j x : Int32} {i : Nat} (hj : ¬ j < 0) (hi : j.toNatClampNeg = i) (hl : i < vs.length) {g : JFrame} (hg : g.method = m) {rest : List Value} (hs : g.stack = .int x :: .int j :: .ref a :: rest) (hd : decode c.code g.pc = .ok (.iastore, 1))
    (K : ∀ T' h', own_S p l e R s m args below meth c n0 T' h' k n → Wr h h' a i (.int x) → own_A Z h' a .int (vs.set i (.int x)) → own_Ends p.tables e below P (T'.setTop { g with pc := g.pc + 1, stack := rest })) : own_Ends p.tables e below P (T.setTop g) := by
  obtain ⟨locs, X, e1, N⟩ := Y
  obtain ⟨cl, A, q, r⟩ := A
  obtain ⟨T', h', X', e', W, st⟩ := stI X hx hZ e1 A (own_in q hj hi hl) hg hs hd
  have W' := W; rw [hi] at W'
  exact own_st st (K T' h' ⟨_, X', e', Fr.snoc X' N ha⟩ W' (own_A.set A q r W'))
theorem own_stJ (Y : own_S p l e R s m args below meth c n0 T h k n) (hx : p.tables.exec = Jvm.exec) (hZ : Z.Warmed39 s.vm) {a : Addr} {vs : List Value} (A : own_A Z h a .long vs) (ha : n0 ≤ a) {j : Int32} {x : Int64} {i : Nat} (hj : ¬ j < 0) (hi : j.toNatClampNeg = i) (hl : i < vs.length) {g : JFrame} (hg : g.method = m) {rest : List Value} (hs : g.stack = .long x :: .int j :: .ref a :: rest) (hd : decode c.code g.pc = .ok (.lastore, 1))
    (K : ∀ T' h', own_S p l e R s m args below meth c n0 T' h' k n → Wr h h' a i (.long x) → own_A Z h' a .long (vs.set i (.long x)) → own_Ends p.tables e below P (T'.setTop { g with pc := g.pc + 1, stack := rest })) : own_Ends p.tables e below P (T.setTop g) := by
  obtain ⟨locs, X, e1, N⟩ := Y
  obtain ⟨cl, A, q, r⟩ := A
  obtain ⟨T', h', X', e', W, st⟩ := stJ X hx hZ e1 A (own_in q hj hi hl) hg hs hd
  have W' := W; rw [hi] at W'
  exact own_st st (K T' h' ⟨_, X', e', Fr.snoc X' N ha⟩ W' (own_A.set A q r W'))
theorem own_stB (Y : own_S p l e R s m args below meth c n0 T h k n) (hx : p.tables.exec = Jvm.exec) (hZ : Z.Warmed39 s.vm) {a : Addr} {vs : List Value} (A : own_A Z h a .byte vs) (ha : n0 ≤ a) {j x : Int32} {i : Nat} (hj : ¬ j < 0) (hi : j.toNatClampNeg = i) (hl : i < vs.length) {g : JFrame} (hg : g.method = m) {rest : List Value} (hs : g.stack = .int x :: .int j :: .ref a :: rest) (hd : decode c.code g.pc = .ok (.bastore, 1))
    (K : ∀ T' h', own_S p l e R s m args below meth c n0 T' h' k n → Wr h h' a i (.int x.toInt8.toInt32) → own_A Z h' a .byte (vs.set i (.int x.toInt8.toInt32)) → own_Ends p.tables e below P (T'.setTop { g with pc := g.pc + 1, stack := rest })) : own_Ends p.tables e below P (T.setTop g) := by
  obtain ⟨locs, X, e1, N⟩ := Y
  obtain ⟨cl, A, q, r⟩ := A
  obtain ⟨T', h', X', e', W, st⟩ := stB X hx hZ e1 A (own_in q hj hi hl) hg hs hd
  have W' := W; rw [hi] at W'
  exact own_st st (K T' h' ⟨_, X', e', Fr.snoc X' N ha⟩ W' (own_A.set A q r W'))
theorem own_stC (Y : own_S p l e R s m args below meth c n0 T h k n) (hx : p.tables.exec = Jvm.exec) (hZ : Z.Warmed39 s.vm) {a : Addr} {vs : List Value} (A : own_A Z h a .char vs) (ha : n0 ≤ a) {j x : Int32} {i : Nat} (hj : ¬ j < 0) (hi : j.toNatClampNeg = i) (hl : i < vs.length) {g : JFrame} (hg : g.method = m) {rest : List Value} (hs : g.stack = .int x :: .int j :: .ref a :: rest) (hd : decode c.code g.pc = .ok (.castore, 1))
    (K : ∀ T' h', own_S p l e R s m args below meth c n0 T' h' k n → Wr h h' a i (.int x.toUInt32.toUInt16.toUInt32.toInt32) → own_A Z h' a .char (vs.set i (.int x.toUInt32.toUInt16.toUInt32.toInt32)) → own_Ends p.tables e below P (T'.setTop { g with pc := g.pc + 1, stack := rest })) : own_Ends p.tables e below P (T.setTop g) := by
  obtain ⟨locs, X, e1, N⟩ := Y
  obtain ⟨cl, A, q, r⟩ := A
  obtain ⟨T', h', X', e', W, st⟩ := stC X hx hZ e1 A (own_in q hj hi hl) hg hs hd
  have W' := W; rw [hi] at W'
  exact own_st st (K T' h' ⟨_, X', e', Fr.snoc X' N ha⟩ W' (own_A.set A q r W'))
theorem own_len (Y : own_S p l e R s m args below meth c n0 T h k n) (hx : p.tables.exec = Jvm.exec) (hZ : Z.Warmed39 s.vm) {a : Addr} {ty : FieldType} {vs : List Value} (A : own_A Z h a ty vs) {z : Int32} (hz : vs.length.toInt32 = z) {g : JFrame} (hg : g.method = m) {rest : List Value} (hs : g.stack = .ref a :: rest) (hd : decode c.code g.pc = .ok (.arraylength, 1))
    (K : own_Ends p.tables e below P (T.setTop { g with pc := g.pc + 1, stack := .int z :: rest })) : own_Ends p.tables e below P (T.setTop g) := by
  obtain ⟨locs, X, e1, N⟩ := Y
  obtain ⟨cl, A, q, r⟩ := A
  refine own_st (fun t => X.arraylength hx (by rw [e1]; exact A.1) (State.isArrayOf_alike hZ.alike A.2.1) hg hs hd t) ?_
  rw [own_sz q, hz]; exact K
theorem own_ldI (Y : own_S p l e R s m args below meth c n0 T h k n) (hx : p.tables.exec = Jvm.exec) (hZ : Z.Warmed39 s.vm) {a : Addr} {vs : List Value} (A : own_A Z h a .int vs) {j : Int32} {i : Nat} (hj : ¬ j < 0) (hi : j.toNatClampNeg = i) (hl : i < vs.length) {v : Value} (hv : vs[i]? = some v) {g : JFrame} (hg : g.method = m) {rest : List Value} (hs : g.stack = .int j :: .ref a :: rest) (hd : decode c.code g.pc = .ok (.iaload, 1))
    (K : own_Ends p.tables e below P (T.setTop { g with pc := g.pc + 1, stack := v :: rest })) : own_Ends p.tables e below P (T.setTop g) := by
  obtain ⟨locs, X, e1, N⟩ := Y
  obtain ⟨cl, A, q, r⟩ := A
  exact own_st (fun t => X.iaload hx (by rw [e1]; exact A.1) (State.isArrayOf_alike hZ.alike A.2.1) A.2.2 (own_in q hj hi hl) (own_get q hi hv) hg hs hd t) K
theorem own_ldB (Y : own_S p l e R s m args below meth c n0 T h k n) (hx : p.tables.exec = Jvm.exec) (hZ : Z.Warmed39 s.vm) {a : Addr} {vs : List Value} (A : own_A Z h a .byte vs) {j : Int32} {i : Nat} (hj : ¬ j < 0) (hi : j.toNatClampNeg = i) (hl : i < vs.length) {v : Value} (hv : vs[i]? = some v) {g : JFrame} (hg : g.method = m) {rest : List Value} (hs : g.stack = .int j :: .ref a :: rest) (hd : decode c.code g.pc = .ok (.baload, 1))
    (K : own_Ends p.tables e below P (T.setTop { g with pc := g.pc + 1, stack := v :: rest })) : own_Ends p.tables e below P (T.setTop g) := by
  obtain ⟨locs, X, e1, N⟩ := Y
  obtain ⟨cl, A, q, r⟩ := A
  exact own_st (fun t => X.baloadBytes hx (by rw [e1]; exact A.1) (State.isArrayOf_alike hZ.alike A.2.1) A.2.2 (own_in q hj hi hl) (own_get q hi hv) hg hs hd t) K
theorem own_ldC (Y : own_S p l e R s m args below meth c n0 T h k n) (hx : p.tables.exec = Jvm.exec) (hZ : Z.Warmed39 s.vm) {a : Addr} {vs : List Value} (A : own_A Z h a .char vs) {j : Int32} {i : Nat} (hj : ¬ j < 0) (hi : j.toNatClampNeg = i) (hl : i < vs.length) {v : Value} (hv : vs[i]? = some v) {g : JFrame} (hg : g.method = m) {rest : List Value} (hs : g.stack = .int j :: .ref a :: rest) (hd : decode c.code g.pc = .ok (.caload, 1))
    (K : own_Ends p.tables e below P (T.setTop { g with pc := g.pc + 1, stack := v :: rest })) : own_Ends p.tables e below P (T.setTop g) := by
  obtain ⟨locs, X, e1, N⟩ := Y
  obtain ⟨cl, A, q, r⟩ := A
  exact own_st (fun t => X.caload hx (by rw [e1]; exact A.1) (State.isArrayOf_alike hZ.alike A.2.1) A.2.2 (own_in q hj hi hl) (own_get q hi hv) hg hs hd t) K
theorem own_ldJ (Y : own_S p l e R s m args below meth c n0 T h k n) (hx : p.tables.exec = Jvm.exec) (hZ : Z.Warmed39 s.vm) {a : Addr} {vs : List Value} (A : own_A Z h a .long vs) {j : Int32} {i : Nat} (hj : ¬ j < 0) (hi : j.toNatClampNeg = i) (hl : i < vs.length) {v : Value} (hv : vs[i]? = some v) {g : JFrame} (hg : g.method = m) {rest : List Value} (hs : g.stack = .int j :: .ref a :: rest) (hd : decode c.code g.pc = .ok (.laload, 1))
    (K : own_Ends p.tables e below P (T.setTop { g with pc := g.pc + 1, stack := v :: rest })) : own_Ends p.tables e below P (T.setTop g) := by
  obtain ⟨locs, X, e1, N⟩ := Y
  obtain ⟨cl, A, q, r⟩ := A
  exact own_st (fun t => X.laload hx (by rw [e1]; exact A.1) (State.isArrayOf_alike hZ.alike A.2.1) A.2.2 (own_in q hj hi hl) (own_get q hi hv) hg hs hd t) K
/-! constants -/
theorem own_ldcI (Y : own_S p l e R s m args below meth c n0 T h k n) (hx : p.tables.exec = Jvm.exec) (hZ : Z.Warmed39 s.vm) {own : String} {index : Nat} {v : Int32} (hown : s.vm.findClass own = some m.cls) (w : (Jvm.Cond.constant own index v).before a0 Z = true) {g : JFrame} (hg : g.method = m) (hd : decode c.code g.pc = .ok (.ldc index, 2))
    (K : own_Ends p.tables e below P (T.setTop { g with pc := g.pc + 2, stack := .int v :: g.stack })) : own_Ends p.tables e below P (T.setTop g) := by
  obtain ⟨locs, X, e1, N⟩ := Y
  exact own_st (X.ldcInt hx hown (mvT hZ w) hg hd) K
theorem own_ldcJ (Y : own_S p l e R s m args below meth c n0 T h k n) (hx : p.tables.exec = Jvm.exec) (hZ : Z.Warmed39 s.vm) {own : String} {index : Nat} {v : Int64} (hown : s.vm.findClass own = some m.cls) (w : (Jvm.Cond.constantLong own index v).before a0 Z = true) {g : JFrame} (hg : g.method = m) (hd : decode c.code g.pc = .ok (.ldc2_w index, 3))
    (K : own_Ends p.tables e below P (T.setTop { g with pc := g.pc + 3, stack := .long v :: g.stack })) : own_Ends p.tables e below P (T.setTop g) := by
  obtain ⟨locs, X, e1, N⟩ := Y
  exact own_st (X.ldc2Long hx hown (mvT hZ w) hg hd) K
theorem own_irem (Y : own_S p l e R s m args below meth c n0 T h k n) (hx : p.tables.exec = Jvm.exec) {g : JFrame} (hg : g.method = m) {x y : Int32} {rest : List Value} (hd : decode c.code g.pc = .ok (.irem, 1)) (hs : g.stack = .int y :: .int x :: rest) (hy : y ≠ 0)
    (K : own_Ends p.tables e below P (T.setTop { g with pc := g.pc + 1, stack := .int (x % y) :: rest })) : own_Ends p.tables e below P (T.setTop g) := by
  obtain ⟨locs, X, e1, N⟩ := Y
  exact own_st (fun t => iremM X hx hg hd hs hy) K
/-! calls by contract -/
theorem own_callS (Y : own_S p l e R s m args below meth c n0 T h k n) (hx : p.tables.exec = Jvm.exec) (hZ : Z.Warmed39 s.vm) {own : String} {index : Nat} {y : MethodName} {bytes : ByteArray} {maxL : Nat} {ret : Option FieldType} (hown : s.vm.findClass own = some m.cls) (wl : (Jvm.Cond.methodLink own index y).before a0 Z = true) (wst : (Jvm.Cond.static y).before a0 Z = true) (wi : (Jvm.Cond.initialized y.cls).before a0 Z = true) (wc : (Jvm.Cond.code y bytes maxL ret).before a0 Z = true)
    (hy : y.cls ≠ "java/lang/invoke/MethodHandle" ∧ y.cls ≠ "java/lang/invoke/VarHandle") {rm : Room} {argsL rest : List Value} {Qf : Option Value → Heap → Prop} (hM : own_Con l Z y bytes maxL ret [] rm argsL.toArray h n0 Qf) {W : Nat} (hfr : rm.frames + 1 ≤ R.frames) (hlo : W + (maxL + 11) + rm.locals ≤ R.locals) (hc : k + rm.cells ≤ R.cells) (hsl : n + rm.slots ≤ R.slots)
    {g : JFrame} (hg : g.method = m) (hsize : g.locals.size = c.maxLocals) (hlen : ∀ sig, parseMethodDescriptor y.desc = some sig → argsL.length = sig.parameters.length) (hs : g.stack = argsL.reverse ++ rest) (hW : 2 * g.monitorRoom + (rest.map fun v => v.category).sum ≤ W) (hd : decode c.code g.pc = .ok (.invokestatic index, 3))
    (K : ∀ T' h' v, own_S p l e R s m args below meth c n0 T' h' (k + rm.cells) (n + rm.slots) → Qf v h' → own_Ends p.tables e below P (T'.setTop { g with pc := g.pc + 3, stack := v.toList ++ rest })) : own_Ends p.tables e below P (T.setTop g) := by
  obtain ⟨locs, X, e1, N⟩ := Y
  obtain ⟨v, vm1, ⟨T', L', k', n'⟩, -, X', ⟨L, hQ, l1, y1, z1⟩, st⟩ := Jvm.LawKit.callS X hx hown (mvT hZ wl) (mvT hZ wst) (mvT hZ wi) (mvT hZ wc) hy (backOf (W := W) (Q := fun v h L => Fr n0 L ∧ Qf v h) hM hZ wc wi hfr hlo) hg hsize hlen hs hW hd (fun _ _ => ⟨rfl, e1, hc, hsl⟩)
  dsimp only [Pt.U, Pt.locs, Pt.cells, Pt.slots] at X' l1 y1 z1 st hQ
  subst l1 y1 z1
  exact own_st st (K T' _ v ⟨_, X', rfl, Fr.app N hQ.1⟩ hQ.2)
theorem own_callN (Y : own_S p l e R s m args below meth c n0 T h k n) (hx : p.tables.exec = Jvm.exec) (hZ : Z.Warmed39 s.vm) {own : String} {index : Nat} {y : MethodName} {bytes : ByteArray} {maxL : Nat} (hy1 : y.name = "<init>") (hown : s.vm.findClass own = some m.cls) (wl : (Jvm.Cond.methodLink own index y).before a0 Z = true) (win : (Jvm.Cond.instanceMethod y).before a0 Z = true) (wi : (Jvm.Cond.initialized y.cls).before a0 Z = true) (wc : (Jvm.Cond.code y bytes maxL none).before a0 Z = true)
    (hy : y.cls ≠ "java/lang/invoke/MethodHandle" ∧ y.cls ≠ "java/lang/invoke/VarHandle") {rm : Room} {a : Addr} {argsL rest : List Value} {Qf : Option Value → Heap → Prop} (hM : own_Con l Z y bytes maxL none [] rm (.ref a :: argsL).toArray h n0 Qf) {W : Nat} (hfr : rm.frames + 1 ≤ R.frames) (hlo : W + (maxL + 11) + rm.locals ≤ R.locals) (hc : k + rm.cells ≤ R.cells) (hsl : n + rm.slots ≤ R.slots)
    {g : JFrame} (hg : g.method = m) (hsize : g.locals.size = c.maxLocals) (hlen : ∀ sig, parseMethodDescriptor y.desc = some sig → argsL.length = sig.parameters.length) (hs : g.stack = argsL.reverse ++ .ref a :: rest) (hW : 2 * g.monitorRoom + (rest.map fun v => v.category).sum ≤ W) (hd : decode c.code g.pc = .ok (.invokespecial index, 3))
    (K : ∀ T' h' v, own_S p l e R s m args below meth c n0 T' h' (k + rm.cells) (n + rm.slots) → Qf v h' → own_Ends p.tables e below P (T'.setTop { g with pc := g.pc + 3, stack := v.toList ++ rest })) : own_Ends p.tables e below P (T.setTop g) := by
  obtain ⟨locs, X, e1, N⟩ := Y
  obtain ⟨v, vm1, ⟨T', L', k', n'⟩, -, X', ⟨L, hQ, l1, y1, z1⟩, st⟩ := X.specialBack hx hy1 hown (mvT hZ wl) (mvT hZ win) (mvT hZ wc) hy (backOf (W := W) (Q := fun v h L => Fr n0 L ∧ Qf v h) hM hZ wc wi hfr hlo) hg hsize (Steps.refl _) hlen hs hW hd (fun _ _ => ⟨rfl, e1, hc, hsl⟩)
  dsimp only [Pt.U, Pt.locs, Pt.cells, Pt.slots] at X' l1 y1 z1 st hQ
  subst l1 y1 z1
  exact own_st (fun t q => st.trans q) (K T' _ v ⟨_, X', rfl, Fr.app N hQ.1⟩ hQ.2)
theorem own_callV (Y : own_S p l e R s m args below meth c n0 T h k n) (hx : p.tables.exec = Jvm.exec) (hZ : Z.Warmed39 s.vm) {own C : String} {index : Nat} {y z : MethodName} {bytes : ByteArray} {maxL : Nat} {ret : Option FieldType} (hown : s.vm.findClass own = some m.cls) (wl : (Jvm.Cond.methodLink own index y).before a0 Z = true) (wd : (Jvm.Cond.declares y).before a0 Z = true) (hnf : NotFace s y) (wse : (Jvm.Cond.selects C y z).before a0 Z = true) (win : (Jvm.Cond.instanceMethod z).before a0 Z = true) (wi : (Jvm.Cond.initialized z.cls).before a0 Z = true) (wc : (Jvm.Cond.code z bytes maxL ret).before a0 Z = true)
    (hy : y.cls ≠ "java/lang/invoke/MethodHandle" ∧ y.cls ≠ "java/lang/invoke/VarHandle") {rm : Room} {a : Addr} (E : Exa Z h a C) {argsL rest : List Value} {Qf : Option Value → Heap → Prop} (hM : own_Con l Z z bytes maxL ret [] rm (.ref a :: argsL).toArray h n0 Qf) {W : Nat} (hfr : rm.frames + 1 ≤ R.frames) (hlo : W + (maxL + 11) + rm.locals ≤ R.locals) (hc : k + rm.cells ≤ R.cells) (hsl : n + rm.slots ≤ R.slots)
    {g : JFrame} (hg : g.method = m) (hsize : g.locals.size = c.maxLocals) (hlen : ∀ sig, parseMethodDescriptor y.desc = some sig → argsL.length = sig.parameters.length) (hs : g.stack = argsL.reverse ++ .ref a :: rest) (hW : 2 * g.monitorRoom + (rest.map fun v => v.category).sum ≤ W) (hd : decode c.code g.pc = .ok (.invokevirtual index, 3))
    (K : ∀ T' h' v, own_S p l e R s m args below meth c n0 T' h' (k + rm.cells) (n + rm.slots) → Qf v h' → own_Ends p.tables e below P (T'.setTop { g with pc := g.pc + 3, stack := v.toList ++ rest })) : own_Ends p.tables e below P (T.setTop g) := by
  obtain ⟨locs, X, e1, N⟩ := Y
  obtain ⟨cq, kq, qa, qb, qc⟩ := isOf hZ e1 E
  obtain ⟨v, vm1, ⟨T', L', k', n'⟩, -, X', ⟨L, hQ, l1, y1, z1⟩, st⟩ := X.virtualBack hx hown (mvT hZ wl) (mvT hZ wd) hnf (mvT hZ wse) (mvT hZ win) hy (backOf (W := W) (Q := fun v h L => Fr n0 L ∧ Qf v h) hM hZ wc wi hfr hlo) qa qc hg hsize (Steps.refl _) hlen hs hW hd (fun _ _ => ⟨rfl, e1, hc, hsl⟩)
  dsimp only [Pt.U, Pt.locs, Pt.cells, Pt.slots] at X' l1 y1 z1 st hQ
  subst l1 y1 z1
  exact own_st (fun t q => st.trans q) (K T' _ v ⟨_, X', rfl, Fr.app N hQ.1⟩ hQ.2)
theorem own_callU (Y : own_S p l e R s m args below meth c n0 T h k n) (hx : p.tables.exec = Jvm.exec) (hZ : Z.Warmed39 s.vm) {own C owner : String} {index : Nat} {y z : MethodName} {bytes : ByteArray} {maxL : Nat} {ret : Option FieldType} (hown : s.vm.findClass own = some m.cls) (wl : (Jvm.Cond.methodLink own index y).before a0 Z = true) (wsm : (Jvm.Cond.sameMethod y.cls owner y.name y.desc).before a0 Z = true) (wd : (Jvm.Cond.declares ⟨owner, y.name, y.desc⟩).before a0 Z = true) (wse : (Jvm.Cond.selects C y z).before a0 Z = true) (win : (Jvm.Cond.instanceMethod z).before a0 Z = true) (wi : (Jvm.Cond.initialized z.cls).before a0 Z = true) (wc : (Jvm.Cond.code z bytes maxL ret).before a0 Z = true)
    (hy : owner ≠ "java/lang/invoke/MethodHandle" ∧ owner ≠ "java/lang/invoke/VarHandle") {rm : Room} {a : Addr} (E : Exa Z h a C) {argsL rest : List Value} {Qf : Option Value → Heap → Prop} (hM : own_Con l Z z bytes maxL ret [] rm (.ref a :: argsL).toArray h n0 Qf) {W : Nat} (hfr : rm.frames + 1 ≤ R.frames) (hlo : W + (maxL + 11) + rm.locals ≤ R.locals) (hc : k + rm.cells ≤ R.cells) (hsl : n + rm.slots ≤ R.slots)
    {g : JFrame} (hg : g.method = m) (hsize : g.locals.size = c.maxLocals) (hlen : ∀ sig, parseMethodDescriptor y.desc = some sig → argsL.length = sig.parameters.length) (hs : g.stack = argsL.reverse ++ .ref a :: rest) (hW : 2 * g.monitorRoom + (rest.map fun v => v.category).sum ≤ W) (hd : decode c.code g.pc = .ok (.invokevirtual index, 3))
    (K : ∀ T' h' v, own_S p l e R s m args below meth c n0 T' h' (k + rm.cells) (n + rm.slots) → Qf v h' → own_Ends p.tables e below P (T'.setTop { g with pc := g.pc + 3, stack := v.toList ++ rest })) : own_Ends p.tables e below P (T.setTop g) := by
  obtain ⟨locs, X, e1, N⟩ := Y
  obtain ⟨cq, kq, qa, qb, qc⟩ := isOf hZ e1 E
  obtain ⟨v, vm1, ⟨T', L', k', n'⟩, -, X', ⟨L, hQ, l1, y1, z1⟩, st⟩ := X.virtualBackUp hx hown (mvT hZ wl) (mvT hZ wsm) (mvT hZ wd) hy (mvT hZ wse) (mvT hZ win) (backOf (W := W) (Q := fun v h L => Fr n0 L ∧ Qf v h) hM hZ wc wi hfr hlo) qa qc hg hsize (Steps.refl _) hlen hs hW hd (fun _ _ => ⟨rfl, e1, hc, hsl⟩)
  dsimp only [Pt.U, Pt.locs, Pt.cells, Pt.slots] at X' l1 y1 z1 st hQ
  subst l1 y1 z1
  exact own_st (fun t q => st.trans q) (K T' _ v ⟨_, X', rfl, Fr.app N hQ.1⟩ hQ.2)
theorem own_callP (Y : own_S p l e R s m args below meth c n0 T h k n) (hx : p.tables.exec = Jvm.exec) (hZ : Z.Warmed39 s.vm) {own C : String} {index : Nat} {y : MethodName} {bytes : ByteArray} {maxL : Nat} {ret : Option FieldType} (hown : s.vm.findClass own = some m.cls) (wl : (Jvm.Cond.methodLink own index y).before a0 Z = true) {nn : Nat} (win : (Jvm.Cond.instanceMethod y).before a0 Z = true) (wn : (Jvm.Cond.instantiable y.cls nn).before a0 Z = true) (wp : (Jvm.Cond.privateMethod y).before a0 Z = true) (wi : (Jvm.Cond.initialized y.cls).before a0 Z = true) (wc : (Jvm.Cond.code y bytes maxL ret).before a0 Z = true)
    (hy : y.cls ≠ "java/lang/invoke/MethodHandle" ∧ y.cls ≠ "java/lang/invoke/VarHandle") {rm : Room} {a : Addr} (E : Exa Z h a C) {argsL rest : List Value} {Qf : Option Value → Heap → Prop} (hM : own_Con l Z y bytes maxL ret [] rm (.ref a :: argsL).toArray h n0 Qf) {W : Nat} (hfr : rm.frames + 1 ≤ R.frames) (hlo : W + (maxL + 11) + rm.locals ≤ R.locals) (hc : k + rm.cells ≤ R.cells) (hsl : n + rm.slots ≤ R.slots)
    {g : JFrame} (hg : g.method = m) (hsize : g.locals.size = c.maxLocals) (hlen : ∀ sig, parseMethodDescriptor y.desc = some sig → argsL.length = sig.parameters.length) (hs : g.stack = argsL.reverse ++ .ref a :: rest) (hW : 2 * g.monitorRoom + (rest.map fun v => v.category).sum ≤ W) (hd : decode c.code g.pc = .ok (.invokevirtual index, 3))
    (K : ∀ T' h' v, own_S p l e R s m args below meth c n0 T' h' (k + rm.cells) (n + rm.slots) → Qf v h' → own_Ends p.tables e below P (T'.setTop { g with pc := g.pc + 3, stack := v.toList ++ rest })) : own_Ends p.tables e below P (T.setTop g) := by
  obtain ⟨locs, X, e1, N⟩ := Y
  obtain ⟨cell, q, q'⟩ := E.cell
  have wn' : (Jvm.Cond.instantiable y.cls nn).before #[] s = true := mvT hZ wn
  obtain ⟨ci, ki, hi1, hi2, -, hi4, -⟩ := Cond.instantiable_spec wn'
  have wse : (Jvm.Cond.selects y.cls y y).before args s = true := selects_self_of_private hi1 hi2 (by simpa using (Bool.or_eq_false_iff.mp hi4).1) (Cond.privateMethod_at (mvP hZ wp (args := #[]))) (mvT hZ win) hy
  obtain ⟨v, vm1, ⟨T', L', k', n'⟩, -, X', ⟨L, hQ, l1, y1, z1⟩, st⟩ := X.privateBack hx hown (mvT hZ wl) (mvT hZ win) wse (Cond.privateMethod_at (mvP hZ wp (args := #[]))) (mvT hZ wc) hy (backOf (W := W) (Q := fun v h L => Fr n0 L ∧ Qf v h) hM hZ wc wi hfr hlo) hg hsize (Steps.refl _) (by rw [e1]; exact q) q' hlen hs hW hd (fun _ _ => ⟨rfl, e1, hc, hsl⟩)
  dsimp only [Pt.U, Pt.locs, Pt.cells, Pt.slots] at X' l1 y1 z1 st hQ
  subst l1 y1 z1
  exact own_st (fun t q => st.trans q) (K T' _ v ⟨_, X', rfl, Fr.app N hQ.1⟩ hQ.2)
end OwnLayer
section OwnNums
def own_b (b : Bool) : Int32 := if b then 1 else 0
theorem own_b_t {b : Bool} (h : b = true) : own_b b = 1 := by subst h; rfl
theorem own_b_f {b : Bool} (h : b = false) : own_b b = 0 := by subst h; rfl
theorem own_b_0 (b : Bool) : own_b b = 0 ↔ b = false := by cases b <;> simp [own_b]
theorem own_b_n (b : Bool) : nar .boolean (own_b b) = own_b b := by cases b <;> rfl
theorem own_b_inj {a b : Bool} : own_b a = own_b b ↔ a = b := by cases a <;> cases b <;> simp [own_b]
theorem own_idx {j : Int32} {n : Nat} (h0 : 0 ≤ j.toInt) (h1 : j.toInt < (n : Int)) : ¬ j < 0 ∧ j.toNatClampNeg < n := by
  refine ⟨?_, ?_⟩
  · rw [Int32.lt_iff_toInt_lt]; show ¬ j.toInt < 0; omega
  · show j.toInt.toNat < n; omega
theorem own_ints {xs : List Int32} {i : Nat} (h : i < xs.length) : ∃ d, (xs.map Value.int)[i]? = some (.int d) ∧ d = xs[i] := ⟨xs[i], by simp [h], rfl⟩
theorem own_longs {xs : List Int64} {i : Nat} (h : i < xs.length) : ∃ d, (xs.map Value.long)[i]? = some (.long d) ∧ d = xs[i] := ⟨xs[i], by simp [h], rfl⟩
/-- p i, p (i + 1), .., k of them, all hold -/
def own_all (p : Nat → Bool) : Nat → Nat → Bool
  | _, 0 => true
  | i, k + 1 => p i && own_all p (i + 1) k
def own_g (xs : List Int32) (i : Nat) : Int32 := xs.getD i 0
theorem own_mget {xs : List Int32} {i : Nat} (h : i < (xs.map Value.int).length) : (xs.map Value.int)[i]? = some (.int (own_g xs i)) := by
  have h' : i < xs.length := by simpa using h
  simp [h', own_g]
theorem own_mlen {xs : List Int32} {i : Nat} (h : i < xs.length) : i < (xs.map Value.int).length := by simpa using h
theorem own_nat {j : Int32} {i : Nat} (h : j.toInt = (i : Int)) : ¬ j < 0 ∧ j.toNatClampNeg = i := by
  refine ⟨?_, ?_⟩
  · rw [Int32.lt_iff_toInt_lt]; show ¬ j.toInt < 0; omega
  · show j.toInt.toNat = i; omega
theorem own_inc {j : Int32} {i : Nat} (h : j.toInt = (i : Int)) (hi : i + 1 < 2147483648) : (j + 1).toInt = ((i + 1 : Nat) : Int) := by
  have := c_iadd j 1
  have h1 : (1 : Int32).toInt = 1 := rfl
  have := rng32 (j + 1)
  omega
theorem own_lt {x y : Int32} : x < y ↔ x.toInt < y.toInt := Int32.lt_iff_toInt_lt
theorem own_eq {x y : Int32} : x = y ↔ x.toInt = y.toInt := Int32.toInt_inj.symm
theorem own_tolen {ys : List Int32} {z : Int32} (h : z.toInt = (ys.length : Int)) : (ys.map Value.int).length.toInt32 = z := by
  have q := rng32 z
  have e : (ys.map Value.int).length = ys.length := by simp
  rw [own_eq, len_toInt (by rw [e]; omega), e, h]
theorem own_add {x y : Int32} {a b : Nat} (h1 : x.toInt = (a : Int)) (h2 : y.toInt = (b : Int)) (hi : a + b < 2147483648) : (x + y).toInt = ((a + b : Nat) : Int) := by
  have := c_iadd x y
  have := rng32 (x + y)
  omega
theorem own_sub {x y : Int32} {a b : Nat} (h1 : x.toInt = (a : Int)) (h2 : y.toInt = (b : Int)) : (x - y).toInt = (a : Int) - (b : Int) := by
  have := c_isub x y
  have := rng32 (x - y)
  have := rng32 x
  have := rng32 y
  omega
theorem own_l0 : (0 : Int32).toInt = ((0 : Nat) : Int) := rfl
theorem own_l1 : (1 : Int32).toInt = ((1 : Nat) : Int) := rfl
theorem own_l2 : (2 : Int32).toInt = ((2 : Nat) : Int) := rfl
theorem own_l3 : (3 : Int32).toInt = ((3 : Nat) : Int) := rfl
theorem own_l4 : (4 : Int32).toInt = ((4 : Nat) : Int) := rfl
theorem own_l5 : (5 : Int32).toInt = ((5 : Nat) : Int) := rfl
theorem own_l6 : (6 : Int32).toInt = ((6 : Nat) : Int) := rfl
theorem own_l7 : (7 : Int32).toInt = ((7 : Nat) : Int) := rfl
theorem own_l8 : (8 : Int32).toInt = ((8 : Nat) : Int) := rfl
end OwnNums
def own_u (xs : List Int32) (i : Nat) : Int := ((own_g xs i) &&& 255).toInt
def own_A1 (a : Int) : Bool := decide (a < 128)
def own_A2 (a b : Int) : Bool := decide (194 ≤ a ∧ a ≤ 223 ∧ 128 ≤ b ∧ b ≤ 191)
def own_A3 (a b c : Int) : Bool := decide (224 ≤ a ∧ a ≤ 239 ∧ 128 ≤ b ∧ b ≤ 191 ∧ (a = 224 → 160 ≤ b) ∧ (a = 237 → b ≤ 159) ∧ 128 ≤ c ∧ c ≤ 191)
def own_A4 (a b c d : Int) : Bool := decide (240 ≤ a ∧ a ≤ 244 ∧ 128 ≤ b ∧ b ≤ 191 ∧ (a = 240 → 144 ≤ b) ∧ (a = 244 → b ≤ 143) ∧ 128 ≤ c ∧ c ≤ 191 ∧ 128 ≤ d ∧ d ≤ 191)
def own_V (u : Nat → Int) (t : Nat) : Nat → Nat → Bool
  | 0, i => decide (t ≤ i)
  | f + 1, i => decide (t ≤ i) || (own_A1 (u i) && own_V u t f (i + 1)) || (decide (i + 2 ≤ t) && own_A2 (u i) (u (i + 1)) && own_V u t f (i + 2)) || (decide (i + 3 ≤ t) && own_A3 (u i) (u (i + 1)) (u (i + 2)) && own_V u t f (i + 3)) || (decide (i + 4 ≤ t) && own_A4 (u i) (u (i + 1)) (u (i + 2)) (u (i + 3)) && own_V u t f (i + 4))
theorem own_c192 : ∀ k : Fin 256, ((Int32.ofInt ((k.val : Int) - 128) &&& 192) = 128 ↔ (128 ≤ (Int32.ofInt ((k.val : Int) - 128) &&& 255).toInt ∧ (Int32.ofInt ((k.val : Int) - 128) &&& 255).toInt ≤ 191)) := by decide +kernel
theorem own_cont {x : Int32} (h : -128 ≤ x.toInt ∧ x.toInt ≤ 127) : (x &&& 192) = 128 ↔ (128 ≤ (x &&& 255).toInt ∧ (x &&& 255).toInt ≤ 191) := by
  have q := own_c192 ⟨(x.toInt + 128).toNat, by omega⟩
  have e : Int32.ofInt ((((x.toInt + 128).toNat : Nat) : Int) - 128) = x := by
    have : (((x.toInt + 128).toNat : Nat) : Int) - 128 = x.toInt := by omega
    rw [this]; exact Int32.ofInt_toInt _
  simp only [e] at q
  exact q
theorem own_u_rng (xs : List Int32) (i : Nat) : 0 ≤ own_u xs i ∧ own_u xs i ≤ 255 := c_and (own_g xs i) 255 (by decide)
theorem own_allB {xs : List Int32} {P : Int32 → Prop} (h : ∀ x ∈ xs, P x) (h0 : P 0) : ∀ i, P (own_g xs i) := by
  intro i
  by_cases hi : i < xs.length
  · have : own_g xs i = xs[i] := by simp [own_g, hi]
    rw [this]; exact h _ (List.getElem_mem hi)
  · have : own_g xs i = 0 := by simp [own_g, hi]
    rw [this]; exact h0
theorem own_pn0 : plainName "kombos/graph/Utf8" = true := by first | (simp [plainName, overriddenIn]; done) | decide +kernel
theorem own_d2_0 : decode prog_50_method_2_code 0 = .ok (.iload_n 1, 1) := by decide +kernel
theorem own_d2_1 : decode prog_50_method_2_code 1 = .ok (.istore_n 3, 1) := by decide +kernel
theorem own_d2_2 : decode prog_50_method_2_code 2 = .ok (.iload_n 3, 1) := by decide +kernel
theorem own_d2_3 : decode prog_50_method_2_code 3 = .ok (.iload_n 2, 1) := by decide +kernel
theorem own_d2_4 : decode prog_50_method_2_code 4 = .ok (.if_icmp .ge 257, 3) := by decide +kernel
theorem own_d2_7 : decode prog_50_method_2_code 7 = .ok (.aload_n 0, 1) := by decide +kernel
theorem own_d2_8 : decode prog_50_method_2_code 8 = .ok (.iload_n 3, 1) := by decide +kernel
theorem own_d2_9 : decode prog_50_method_2_code 9 = .ok (.baload, 1) := by decide +kernel
theorem own_d2_10 : decode prog_50_method_2_code 10 = .ok (.sipush 255, 3) := by decide +kernel
theorem own_d2_13 : decode prog_50_method_2_code 13 = .ok (.iand, 1) := by decide +kernel
theorem own_d2_14 : decode prog_50_method_2_code 14 = .ok (.istore 4, 2) := by decide +kernel
theorem own_d2_16 : decode prog_50_method_2_code 16 = .ok (.iload 4, 2) := by decide +kernel
theorem own_d2_18 : decode prog_50_method_2_code 18 = .ok (.sipush 128, 3) := by decide +kernel
theorem own_d2_21 : decode prog_50_method_2_code 21 = .ok (.if_icmp .ge 9, 3) := by decide +kernel
theorem own_d2_24 : decode prog_50_method_2_code 24 = .ok (.iinc 3 1, 3) := by decide +kernel
theorem own_d2_27 : decode prog_50_method_2_code 27 = .ok (.goto (-25), 3) := by decide +kernel
theorem own_d2_30 : decode prog_50_method_2_code 30 = .ok (.sipush 128, 3) := by decide +kernel
theorem own_d2_33 : decode prog_50_method_2_code 33 = .ok (.istore 6, 2) := by decide +kernel
theorem own_d2_35 : decode prog_50_method_2_code 35 = .ok (.sipush 191, 3) := by decide +kernel
theorem own_d2_38 : decode prog_50_method_2_code 38 = .ok (.istore 7, 2) := by decide +kernel
theorem own_d2_40 : decode prog_50_method_2_code 40 = .ok (.iload 4, 2) := by decide +kernel
theorem own_d2_42 : decode prog_50_method_2_code 42 = .ok (.sipush 194, 3) := by decide +kernel
theorem own_d2_45 : decode prog_50_method_2_code 45 = .ok (.if_icmp .lt 17, 3) := by decide +kernel
theorem own_d2_62 : decode prog_50_method_2_code 62 = .ok (.iload 4, 2) := by decide +kernel
theorem own_d2_64 : decode prog_50_method_2_code 64 = .ok (.sipush 224, 3) := by decide +kernel
theorem own_d2_67 : decode prog_50_method_2_code 67 = .ok (.if_icmp .lt 53, 3) := by decide +kernel
theorem own_d2_120 : decode prog_50_method_2_code 120 = .ok (.iload 4, 2) := by decide +kernel
theorem own_d2_122 : decode prog_50_method_2_code 122 = .ok (.sipush 240, 3) := by decide +kernel
theorem own_d2_125 : decode prog_50_method_2_code 125 = .ok (.if_icmp .lt 53, 3) := by decide +kernel
theorem own_d2_178 : decode prog_50_method_2_code 178 = .ok (.iconst 0, 1) := by decide +kernel
theorem own_d2_179 : decode prog_50_method_2_code 179 = .ok (.ireturn, 1) := by decide +kernel
theorem own_d2_48 : decode prog_50_method_2_code 48 = .ok (.iload 4, 2) := by decide +kernel
theorem own_d2_50 : decode prog_50_method_2_code 50 = .ok (.sipush 223, 3) := by decide +kernel
theorem own_d2_53 : decode prog_50_method_2_code 53 = .ok (.if_icmp .gt 9, 3) := by decide +kernel
theorem own_d2_70 : decode prog_50_method_2_code 70 = .ok (.iload 4, 2) := by decide +kernel
theorem own_d2_72 : decode prog_50_method_2_code 72 = .ok (.sipush 239, 3) := by decide +kernel
theorem own_d2_75 : decode prog_50_method_2_code 75 = .ok (.if_icmp .gt 45, 3) := by decide +kernel
theorem own_d2_128 : decode prog_50_method_2_code 128 = .ok (.iload 4, 2) := by decide +kernel
theorem own_d2_130 : decode prog_50_method_2_code 130 = .ok (.sipush 244, 3) := by decide +kernel
theorem own_d2_133 : decode prog_50_method_2_code 133 = .ok (.if_icmp .gt 45, 3) := by decide +kernel
theorem own_d2_136 : decode prog_50_method_2_code 136 = .ok (.iconst 4, 1) := by decide +kernel
theorem own_d2_137 : decode prog_50_method_2_code 137 = .ok (.istore 5, 2) := by decide +kernel
theorem own_d2_139 : decode prog_50_method_2_code 139 = .ok (.iload 4, 2) := by decide +kernel
theorem own_d2_141 : decode prog_50_method_2_code 141 = .ok (.sipush 240, 3) := by decide +kernel
theorem own_d2_144 : decode prog_50_method_2_code 144 = .ok (.if_icmp .ne 9, 3) := by decide +kernel
theorem own_d2_147 : decode prog_50_method_2_code 147 = .ok (.sipush 144, 3) := by decide +kernel
theorem own_d2_150 : decode prog_50_method_2_code 150 = .ok (.goto 5, 3) := by decide +kernel
theorem own_d2_155 : decode prog_50_method_2_code 155 = .ok (.istore 6, 2) := by decide +kernel
theorem own_d2_157 : decode prog_50_method_2_code 157 = .ok (.iload 4, 2) := by decide +kernel
theorem own_d2_159 : decode prog_50_method_2_code 159 = .ok (.sipush 244, 3) := by decide +kernel
theorem own_d2_162 : decode prog_50_method_2_code 162 = .ok (.if_icmp .ne 9, 3) := by decide +kernel
theorem own_d2_171 : decode prog_50_method_2_code 171 = .ok (.iload 7, 2) := by decide +kernel
theorem own_d2_173 : decode prog_50_method_2_code 173 = .ok (.istore 7, 2) := by decide +kernel
theorem own_d2_175 : decode prog_50_method_2_code 175 = .ok (.goto 5, 3) := by decide +kernel
theorem own_d2_180 : decode prog_50_method_2_code 180 = .ok (.iload_n 2, 1) := by decide +kernel
theorem own_d2_181 : decode prog_50_method_2_code 181 = .ok (.iload_n 3, 1) := by decide +kernel
theorem own_d2_182 : decode prog_50_method_2_code 182 = .ok (.isub, 1) := by decide +kernel
theorem own_d2_183 : decode prog_50_method_2_code 183 = .ok (.iload 5, 2) := by decide +kernel
theorem own_d2_185 : decode prog_50_method_2_code 185 = .ok (.if_icmp .ge 5, 3) := by decide +kernel
theorem own_d2_188 : decode prog_50_method_2_code 188 = .ok (.iconst 0, 1) := by decide +kernel
theorem own_d2_189 : decode prog_50_method_2_code 189 = .ok (.ireturn, 1) := by decide +kernel
theorem own_d2_190 : decode prog_50_method_2_code 190 = .ok (.aload_n 0, 1) := by decide +kernel
theorem own_d2_191 : decode prog_50_method_2_code 191 = .ok (.iload_n 3, 1) := by decide +kernel
theorem own_d2_192 : decode prog_50_method_2_code 192 = .ok (.iconst 1, 1) := by decide +kernel
theorem own_d2_193 : decode prog_50_method_2_code 193 = .ok (.iadd, 1) := by decide +kernel
theorem own_d2_194 : decode prog_50_method_2_code 194 = .ok (.baload, 1) := by decide +kernel
theorem own_d2_195 : decode prog_50_method_2_code 195 = .ok (.sipush 255, 3) := by decide +kernel
theorem own_d2_198 : decode prog_50_method_2_code 198 = .ok (.iand, 1) := by decide +kernel
theorem own_d2_199 : decode prog_50_method_2_code 199 = .ok (.istore 8, 2) := by decide +kernel
theorem own_d2_201 : decode prog_50_method_2_code 201 = .ok (.iload 8, 2) := by decide +kernel
theorem own_d2_203 : decode prog_50_method_2_code 203 = .ok (.iload 6, 2) := by decide +kernel
theorem own_d2_205 : decode prog_50_method_2_code 205 = .ok (.if_icmp .lt 10, 3) := by decide +kernel
theorem own_d2_215 : decode prog_50_method_2_code 215 = .ok (.iconst 0, 1) := by decide +kernel
theorem own_d2_216 : decode prog_50_method_2_code 216 = .ok (.ireturn, 1) := by decide +kernel
theorem own_d2_208 : decode prog_50_method_2_code 208 = .ok (.iload 8, 2) := by decide +kernel
theorem own_d2_210 : decode prog_50_method_2_code 210 = .ok (.iload 7, 2) := by decide +kernel
theorem own_d2_212 : decode prog_50_method_2_code 212 = .ok (.if_icmp .le 5, 3) := by decide +kernel
theorem own_d2_217 : decode prog_50_method_2_code 217 = .ok (.iload_n 3, 1) := by decide +kernel
theorem own_d2_218 : decode prog_50_method_2_code 218 = .ok (.iconst 2, 1) := by decide +kernel
theorem own_d2_219 : decode prog_50_method_2_code 219 = .ok (.iadd, 1) := by decide +kernel
theorem own_d2_220 : decode prog_50_method_2_code 220 = .ok (.istore 9, 2) := by decide +kernel
theorem own_d2_222 : decode prog_50_method_2_code 222 = .ok (.iload 9, 2) := by decide +kernel
theorem own_d2_224 : decode prog_50_method_2_code 224 = .ok (.iload_n 3, 1) := by decide +kernel
theorem own_d2_225 : decode prog_50_method_2_code 225 = .ok (.iload 5, 2) := by decide +kernel
theorem own_d2_227 : decode prog_50_method_2_code 227 = .ok (.iadd, 1) := by decide +kernel
theorem own_d2_228 : decode prog_50_method_2_code 228 = .ok (.if_icmp .ge 25, 3) := by decide +kernel
theorem own_d2_231 : decode prog_50_method_2_code 231 = .ok (.aload_n 0, 1) := by decide +kernel
theorem own_d2_232 : decode prog_50_method_2_code 232 = .ok (.iload 9, 2) := by decide +kernel
theorem own_d2_234 : decode prog_50_method_2_code 234 = .ok (.baload, 1) := by decide +kernel
theorem own_d2_235 : decode prog_50_method_2_code 235 = .ok (.sipush 192, 3) := by decide +kernel
theorem own_d2_238 : decode prog_50_method_2_code 238 = .ok (.iand, 1) := by decide +kernel
theorem own_d2_239 : decode prog_50_method_2_code 239 = .ok (.sipush 128, 3) := by decide +kernel
theorem own_d2_242 : decode prog_50_method_2_code 242 = .ok (.if_icmp .eq 5, 3) := by decide +kernel
theorem own_d2_247 : decode prog_50_method_2_code 247 = .ok (.iinc 9 1, 3) := by decide +kernel
theorem own_d2_250 : decode prog_50_method_2_code 250 = .ok (.goto (-28), 3) := by decide +kernel
theorem own_d2_253 : decode prog_50_method_2_code 253 = .ok (.iload_n 3, 1) := by decide +kernel
theorem own_d2_254 : decode prog_50_method_2_code 254 = .ok (.iload 5, 2) := by decide +kernel
theorem own_d2_256 : decode prog_50_method_2_code 256 = .ok (.iadd, 1) := by decide +kernel
theorem own_d2_257 : decode prog_50_method_2_code 257 = .ok (.istore_n 3, 1) := by decide +kernel
theorem own_d2_258 : decode prog_50_method_2_code 258 = .ok (.goto (-256), 3) := by decide +kernel
theorem own_d2_245 : decode prog_50_method_2_code 245 = .ok (.iconst 0, 1) := by decide +kernel
theorem own_d2_246 : decode prog_50_method_2_code 246 = .ok (.ireturn, 1) := by decide +kernel
theorem own_d2_153 : decode prog_50_method_2_code 153 = .ok (.iload 6, 2) := by decide +kernel
theorem own_d2_165 : decode prog_50_method_2_code 165 = .ok (.sipush 143, 3) := by decide +kernel
theorem own_d2_168 : decode prog_50_method_2_code 168 = .ok (.goto 5, 3) := by decide +kernel
theorem own_d2_78 : decode prog_50_method_2_code 78 = .ok (.iconst 3, 1) := by decide +kernel
theorem own_d2_79 : decode prog_50_method_2_code 79 = .ok (.istore 5, 2) := by decide +kernel
theorem own_d2_81 : decode prog_50_method_2_code 81 = .ok (.iload 4, 2) := by decide +kernel
theorem own_d2_83 : decode prog_50_method_2_code 83 = .ok (.sipush 224, 3) := by decide +kernel
theorem own_d2_86 : decode prog_50_method_2_code 86 = .ok (.if_icmp .ne 9, 3) := by decide +kernel
theorem own_d2_89 : decode prog_50_method_2_code 89 = .ok (.sipush 160, 3) := by decide +kernel
theorem own_d2_92 : decode prog_50_method_2_code 92 = .ok (.goto 5, 3) := by decide +kernel
theorem own_d2_97 : decode prog_50_method_2_code 97 = .ok (.istore 6, 2) := by decide +kernel
theorem own_d2_99 : decode prog_50_method_2_code 99 = .ok (.iload 4, 2) := by decide +kernel
theorem own_d2_101 : decode prog_50_method_2_code 101 = .ok (.sipush 237, 3) := by decide +kernel
theorem own_d2_104 : decode prog_50_method_2_code 104 = .ok (.if_icmp .ne 9, 3) := by decide +kernel
theorem own_d2_113 : decode prog_50_method_2_code 113 = .ok (.iload 7, 2) := by decide +kernel
theorem own_d2_115 : decode prog_50_method_2_code 115 = .ok (.istore 7, 2) := by decide +kernel
theorem own_d2_117 : decode prog_50_method_2_code 117 = .ok (.goto 63, 3) := by decide +kernel
theorem own_d2_95 : decode prog_50_method_2_code 95 = .ok (.iload 6, 2) := by decide +kernel
theorem own_d2_107 : decode prog_50_method_2_code 107 = .ok (.sipush 159, 3) := by decide +kernel
theorem own_d2_110 : decode prog_50_method_2_code 110 = .ok (.goto 5, 3) := by decide +kernel
theorem own_d2_56 : decode prog_50_method_2_code 56 = .ok (.iconst 2, 1) := by decide +kernel
theorem own_d2_57 : decode prog_50_method_2_code 57 = .ok (.istore 5, 2) := by decide +kernel
theorem own_d2_59 : decode prog_50_method_2_code 59 = .ok (.goto 121, 3) := by decide +kernel
theorem own_d2_261 : decode prog_50_method_2_code 261 = .ok (.iconst 1, 1) := by decide +kernel
theorem own_d2_262 : decode prog_50_method_2_code 262 = .ok (.ireturn, 1) := by decide +kernel
theorem own_ef_own_rm2 (m : MethodId) (r0 : Addr) (x1 : Int32) (x2 : Int32) : entryFrame m #[(.ref r0), (.int x1), (.int x2)] 10 = mkF m 0 #[.val (.ref r0), .val (.int x1), .val (.int x2), .unset, .unset, .unset, .unset, .unset, .unset, .unset] [] := by first | (simp [entryFrame, mkF, argsToLocals, Value.category]; done) | rfl
def own_Q_own_rm2 (Z : State) (xs : List Int32) (f t : Nat) (h0 : Heap) (n0 : Nat) (v : Option Value) (h : Heap) : Prop := v = some (.int (own_b (own_V (own_u xs) t (t - f) f))) ∧ h0 = h
set_option maxRecDepth 65536 in
set_option maxHeartbeats 40000000 in
theorem own_rm2 (l : Launch) (Z : State) (a0 : Array Value) (hw : ∀ d ∈ tables_1, d.before a0 Z = true) (ws : List Jvm.Cond) (r0 : Addr) (x1 : Int32) (x2 : Int32) (xs : List Int32) (f t : Nat) (h0 : Heap) (n0 : Nat)  (A : own_A Z h0 r0 .byte (xs.map Value.int)) (hf : x1.toInt = (f : Int)) (ht : x2.toInt = (t : Int)) (hft : f ≤ t) (htl : t ≤ xs.length) (hts : t < 2147483600) (hB : ∀ i, -128 ≤ (own_g xs i).toInt ∧ (own_g xs i).toInt ≤ 127) :
    own_Con l Z (⟨"kombos/graph/Utf8", "isValid", "([BII)Z"⟩ : MethodName) prog_50_method_2_code 10 (some .boolean) ws ({ frames := 0, cells := 0, slots := 0, locals := 0 } : Room) #[(.ref r0), (.int x1), (.int x2)] h0 n0 (own_Q_own_rm2 Z xs f t h0 n0) := by
  refine own_body (plainFor_of_name own_pn0) ?_
  intro p e s m below meth c T0 hx hZ hby hml hown hnm hret hlk Y0
  replace hown : s.vm.findClass "kombos/graph/Utf8" = some m.cls := hown
  replace hnm : meth.name = "isValid" := hnm
  rw [own_ef_own_rm2 m r0 x1 x2]
  show own_Ends _ _ _ _ (T0.setTop (mkF m 0 #[.val (.ref r0), .val (.int x1), .val (.int x2), .unset, .unset, .unset, .unset, .unset, .unset, .unset] []))
  obtain ⟨R, hR0⟩ : ∃ R, own_V (own_u xs) t (t - f) f = R := ⟨_, rfl⟩
  have e128 : (128 : Int32).toInt = 128 := rfl
  have e143 : (143 : Int32).toInt = 143 := rfl
  have e144 : (144 : Int32).toInt = 144 := rfl
  have e159 : (159 : Int32).toInt = 159 := rfl
  have e160 : (160 : Int32).toInt = 160 := rfl
  have e191 : (191 : Int32).toInt = 191 := rfl
  have e192 : (192 : Int32).toInt = 192 := rfl
  have e194 : (194 : Int32).toInt = 194 := rfl
  have e223 : (223 : Int32).toInt = 223 := rfl
  have e224 : (224 : Int32).toInt = 224 := rfl
  have e237 : (237 : Int32).toInt = 237 := rfl
  have e239 : (239 : Int32).toInt = 239 := rfl
  have e240 : (240 : Int32).toInt = 240 := rfl
  have e244 : (244 : Int32).toInt = 244 := rfl
  refine own_st (fun t_ => XS.iloadN (own_here Y0) hx rfl (hb hby own_d2_0) rfl) ?_
  show own_Ends _ _ _ _ (T0.setTop (mkF m 1 #[.val (.ref r0), .val (.int x1), .val (.int x2), .unset, .unset, .unset, .unset, .unset, .unset, .unset] [(.int x1)]))
  refine own_st (fun t_ => XS.istoreN (own_here Y0) hx rfl (hb hby own_d2_1) rfl (l' := #[.val (.ref r0), .val (.int x1), .val (.int x2), .val (.int x1), .unset, .unset, .unset, .unset, .unset, .unset]) rfl) ?_
  show own_Ends _ _ _ _ (T0.setTop (mkF m 2 #[.val (.ref r0), .val (.int x1), .val (.int x2), .val (.int x1), .unset, .unset, .unset, .unset, .unset, .unset] []))
  have hL1 : ∀ (k : Nat) (T2 : State)  (i : Nat) (j : Int32) (s4 s5 s6 s7 s8 s9 : Slot) (Y3 : own_S p l e ({ frames := 0, cells := 0, slots := 0, locals := 0 } : Room) s m #[(.ref r0), (.int x1), (.int x2)] below meth c n0 T2 h0 0 0)  (hj : j.toInt = (i : Int)) (hit : i ≤ t) (hik : t ≤ i + k) (hR : own_V (own_u xs) t k i = R) (hs4 : One s4) (hs5 : One s5) (hs6 : One s6) (hs7 : One s7) (hs8 : One s8) (hs9 : One s9), own_Ends p.tables e below (own_P s n0 (own_Q_own_rm2 Z xs f t h0 n0) ({ frames := 0, cells := 0, slots := 0, locals := 0 } : Room).cells ({ frames := 0, cells := 0, slots := 0, locals := 0 } : Room).slots) (T2.setTop (mkF m 2 #[.val (.ref r0), .val (.int x1), .val (.int x2), .val (.int j), s4, s5, s6, s7, s8, s9] [])) := by
   intro k
   induction k using Nat.strongRecOn with
   | _ k ih =>
    intro T2  i j s4 s5 s6 s7 s8 s9 Y3  hj hit hik hR hs4 hs5 hs6 hs7 hs8 hs9
    obtain ⟨hj0, hj1⟩ := own_nat hj
    refine own_st (fun t_ => XS.iloadN (own_here Y3) hx rfl (hb hby own_d2_2) rfl) ?_
    show own_Ends _ _ _ _ (T2.setTop (mkF m 3 #[.val (.ref r0), .val (.int x1), .val (.int x2), .val (.int j), s4, s5, s6, s7, s8, s9] [(.int j)]))
    refine own_st (fun t_ => XS.iloadN (own_here Y3) hx rfl (hb hby own_d2_3) rfl) ?_
    show own_Ends _ _ _ _ (T2.setTop (mkF m 4 #[.val (.ref r0), .val (.int x1), .val (.int x2), .val (.int j), s4, s5, s6, s7, s8, s9] [(.int x2), (.int j)]))
    by_cases c4_4 : j < x2
    ·
     refine own_st (fun t_ => XS.icmpNo (own_here Y3) hx rfl (hb hby own_d2_4) rfl (XT.ii_ge_f c4_4)) ?_
     show own_Ends _ _ _ _ (T2.setTop (mkF m 7 #[.val (.ref r0), .val (.int x1), .val (.int x2), .val (.int j), s4, s5, s6, s7, s8, s9] []))
     have hlt : i < t := by have := c4_4; rw [own_lt, hj, ht] at this; omega
     refine own_st (fun t_ => XS.aloadN (own_here Y3) hx rfl (hb hby own_d2_7) rfl rfl) ?_
     show own_Ends _ _ _ _ (T2.setTop (mkF m 8 #[.val (.ref r0), .val (.int x1), .val (.int x2), .val (.int j), s4, s5, s6, s7, s8, s9] [(.ref r0)]))
     refine own_st (fun t_ => XS.iloadN (own_here Y3) hx rfl (hb hby own_d2_8) rfl) ?_
     show own_Ends _ _ _ _ (T2.setTop (mkF m 9 #[.val (.ref r0), .val (.int x1), .val (.int x2), .val (.int j), s4, s5, s6, s7, s8, s9] [(.int j), (.ref r0)]))
     refine own_ldB Y3 hx hZ A (i := i) hj0 hj1 (own_mlen (by omega)) (v := (.int (own_g xs i))) (own_mget (own_mlen (by omega))) rfl rfl (hb hby own_d2_9) ?_
     show own_Ends _ _ _ _ (T2.setTop (mkF m 10 #[.val (.ref r0), .val (.int x1), .val (.int x2), .val (.int j), s4, s5, s6, s7, s8, s9] [(.int (own_g xs i))]))
     refine own_st (fun t_ => XS.sipush (own_here Y3) hx rfl (hb hby own_d2_10) ) ?_
     show own_Ends _ _ _ _ (T2.setTop (mkF m 13 #[.val (.ref r0), .val (.int x1), .val (.int x2), .val (.int j), s4, s5, s6, s7, s8, s9] [(.int (255 : Int32)), (.int (own_g xs i))]))
     refine own_st (fun t_ => XS.iand (own_here Y3) hx rfl (hb hby own_d2_13) rfl) ?_
     show own_Ends _ _ _ _ (T2.setTop (mkF m 14 #[.val (.ref r0), .val (.int x1), .val (.int x2), .val (.int j), s4, s5, s6, s7, s8, s9] [(.int ((own_g xs i) &&& (255 : Int32)))]))
     refine own_st (fun t_ => XS.istoreS (own_here Y3) hx rfl (hb hby own_d2_14) rfl rfl hs4) ?_
     show own_Ends _ _ _ _ (T2.setTop (mkF m 16 #[.val (.ref r0), .val (.int x1), .val (.int x2), .val (.int j), .val (.int ((own_g xs i) &&& (255 : Int32))), s5, s6, s7, s8, s9] []))
     generalize ha : ((own_g xs i) &&& (255 : Int32)) = a
     have ua : own_u xs i = a.toInt := by rw [own_u, ha]
     have hra := own_u_rng xs i; rw [ua] at hra
     refine own_st (fun t_ => XS.iload (own_here Y3) hx rfl (hb hby own_d2_16) rfl) ?_
     show own_Ends _ _ _ _ (T2.setTop (mkF m 18 #[.val (.ref r0), .val (.int x1), .val (.int x2), .val (.int j), .val (.int a), s5, s6, s7, s8, s9] [(.int a)]))
     refine own_st (fun t_ => XS.sipush (own_here Y3) hx rfl (hb hby own_d2_18) ) ?_
     show own_Ends _ _ _ _ (T2.setTop (mkF m 21 #[.val (.ref r0), .val (.int x1), .val (.int x2), .val (.int j), .val (.int a), s5, s6, s7, s8, s9] [(.int (128 : Int32)), (.int a)]))
     by_cases c21_5 : a < (128 : Int32)
     ·
      refine own_st (fun t_ => XS.icmpNo (own_here Y3) hx rfl (hb hby own_d2_21) rfl (XT.ii_ge_f c21_5)) ?_
      show own_Ends _ _ _ _ (T2.setTop (mkF m 24 #[.val (.ref r0), .val (.int x1), .val (.int x2), .val (.int j), .val (.int a), s5, s6, s7, s8, s9] []))
      refine own_st (fun t_ => XS.iinc (own_here Y3) hx rfl (hb hby own_d2_24) rfl (l' := #[.val (.ref r0), .val (.int x1), .val (.int x2), .val (.int (j + (1 : Int32))), .val (.int a), s5, s6, s7, s8, s9]) rfl) ?_
      show own_Ends _ _ _ _ (T2.setTop (mkF m 27 #[.val (.ref r0), .val (.int x1), .val (.int x2), .val (.int (j + (1 : Int32))), .val (.int a), s5, s6, s7, s8, s9] []))
      refine own_st (fun t_ => XS.goto (own_here Y3) hx rfl (pc0 := 27) (pc' := 2) rfl (hb hby own_d2_27) (by decide) (by decide)) ?_
      show own_Ends _ _ _ _ (T2.setTop (mkF m 2 #[.val (.ref r0), .val (.int x1), .val (.int x2), .val (.int (j + (1 : Int32))), .val (.int a), s5, s6, s7, s8, s9] []))
      have c21_5t := c21_5; simp only [own_lt] at c21_5t
      have ra := own_u_rng xs i; rw [ua] at ra
      have f1 : (own_A1 (own_u xs i)) = true := by simp only [own_A1, ua, decide_eq_true_eq]; omega
      have f2 : (decide (i + 2 ≤ t) && own_A2 (own_u xs i) (own_u xs (i + 1))) = false := by simp only [own_A2, ua, Bool.and_eq_false_iff, decide_eq_false_iff_not]; omega
      have f3 : (decide (i + 3 ≤ t) && own_A3 (own_u xs i) (own_u xs (i + 1)) (own_u xs (i + 2))) = false := by simp only [own_A3, ua, Bool.and_eq_false_iff, decide_eq_false_iff_not]; omega
      have f4 : (decide (i + 4 ≤ t) && own_A4 (own_u xs i) (own_u xs (i + 1)) (own_u xs (i + 2)) (own_u xs (i + 3))) = false := by simp only [own_A4, ua, Bool.and_eq_false_iff, decide_eq_false_iff_not]; omega
      have hR2 : own_V (own_u xs) t (k - 1) (i + 1) = R := by
        rw [← hR]; obtain ⟨k', rfl⟩ : ∃ k', k = k' + 1 := ⟨k - 1, by omega⟩
        have hti : decide (t ≤ i) = false := by simp only [decide_eq_false_iff_not]; omega
        simp only [own_V, Nat.add_sub_cancel, hti, f1, f2, f3, f4, Bool.false_and, Bool.true_and, Bool.or_false, Bool.false_or]
      exact ih (k - 1) (by omega) T2  (i + 1) ((j + (1 : Int32))) (.val (.int a)) (s5) (s6) (s7) (s8) (s9) Y3  (own_inc hj (by omega)) (by omega) (by omega) hR2 (One.val rfl) hs5 hs6 hs7 hs8 hs9
     ·
      refine own_st (fun t_ => XS.icmpYes (own_here Y3) hx rfl (pc0 := 21) (pc' := 30) rfl (hb hby own_d2_21) rfl (XT.ii_ge_t c21_5) (by decide) (by decide)) ?_
      show own_Ends _ _ _ _ (T2.setTop (mkF m 30 #[.val (.ref r0), .val (.int x1), .val (.int x2), .val (.int j), .val (.int a), s5, s6, s7, s8, s9] []))
      refine own_st (fun t_ => XS.sipush (own_here Y3) hx rfl (hb hby own_d2_30) ) ?_
      show own_Ends _ _ _ _ (T2.setTop (mkF m 33 #[.val (.ref r0), .val (.int x1), .val (.int x2), .val (.int j), .val (.int a), s5, s6, s7, s8, s9] [(.int (128 : Int32))]))
      refine own_st (fun t_ => XS.istoreS (own_here Y3) hx rfl (hb hby own_d2_33) rfl rfl hs6) ?_
      show own_Ends _ _ _ _ (T2.setTop (mkF m 35 #[.val (.ref r0), .val (.int x1), .val (.int x2), .val (.int j), .val (.int a), s5, .val (.int (128 : Int32)), s7, s8, s9] []))
      refine own_st (fun t_ => XS.sipush (own_here Y3) hx rfl (hb hby own_d2_35) ) ?_
      show own_Ends _ _ _ _ (T2.setTop (mkF m 38 #[.val (.ref r0), .val (.int x1), .val (.int x2), .val (.int j), .val (.int a), s5, .val (.int (128 : Int32)), s7, s8, s9] [(.int (191 : Int32))]))
      refine own_st (fun t_ => XS.istoreS (own_here Y3) hx rfl (hb hby own_d2_38) rfl rfl hs7) ?_
      show own_Ends _ _ _ _ (T2.setTop (mkF m 40 #[.val (.ref r0), .val (.int x1), .val (.int x2), .val (.int j), .val (.int a), s5, .val (.int (128 : Int32)), .val (.int (191 : Int32)), s8, s9] []))
      refine own_st (fun t_ => XS.iload (own_here Y3) hx rfl (hb hby own_d2_40) rfl) ?_
      show own_Ends _ _ _ _ (T2.setTop (mkF m 42 #[.val (.ref r0), .val (.int x1), .val (.int x2), .val (.int j), .val (.int a), s5, .val (.int (128 : Int32)), .val (.int (191 : Int32)), s8, s9] [(.int a)]))
      refine own_st (fun t_ => XS.sipush (own_here Y3) hx rfl (hb hby own_d2_42) ) ?_
      show own_Ends _ _ _ _ (T2.setTop (mkF m 45 #[.val (.ref r0), .val (.int x1), .val (.int x2), .val (.int j), .val (.int a), s5, .val (.int (128 : Int32)), .val (.int (191 : Int32)), s8, s9] [(.int (194 : Int32)), (.int a)]))
      by_cases c45_6 : a < (194 : Int32)
      ·
       refine own_st (fun t_ => XS.icmpYes (own_here Y3) hx rfl (pc0 := 45) (pc' := 62) rfl (hb hby own_d2_45) rfl (XT.ii_lt_t c45_6) (by decide) (by decide)) ?_
       show own_Ends _ _ _ _ (T2.setTop (mkF m 62 #[.val (.ref r0), .val (.int x1), .val (.int x2), .val (.int j), .val (.int a), s5, .val (.int (128 : Int32)), .val (.int (191 : Int32)), s8, s9] []))
       refine own_st (fun t_ => XS.iload (own_here Y3) hx rfl (hb hby own_d2_62) rfl) ?_
       show own_Ends _ _ _ _ (T2.setTop (mkF m 64 #[.val (.ref r0), .val (.int x1), .val (.int x2), .val (.int j), .val (.int a), s5, .val (.int (128 : Int32)), .val (.int (191 : Int32)), s8, s9] [(.int a)]))
       refine own_st (fun t_ => XS.sipush (own_here Y3) hx rfl (hb hby own_d2_64) ) ?_
       show own_Ends _ _ _ _ (T2.setTop (mkF m 67 #[.val (.ref r0), .val (.int x1), .val (.int x2), .val (.int j), .val (.int a), s5, .val (.int (128 : Int32)), .val (.int (191 : Int32)), s8, s9] [(.int (224 : Int32)), (.int a)]))
       refine own_st (fun t_ => XS.icmpYes (own_here Y3) hx rfl (pc0 := 67) (pc' := 120) rfl (hb hby own_d2_67) rfl (XT.ii_lt_t (by have q0 := c21_5; have q1 := c45_6; have e0 : (128 : Int32).toInt = 128 := rfl; have e1 : (194 : Int32).toInt = 194 := rfl; have e2 : (224 : Int32).toInt = 224 := rfl; have rr := hra; simp only [own_lt, own_eq] at q0 q1 ⊢; omega)) (by decide) (by decide)) ?_
       show own_Ends _ _ _ _ (T2.setTop (mkF m 120 #[.val (.ref r0), .val (.int x1), .val (.int x2), .val (.int j), .val (.int a), s5, .val (.int (128 : Int32)), .val (.int (191 : Int32)), s8, s9] []))
       refine own_st (fun t_ => XS.iload (own_here Y3) hx rfl (hb hby own_d2_120) rfl) ?_
       show own_Ends _ _ _ _ (T2.setTop (mkF m 122 #[.val (.ref r0), .val (.int x1), .val (.int x2), .val (.int j), .val (.int a), s5, .val (.int (128 : Int32)), .val (.int (191 : Int32)), s8, s9] [(.int a)]))
       refine own_st (fun t_ => XS.sipush (own_here Y3) hx rfl (hb hby own_d2_122) ) ?_
       show own_Ends _ _ _ _ (T2.setTop (mkF m 125 #[.val (.ref r0), .val (.int x1), .val (.int x2), .val (.int j), .val (.int a), s5, .val (.int (128 : Int32)), .val (.int (191 : Int32)), s8, s9] [(.int (240 : Int32)), (.int a)]))
       refine own_st (fun t_ => XS.icmpYes (own_here Y3) hx rfl (pc0 := 125) (pc' := 178) rfl (hb hby own_d2_125) rfl (XT.ii_lt_t (by have q0 := c21_5; have q1 := c45_6; have e0 : (128 : Int32).toInt = 128 := rfl; have e1 : (194 : Int32).toInt = 194 := rfl; have e2 : (240 : Int32).toInt = 240 := rfl; have rr := hra; simp only [own_lt, own_eq] at q0 q1 ⊢; omega)) (by decide) (by decide)) ?_
       show own_Ends _ _ _ _ (T2.setTop (mkF m 178 #[.val (.ref r0), .val (.int x1), .val (.int x2), .val (.int j), .val (.int a), s5, .val (.int (128 : Int32)), .val (.int (191 : Int32)), s8, s9] []))
       refine own_st (fun t_ => XS.iconst (own_here Y3) hx rfl (hb hby own_d2_178) ) ?_
       show own_Ends _ _ _ _ (T2.setTop (mkF m 179 #[.val (.ref r0), .val (.int x1), .val (.int x2), .val (.int j), .val (.int a), s5, .val (.int (128 : Int32)), .val (.int (191 : Int32)), s8, s9] [(.int (0 : Int32))]))
       have c21_5t := c21_5; simp only [own_lt] at c21_5t
       have c45_6t := c45_6; simp only [own_lt] at c45_6t
       have ra := own_u_rng xs i; rw [ua] at ra
       have f1 : (own_A1 (own_u xs i)) = false := by simp only [own_A1, ua, decide_eq_false_iff_not]; omega
       have f2 : (decide (i + 2 ≤ t) && own_A2 (own_u xs i) (own_u xs (i + 1))) = false := by simp only [own_A2, ua, Bool.and_eq_false_iff, decide_eq_false_iff_not]; omega
       have f3 : (decide (i + 3 ≤ t) && own_A3 (own_u xs i) (own_u xs (i + 1)) (own_u xs (i + 2))) = false := by simp only [own_A3, ua, Bool.and_eq_false_iff, decide_eq_false_iff_not]; omega
       have f4 : (decide (i + 4 ≤ t) && own_A4 (own_u xs i) (own_u xs (i + 1)) (own_u xs (i + 2)) (own_u xs (i + 3))) = false := by simp only [own_A4, ua, Bool.and_eq_false_iff, decide_eq_false_iff_not]; omega
       refine own_retN Y3 hx hlk (t := .boolean) hret (by simp) (hb hby own_d2_179) (by decide) (by decide) ?_
       refine ⟨?_, rfl⟩
       have : own_V (own_u xs) t (t - f) f = false := by
         rw [hR0, ← hR]; obtain ⟨k', rfl⟩ : ∃ k', k = k' + 1 := ⟨k - 1, by omega⟩
         have hti : decide (t ≤ i) = false := by simp only [decide_eq_false_iff_not]; omega
         simp only [own_V, hti, f1, f2, f3, f4, Bool.false_and, Bool.or_false, Bool.false_or]
       rw [this]; rfl
      ·
       refine own_st (fun t_ => XS.icmpNo (own_here Y3) hx rfl (hb hby own_d2_45) rfl (XT.ii_lt_f c45_6)) ?_
       show own_Ends _ _ _ _ (T2.setTop (mkF m 48 #[.val (.ref r0), .val (.int x1), .val (.int x2), .val (.int j), .val (.int a), s5, .val (.int (128 : Int32)), .val (.int (191 : Int32)), s8, s9] []))
       refine own_st (fun t_ => XS.iload (own_here Y3) hx rfl (hb hby own_d2_48) rfl) ?_
       show own_Ends _ _ _ _ (T2.setTop (mkF m 50 #[.val (.ref r0), .val (.int x1), .val (.int x2), .val (.int j), .val (.int a), s5, .val (.int (128 : Int32)), .val (.int (191 : Int32)), s8, s9] [(.int a)]))
       refine own_st (fun t_ => XS.sipush (own_here Y3) hx rfl (hb hby own_d2_50) ) ?_
       show own_Ends _ _ _ _ (T2.setTop (mkF m 53 #[.val (.ref r0), .val (.int x1), .val (.int x2), .val (.int j), .val (.int a), s5, .val (.int (128 : Int32)), .val (.int (191 : Int32)), s8, s9] [(.int (223 : Int32)), (.int a)]))
       by_cases c53_7 : (223 : Int32) < a
       ·
        refine own_st (fun t_ => XS.icmpYes (own_here Y3) hx rfl (pc0 := 53) (pc' := 62) rfl (hb hby own_d2_53) rfl (XT.ii_gt_t c53_7) (by decide) (by decide)) ?_
        show own_Ends _ _ _ _ (T2.setTop (mkF m 62 #[.val (.ref r0), .val (.int x1), .val (.int x2), .val (.int j), .val (.int a), s5, .val (.int (128 : Int32)), .val (.int (191 : Int32)), s8, s9] []))
        refine own_st (fun t_ => XS.iload (own_here Y3) hx rfl (hb hby own_d2_62) rfl) ?_
        show own_Ends _ _ _ _ (T2.setTop (mkF m 64 #[.val (.ref r0), .val (.int x1), .val (.int x2), .val (.int j), .val (.int a), s5, .val (.int (128 : Int32)), .val (.int (191 : Int32)), s8, s9] [(.int a)]))
        refine own_st (fun t_ => XS.sipush (own_here Y3) hx rfl (hb hby own_d2_64) ) ?_
        show own_Ends _ _ _ _ (T2.setTop (mkF m 67 #[.val (.ref r0), .val (.int x1), .val (.int x2), .val (.int j), .val (.int a), s5, .val (.int (128 : Int32)), .val (.int (191 : Int32)), s8, s9] [(.int (224 : Int32)), (.int a)]))
        refine own_st (fun t_ => XS.icmpNo (own_here Y3) hx rfl (hb hby own_d2_67) rfl (XT.ii_lt_f (by have q0 := c21_5; have q1 := c45_6; have q2 := c53_7; have e0 : (128 : Int32).toInt = 128 := rfl; have e1 : (194 : Int32).toInt = 194 := rfl; have e2 : (223 : Int32).toInt = 223 := rfl; have e3 : (224 : Int32).toInt = 224 := rfl; have rr := hra; simp only [own_lt, own_eq] at q0 q1 q2 ⊢; omega))) ?_
        show own_Ends _ _ _ _ (T2.setTop (mkF m 70 #[.val (.ref r0), .val (.int x1), .val (.int x2), .val (.int j), .val (.int a), s5, .val (.int (128 : Int32)), .val (.int (191 : Int32)), s8, s9] []))
        refine own_st (fun t_ => XS.iload (own_here Y3) hx rfl (hb hby own_d2_70) rfl) ?_
        show own_Ends _ _ _ _ (T2.setTop (mkF m 72 #[.val (.ref r0), .val (.int x1), .val (.int x2), .val (.int j), .val (.int a), s5, .val (.int (128 : Int32)), .val (.int (191 : Int32)), s8, s9] [(.int a)]))
        refine own_st (fun t_ => XS.sipush (own_here Y3) hx rfl (hb hby own_d2_72) ) ?_
        show own_Ends _ _ _ _ (T2.setTop (mkF m 75 #[.val (.ref r0), .val (.int x1), .val (.int x2), .val (.int j), .val (.int a), s5, .val (.int (128 : Int32)), .val (.int (191 : Int32)), s8, s9] [(.int (239 : Int32)), (.int a)]))
        by_cases c75_8 : (239 : Int32) < a
        ·
         refine own_st (fun t_ => XS.icmpYes (own_here Y3) hx rfl (pc0 := 75) (pc' := 120) rfl (hb hby own_d2_75) rfl (XT.ii_gt_t c75_8) (by decide) (by decide)) ?_
         show own_Ends _ _ _ _ (T2.setTop (mkF m 120 #[.val (.ref r0), .val (.int x1), .val (.int x2), .val (.int j), .val (.int a), s5, .val (.int (128 : Int32)), .val (.int (191 : Int32)), s8, s9] []))
         refine own_st (fun t_ => XS.iload (own_here Y3) hx rfl (hb hby own_d2_120) rfl) ?_
         show own_Ends _ _ _ _ (T2.setTop (mkF m 122 #[.val (.ref r0), .val (.int x1), .val (.int x2), .val (.int j), .val (.int a), s5, .val (.int (128 : Int32)), .val (.int (191 : Int32)), s8, s9] [(.int a)]))
         refine own_st (fun t_ => XS.sipush (own_here Y3) hx rfl (hb hby own_d2_122) ) ?_
         show own_Ends _ _ _ _ (T2.setTop (mkF m 125 #[.val (.ref r0), .val (.int x1), .val (.int x2), .val (.int j), .val (.int a), s5, .val (.int (128 : Int32)), .val (.int (191 : Int32)), s8, s9] [(.int (240 : Int32)), (.int a)]))
         refine own_st (fun t_ => XS.icmpNo (own_here Y3) hx rfl (hb hby own_d2_125) rfl (XT.ii_lt_f (by have q0 := c21_5; have q1 := c45_6; have q2 := c53_7; have q3 := c75_8; have e0 : (128 : Int32).toInt = 128 := rfl; have e1 : (194 : Int32).toInt = 194 := rfl; have e2 : (223 : Int32).toInt = 223 := rfl; have e3 : (239 : Int32).toInt = 239 := rfl; have e4 : (240 : Int32).toInt = 240 := rfl; have rr := hra; simp only [own_lt, own_eq] at q0 q1 q2 q3 ⊢; omega))) ?_
         show own_Ends _ _ _ _ (T2.setTop (mkF m 128 #[.val (.ref r0), .val (.int x1), .val (.int x2), .val (.int j), .val (.int a), s5, .val (.int (128 : Int32)), .val (.int (191 : Int32)), s8, s9] []))
         refine own_st (fun t_ => XS.iload (own_here Y3) hx rfl (hb hby own_d2_128) rfl) ?_
         show own_Ends _ _ _ _ (T2.setTop (mkF m 130 #[.val (.ref r0), .val (.int x1), .val (.int x2), .val (.int j), .val (.int a), s5, .val (.int (128 : Int32)), .val (.int (191 : Int32)), s8, s9] [(.int a)]))
         refine own_st (fun t_ => XS.sipush (own_here Y3) hx rfl (hb hby own_d2_130) ) ?_
         show own_Ends _ _ _ _ (T2.setTop (mkF m 133 #[.val (.ref r0), .val (.int x1), .val (.int x2), .val (.int j), .val (.int a), s5, .val (.int (128 : Int32)), .val (.int (191 : Int32)), s8, s9] [(.int (244 : Int32)), (.int a)]))
         by_cases c133_9 : (244 : Int32) < a
         ·
          refine own_st (fun t_ => XS.icmpYes (own_here Y3) hx rfl (pc0 := 133) (pc' := 178) rfl (hb hby own_d2_133) rfl (XT.ii_gt_t c133_9) (by decide) (by decide)) ?_
          show own_Ends _ _ _ _ (T2.setTop (mkF m 178 #[.val (.ref r0), .val (.int x1), .val (.int x2), .val (.int j), .val (.int a), s5, .val (.int (128 : Int32)), .val (.int (191 : Int32)), s8, s9] []))
          refine own_st (fun t_ => XS.iconst (own_here Y3) hx rfl (hb hby own_d2_178) ) ?_
          show own_Ends _ _ _ _ (T2.setTop (mkF m 179 #[.val (.ref r0), .val (.int x1), .val (.int x2), .val (.int j), .val (.int a), s5, .val (.int (128 : Int32)), .val (.int (191 : Int32)), s8, s9] [(.int (0 : Int32))]))
          have c21_5t := c21_5; simp only [own_lt] at c21_5t
          have c45_6t := c45_6; simp only [own_lt] at c45_6t
          have c53_7t := c53_7; simp only [own_lt] at c53_7t
          have c75_8t := c75_8; simp only [own_lt] at c75_8t
          have c133_9t := c133_9; simp only [own_lt] at c133_9t
          have ra := own_u_rng xs i; rw [ua] at ra
          have f1 : (own_A1 (own_u xs i)) = false := by simp only [own_A1, ua, decide_eq_false_iff_not]; omega
          have f2 : (decide (i + 2 ≤ t) && own_A2 (own_u xs i) (own_u xs (i + 1))) = false := by simp only [own_A2, ua, Bool.and_eq_false_iff, decide_eq_false_iff_not]; omega
          have f3 : (decide (i + 3 ≤ t) && own_A3 (own_u xs i) (own_u xs (i + 1)) (own_u xs (i + 2))) = false := by simp only [own_A3, ua, Bool.and_eq_false_iff, decide_eq_false_iff_not]; omega
          have f4 : (decide (i + 4 ≤ t) && own_A4 (own_u xs i) (own_u xs (i + 1)) (own_u xs (i + 2)) (own_u xs (i + 3))) = false := by simp only [own_A4, ua, Bool.and_eq_false_iff, decide_eq_false_iff_not]; omega
          refine own_retN Y3 hx hlk (t := .boolean) hret (by simp) (hb hby own_d2_179) (by decide) (by decide) ?_
          refine ⟨?_, rfl⟩
          have : own_V (own_u xs) t (t - f) f = false := by
            rw [hR0, ← hR]; obtain ⟨k', rfl⟩ : ∃ k', k = k' + 1 := ⟨k - 1, by omega⟩
            have hti : decide (t ≤ i) = false := by simp only [decide_eq_false_iff_not]; omega
            simp only [own_V, hti, f1, f2, f3, f4, Bool.false_and, Bool.or_false, Bool.false_or]
          rw [this]; rfl
         ·
          refine own_st (fun t_ => XS.icmpNo (own_here Y3) hx rfl (hb hby own_d2_133) rfl (XT.ii_gt_f c133_9)) ?_
          show own_Ends _ _ _ _ (T2.setTop (mkF m 136 #[.val (.ref r0), .val (.int x1), .val (.int x2), .val (.int j), .val (.int a), s5, .val (.int (128 : Int32)), .val (.int (191 : Int32)), s8, s9] []))
          refine own_st (fun t_ => XS.iconst (own_here Y3) hx rfl (hb hby own_d2_136) ) ?_
          show own_Ends _ _ _ _ (T2.setTop (mkF m 137 #[.val (.ref r0), .val (.int x1), .val (.int x2), .val (.int j), .val (.int a), s5, .val (.int (128 : Int32)), .val (.int (191 : Int32)), s8, s9] [(.int (4 : Int32))]))
          refine own_st (fun t_ => XS.istoreS (own_here Y3) hx rfl (hb hby own_d2_137) rfl rfl hs5) ?_
          show own_Ends _ _ _ _ (T2.setTop (mkF m 139 #[.val (.ref r0), .val (.int x1), .val (.int x2), .val (.int j), .val (.int a), .val (.int (4 : Int32)), .val (.int (128 : Int32)), .val (.int (191 : Int32)), s8, s9] []))
          refine own_st (fun t_ => XS.iload (own_here Y3) hx rfl (hb hby own_d2_139) rfl) ?_
          show own_Ends _ _ _ _ (T2.setTop (mkF m 141 #[.val (.ref r0), .val (.int x1), .val (.int x2), .val (.int j), .val (.int a), .val (.int (4 : Int32)), .val (.int (128 : Int32)), .val (.int (191 : Int32)), s8, s9] [(.int a)]))
          refine own_st (fun t_ => XS.sipush (own_here Y3) hx rfl (hb hby own_d2_141) ) ?_
          show own_Ends _ _ _ _ (T2.setTop (mkF m 144 #[.val (.ref r0), .val (.int x1), .val (.int x2), .val (.int j), .val (.int a), .val (.int (4 : Int32)), .val (.int (128 : Int32)), .val (.int (191 : Int32)), s8, s9] [(.int (240 : Int32)), (.int a)]))
          by_cases c144_10 : a = (240 : Int32)
          ·
           refine own_st (fun t_ => XS.icmpNo (own_here Y3) hx rfl (hb hby own_d2_144) rfl (XT.ii_ne_f c144_10)) ?_
           show own_Ends _ _ _ _ (T2.setTop (mkF m 147 #[.val (.ref r0), .val (.int x1), .val (.int x2), .val (.int j), .val (.int a), .val (.int (4 : Int32)), .val (.int (128 : Int32)), .val (.int (191 : Int32)), s8, s9] []))
           refine own_st (fun t_ => XS.sipush (own_here Y3) hx rfl (hb hby own_d2_147) ) ?_
           show own_Ends _ _ _ _ (T2.setTop (mkF m 150 #[.val (.ref r0), .val (.int x1), .val (.int x2), .val (.int j), .val (.int a), .val (.int (4 : Int32)), .val (.int (128 : Int32)), .val (.int (191 : Int32)), s8, s9] [(.int (144 : Int32))]))
           refine own_st (fun t_ => XS.goto (own_here Y3) hx rfl (pc0 := 150) (pc' := 155) rfl (hb hby own_d2_150) (by decide) (by decide)) ?_
           show own_Ends _ _ _ _ (T2.setTop (mkF m 155 #[.val (.ref r0), .val (.int x1), .val (.int x2), .val (.int j), .val (.int a), .val (.int (4 : Int32)), .val (.int (128 : Int32)), .val (.int (191 : Int32)), s8, s9] [(.int (144 : Int32))]))
           refine own_st (fun t_ => XS.istore (own_here Y3) hx rfl (hb hby own_d2_155) rfl (l' := #[.val (.ref r0), .val (.int x1), .val (.int x2), .val (.int j), .val (.int a), .val (.int (4 : Int32)), .val (.int (144 : Int32)), .val (.int (191 : Int32)), s8, s9]) rfl) ?_
           show own_Ends _ _ _ _ (T2.setTop (mkF m 157 #[.val (.ref r0), .val (.int x1), .val (.int x2), .val (.int j), .val (.int a), .val (.int (4 : Int32)), .val (.int (144 : Int32)), .val (.int (191 : Int32)), s8, s9] []))
           refine own_st (fun t_ => XS.iload (own_here Y3) hx rfl (hb hby own_d2_157) rfl) ?_
           show own_Ends _ _ _ _ (T2.setTop (mkF m 159 #[.val (.ref r0), .val (.int x1), .val (.int x2), .val (.int j), .val (.int a), .val (.int (4 : Int32)), .val (.int (144 : Int32)), .val (.int (191 : Int32)), s8, s9] [(.int a)]))
           refine own_st (fun t_ => XS.sipush (own_here Y3) hx rfl (hb hby own_d2_159) ) ?_
           show own_Ends _ _ _ _ (T2.setTop (mkF m 162 #[.val (.ref r0), .val (.int x1), .val (.int x2), .val (.int j), .val (.int a), .val (.int (4 : Int32)), .val (.int (144 : Int32)), .val (.int (191 : Int32)), s8, s9] [(.int (244 : Int32)), (.int a)]))
           refine own_st (fun t_ => XS.icmpYes (own_here Y3) hx rfl (pc0 := 162) (pc' := 171) rfl (hb hby own_d2_162) rfl (XT.ii_ne_t (by have q0 := c21_5; have q1 := c45_6; have q2 := c53_7; have q3 := c75_8; have q4 := c133_9; have q5 := c144_10; have e0 : (128 : Int32).toInt = 128 := rfl; have e1 : (194 : Int32).toInt = 194 := rfl; have e2 : (223 : Int32).toInt = 223 := rfl; have e3 : (239 : Int32).toInt = 239 := rfl; have e4 : (240 : Int32).toInt = 240 := rfl; have e5 : (244 : Int32).toInt = 244 := rfl; have rr := hra; simp only [own_lt, own_eq] at q0 q1 q2 q3 q4 q5 ⊢; omega)) (by decide) (by decide)) ?_
           show own_Ends _ _ _ _ (T2.setTop (mkF m 171 #[.val (.ref r0), .val (.int x1), .val (.int x2), .val (.int j), .val (.int a), .val (.int (4 : Int32)), .val (.int (144 : Int32)), .val (.int (191 : Int32)), s8, s9] []))
           refine own_st (fun t_ => XS.iload (own_here Y3) hx rfl (hb hby own_d2_171) rfl) ?_
           show own_Ends _ _ _ _ (T2.setTop (mkF m 173 #[.val (.ref r0), .val (.int x1), .val (.int x2), .val (.int j), .val (.int a), .val (.int (4 : Int32)), .val (.int (144 : Int32)), .val (.int (191 : Int32)), s8, s9] [(.int (191 : Int32))]))
           refine own_st (fun t_ => XS.istore (own_here Y3) hx rfl (hb hby own_d2_173) rfl (l' := #[.val (.ref r0), .val (.int x1), .val (.int x2), .val (.int j), .val (.int a), .val (.int (4 : Int32)), .val (.int (144 : Int32)), .val (.int (191 : Int32)), s8, s9]) rfl) ?_
           show own_Ends _ _ _ _ (T2.setTop (mkF m 175 #[.val (.ref r0), .val (.int x1), .val (.int x2), .val (.int j), .val (.int a), .val (.int (4 : Int32)), .val (.int (144 : Int32)), .val (.int (191 : Int32)), s8, s9] []))
           refine own_st (fun t_ => XS.goto (own_here Y3) hx rfl (pc0 := 175) (pc' := 180) rfl (hb hby own_d2_175) (by decide) (by decide)) ?_
           show own_Ends _ _ _ _ (T2.setTop (mkF m 180 #[.val (.ref r0), .val (.int x1), .val (.int x2), .val (.int j), .val (.int a), .val (.int (4 : Int32)), .val (.int (144 : Int32)), .val (.int (191 : Int32)), s8, s9] []))
           refine own_st (fun t_ => XS.iloadN (own_here Y3) hx rfl (hb hby own_d2_180) rfl) ?_
           show own_Ends _ _ _ _ (T2.setTop (mkF m 181 #[.val (.ref r0), .val (.int x1), .val (.int x2), .val (.int j), .val (.int a), .val (.int (4 : Int32)), .val (.int (144 : Int32)), .val (.int (191 : Int32)), s8, s9] [(.int x2)]))
           refine own_st (fun t_ => XS.iloadN (own_here Y3) hx rfl (hb hby own_d2_181) rfl) ?_
           show own_Ends _ _ _ _ (T2.setTop (mkF m 182 #[.val (.ref r0), .val (.int x1), .val (.int x2), .val (.int j), .val (.int a), .val (.int (4 : Int32)), .val (.int (144 : Int32)), .val (.int (191 : Int32)), s8, s9] [(.int j), (.int x2)]))
           refine own_st (fun t_ => XS.isub (own_here Y3) hx rfl (hb hby own_d2_182) rfl) ?_
           show own_Ends _ _ _ _ (T2.setTop (mkF m 183 #[.val (.ref r0), .val (.int x1), .val (.int x2), .val (.int j), .val (.int a), .val (.int (4 : Int32)), .val (.int (144 : Int32)), .val (.int (191 : Int32)), s8, s9] [(.int (x2 - j))]))
           refine own_st (fun t_ => XS.iload (own_here Y3) hx rfl (hb hby own_d2_183) rfl) ?_
           show own_Ends _ _ _ _ (T2.setTop (mkF m 185 #[.val (.ref r0), .val (.int x1), .val (.int x2), .val (.int j), .val (.int a), .val (.int (4 : Int32)), .val (.int (144 : Int32)), .val (.int (191 : Int32)), s8, s9] [(.int (4 : Int32)), (.int (x2 - j))]))
           by_cases c185_11 : (x2 - j) < (4 : Int32)
           ·
            refine own_st (fun t_ => XS.icmpNo (own_here Y3) hx rfl (hb hby own_d2_185) rfl (XT.ii_ge_f c185_11)) ?_
            show own_Ends _ _ _ _ (T2.setTop (mkF m 188 #[.val (.ref r0), .val (.int x1), .val (.int x2), .val (.int j), .val (.int a), .val (.int (4 : Int32)), .val (.int (144 : Int32)), .val (.int (191 : Int32)), s8, s9] []))
            refine own_st (fun t_ => XS.iconst (own_here Y3) hx rfl (hb hby own_d2_188) ) ?_
            show own_Ends _ _ _ _ (T2.setTop (mkF m 189 #[.val (.ref r0), .val (.int x1), .val (.int x2), .val (.int j), .val (.int a), .val (.int (4 : Int32)), .val (.int (144 : Int32)), .val (.int (191 : Int32)), s8, s9] [(.int (0 : Int32))]))
            have hroom : ¬ i + 4 ≤ t := by have := c185_11; rw [own_lt, own_sub ht hj] at this; have e : (4 : Int32).toInt = 4 := rfl; omega
            have c21_5t := c21_5; simp only [own_lt] at c21_5t
            have c45_6t := c45_6; simp only [own_lt] at c45_6t
            have c53_7t := c53_7; simp only [own_lt] at c53_7t
            have c75_8t := c75_8; simp only [own_lt] at c75_8t
            have c133_9t := c133_9; simp only [own_lt] at c133_9t
            have c144_10t := c144_10; simp only [own_eq] at c144_10t
            have ra := own_u_rng xs i; rw [ua] at ra
            have f1 : (own_A1 (own_u xs i)) = false := by simp only [own_A1, ua, decide_eq_false_iff_not]; omega
            have f2 : (decide (i + 2 ≤ t) && own_A2 (own_u xs i) (own_u xs (i + 1))) = false := by simp only [own_A2, ua, Bool.and_eq_false_iff, decide_eq_false_iff_not]; omega
            have f3 : (decide (i + 3 ≤ t) && own_A3 (own_u xs i) (own_u xs (i + 1)) (own_u xs (i + 2))) = false := by simp only [own_A3, ua, Bool.and_eq_false_iff, decide_eq_false_iff_not]; omega
            have f4 : (decide (i + 4 ≤ t) && own_A4 (own_u xs i) (own_u xs (i + 1)) (own_u xs (i + 2)) (own_u xs (i + 3))) = false := by simp only [own_A4, ua, Bool.and_eq_false_iff, decide_eq_false_iff_not]; omega
            refine own_retN Y3 hx hlk (t := .boolean) hret (by simp) (hb hby own_d2_189) (by decide) (by decide) ?_
            refine ⟨?_, rfl⟩
            have : own_V (own_u xs) t (t - f) f = false := by
              rw [hR0, ← hR]; obtain ⟨k', rfl⟩ : ∃ k', k = k' + 1 := ⟨k - 1, by omega⟩
              have hti : decide (t ≤ i) = false := by simp only [decide_eq_false_iff_not]; omega
              simp only [own_V, hti, f1, f2, f3, f4, Bool.false_and, Bool.or_false, Bool.false_or]
            rw [this]; rfl
           ·
            refine own_st (fun t_ => XS.icmpYes (own_here Y3) hx rfl (pc0 := 185) (pc' := 190) rfl (hb hby own_d2_185) rfl (XT.ii_ge_t c185_11) (by decide) (by decide)) ?_
            show own_Ends _ _ _ _ (T2.setTop (mkF m 190 #[.val (.ref r0), .val (.int x1), .val (.int x2), .val (.int j), .val (.int a), .val (.int (4 : Int32)), .val (.int (144 : Int32)), .val (.int (191 : Int32)), s8, s9] []))
            have hroom : i + 4 ≤ t := by have := c185_11; rw [own_lt, own_sub ht hj] at this; have e : (4 : Int32).toInt = 4 := rfl; omega
            have n1 := own_add hj own_l1 (by omega)
            obtain ⟨n10, n11⟩ := own_nat n1
            have n2 := own_add hj own_l2 (by omega)
            obtain ⟨n20, n21⟩ := own_nat n2
            have n3 := own_add n2 own_l1 (by omega)
            obtain ⟨n30, n31⟩ := own_nat n3
            refine own_st (fun t_ => XS.aloadN (own_here Y3) hx rfl (hb hby own_d2_190) rfl rfl) ?_
            show own_Ends _ _ _ _ (T2.setTop (mkF m 191 #[.val (.ref r0), .val (.int x1), .val (.int x2), .val (.int j), .val (.int a), .val (.int (4 : Int32)), .val (.int (144 : Int32)), .val (.int (191 : Int32)), s8, s9] [(.ref r0)]))
            refine own_st (fun t_ => XS.iloadN (own_here Y3) hx rfl (hb hby own_d2_191) rfl) ?_
            show own_Ends _ _ _ _ (T2.setTop (mkF m 192 #[.val (.ref r0), .val (.int x1), .val (.int x2), .val (.int j), .val (.int a), .val (.int (4 : Int32)), .val (.int (144 : Int32)), .val (.int (191 : Int32)), s8, s9] [(.int j), (.ref r0)]))
            refine own_st (fun t_ => XS.iconst (own_here Y3) hx rfl (hb hby own_d2_192) ) ?_
            show own_Ends _ _ _ _ (T2.setTop (mkF m 193 #[.val (.ref r0), .val (.int x1), .val (.int x2), .val (.int j), .val (.int a), .val (.int (4 : Int32)), .val (.int (144 : Int32)), .val (.int (191 : Int32)), s8, s9] [(.int (1 : Int32)), (.int j), (.ref r0)]))
            refine own_st (fun t_ => XS.iadd (own_here Y3) hx rfl (hb hby own_d2_193) rfl) ?_
            show own_Ends _ _ _ _ (T2.setTop (mkF m 194 #[.val (.ref r0), .val (.int x1), .val (.int x2), .val (.int j), .val (.int a), .val (.int (4 : Int32)), .val (.int (144 : Int32)), .val (.int (191 : Int32)), s8, s9] [(.int (j + (1 : Int32))), (.ref r0)]))
            refine own_ldB Y3 hx hZ A (i := (i + 1)) n10 n11 (own_mlen (by omega)) (v := (.int (own_g xs (i + 1)))) (own_mget (own_mlen (by omega))) rfl rfl (hb hby own_d2_194) ?_
            show own_Ends _ _ _ _ (T2.setTop (mkF m 195 #[.val (.ref r0), .val (.int x1), .val (.int x2), .val (.int j), .val (.int a), .val (.int (4 : Int32)), .val (.int (144 : Int32)), .val (.int (191 : Int32)), s8, s9] [(.int (own_g xs (i + 1)))]))
            refine own_st (fun t_ => XS.sipush (own_here Y3) hx rfl (hb hby own_d2_195) ) ?_
            show own_Ends _ _ _ _ (T2.setTop (mkF m 198 #[.val (.ref r0), .val (.int x1), .val (.int x2), .val (.int j), .val (.int a), .val (.int (4 : Int32)), .val (.int (144 : Int32)), .val (.int (191 : Int32)), s8, s9] [(.int (255 : Int32)), (.int (own_g xs (i + 1)))]))
            refine own_st (fun t_ => XS.iand (own_here Y3) hx rfl (hb hby own_d2_198) rfl) ?_
            show own_Ends _ _ _ _ (T2.setTop (mkF m 199 #[.val (.ref r0), .val (.int x1), .val (.int x2), .val (.int j), .val (.int a), .val (.int (4 : Int32)), .val (.int (144 : Int32)), .val (.int (191 : Int32)), s8, s9] [(.int ((own_g xs (i + 1)) &&& (255 : Int32)))]))
            refine own_st (fun t_ => XS.istoreS (own_here Y3) hx rfl (hb hby own_d2_199) rfl rfl hs8) ?_
            show own_Ends _ _ _ _ (T2.setTop (mkF m 201 #[.val (.ref r0), .val (.int x1), .val (.int x2), .val (.int j), .val (.int a), .val (.int (4 : Int32)), .val (.int (144 : Int32)), .val (.int (191 : Int32)), .val (.int ((own_g xs (i + 1)) &&& (255 : Int32))), s9] []))
            generalize hb_ : ((own_g xs (i + 1)) &&& (255 : Int32)) = b
            have u1 : own_u xs (i + 1) = b.toInt := by rw [own_u, hb_]
            refine own_st (fun t_ => XS.iload (own_here Y3) hx rfl (hb hby own_d2_201) rfl) ?_
            show own_Ends _ _ _ _ (T2.setTop (mkF m 203 #[.val (.ref r0), .val (.int x1), .val (.int x2), .val (.int j), .val (.int a), .val (.int (4 : Int32)), .val (.int (144 : Int32)), .val (.int (191 : Int32)), .val (.int b), s9] [(.int b)]))
            refine own_st (fun t_ => XS.iload (own_here Y3) hx rfl (hb hby own_d2_203) rfl) ?_
            show own_Ends _ _ _ _ (T2.setTop (mkF m 205 #[.val (.ref r0), .val (.int x1), .val (.int x2), .val (.int j), .val (.int a), .val (.int (4 : Int32)), .val (.int (144 : Int32)), .val (.int (191 : Int32)), .val (.int b), s9] [(.int (144 : Int32)), (.int b)]))
            by_cases c205_12 : b < (144 : Int32)
            ·
             refine own_st (fun t_ => XS.icmpYes (own_here Y3) hx rfl (pc0 := 205) (pc' := 215) rfl (hb hby own_d2_205) rfl (XT.ii_lt_t c205_12) (by decide) (by decide)) ?_
             show own_Ends _ _ _ _ (T2.setTop (mkF m 215 #[.val (.ref r0), .val (.int x1), .val (.int x2), .val (.int j), .val (.int a), .val (.int (4 : Int32)), .val (.int (144 : Int32)), .val (.int (191 : Int32)), .val (.int b), s9] []))
             refine own_st (fun t_ => XS.iconst (own_here Y3) hx rfl (hb hby own_d2_215) ) ?_
             show own_Ends _ _ _ _ (T2.setTop (mkF m 216 #[.val (.ref r0), .val (.int x1), .val (.int x2), .val (.int j), .val (.int a), .val (.int (4 : Int32)), .val (.int (144 : Int32)), .val (.int (191 : Int32)), .val (.int b), s9] [(.int (0 : Int32))]))
             have c21_5t := c21_5; simp only [own_lt] at c21_5t
             have c45_6t := c45_6; simp only [own_lt] at c45_6t
             have c53_7t := c53_7; simp only [own_lt] at c53_7t
             have c75_8t := c75_8; simp only [own_lt] at c75_8t
             have c133_9t := c133_9; simp only [own_lt] at c133_9t
             have c144_10t := c144_10; simp only [own_eq] at c144_10t
             have c205_12t := c205_12; simp only [own_lt] at c205_12t
             have ra := own_u_rng xs i; rw [ua] at ra
             have f1 : (own_A1 (own_u xs i)) = false := by simp only [own_A1, ua, decide_eq_false_iff_not]; omega
             have f2 : (decide (i + 2 ≤ t) && own_A2 (own_u xs i) (own_u xs (i + 1))) = false := by simp only [own_A2, ua, u1, Bool.and_eq_false_iff, decide_eq_false_iff_not]; omega
             have f3 : (decide (i + 3 ≤ t) && own_A3 (own_u xs i) (own_u xs (i + 1)) (own_u xs (i + 2))) = false := by simp only [own_A3, ua, u1, Bool.and_eq_false_iff, decide_eq_false_iff_not]; omega
             have f4 : (decide (i + 4 ≤ t) && own_A4 (own_u xs i) (own_u xs (i + 1)) (own_u xs (i + 2)) (own_u xs (i + 3))) = false := by simp only [own_A4, ua, u1, Bool.and_eq_false_iff, decide_eq_false_iff_not]; omega
             refine own_retN Y3 hx hlk (t := .boolean) hret (by simp) (hb hby own_d2_216) (by decide) (by decide) ?_
             refine ⟨?_, rfl⟩
             have : own_V (own_u xs) t (t - f) f = false := by
               rw [hR0, ← hR]; obtain ⟨k', rfl⟩ : ∃ k', k = k' + 1 := ⟨k - 1, by omega⟩
               have hti : decide (t ≤ i) = false := by simp only [decide_eq_false_iff_not]; omega
               simp only [own_V, hti, f1, f2, f3, f4, Bool.false_and, Bool.or_false, Bool.false_or]
             rw [this]; rfl
            ·
             refine own_st (fun t_ => XS.icmpNo (own_here Y3) hx rfl (hb hby own_d2_205) rfl (XT.ii_lt_f c205_12)) ?_
             show own_Ends _ _ _ _ (T2.setTop (mkF m 208 #[.val (.ref r0), .val (.int x1), .val (.int x2), .val (.int j), .val (.int a), .val (.int (4 : Int32)), .val (.int (144 : Int32)), .val (.int (191 : Int32)), .val (.int b), s9] []))
             refine own_st (fun t_ => XS.iload (own_here Y3) hx rfl (hb hby own_d2_208) rfl) ?_
             show own_Ends _ _ _ _ (T2.setTop (mkF m 210 #[.val (.ref r0), .val (.int x1), .val (.int x2), .val (.int j), .val (.int a), .val (.int (4 : Int32)), .val (.int (144 : Int32)), .val (.int (191 : Int32)), .val (.int b), s9] [(.int b)]))
             refine own_st (fun t_ => XS.iload (own_here Y3) hx rfl (hb hby own_d2_210) rfl) ?_
             show own_Ends _ _ _ _ (T2.setTop (mkF m 212 #[.val (.ref r0), .val (.int x1), .val (.int x2), .val (.int j), .val (.int a), .val (.int (4 : Int32)), .val (.int (144 : Int32)), .val (.int (191 : Int32)), .val (.int b), s9] [(.int (191 : Int32)), (.int b)]))
             by_cases c212_13 : (191 : Int32) < b
             ·
              refine own_st (fun t_ => XS.icmpNo (own_here Y3) hx rfl (hb hby own_d2_212) rfl (XT.ii_le_f c212_13)) ?_
              show own_Ends _ _ _ _ (T2.setTop (mkF m 215 #[.val (.ref r0), .val (.int x1), .val (.int x2), .val (.int j), .val (.int a), .val (.int (4 : Int32)), .val (.int (144 : Int32)), .val (.int (191 : Int32)), .val (.int b), s9] []))
              refine own_st (fun t_ => XS.iconst (own_here Y3) hx rfl (hb hby own_d2_215) ) ?_
              show own_Ends _ _ _ _ (T2.setTop (mkF m 216 #[.val (.ref r0), .val (.int x1), .val (.int x2), .val (.int j), .val (.int a), .val (.int (4 : Int32)), .val (.int (144 : Int32)), .val (.int (191 : Int32)), .val (.int b), s9] [(.int (0 : Int32))]))
              have c21_5t := c21_5; simp only [own_lt] at c21_5t
              have c45_6t := c45_6; simp only [own_lt] at c45_6t
              have c53_7t := c53_7; simp only [own_lt] at c53_7t
              have c75_8t := c75_8; simp only [own_lt] at c75_8t
              have c133_9t := c133_9; simp only [own_lt] at c133_9t
              have c144_10t := c144_10; simp only [own_eq] at c144_10t
              have c205_12t := c205_12; simp only [own_lt] at c205_12t
              have c212_13t := c212_13; simp only [own_lt] at c212_13t
              have ra := own_u_rng xs i; rw [ua] at ra
              have f1 : (own_A1 (own_u xs i)) = false := by simp only [own_A1, ua, decide_eq_false_iff_not]; omega
              have f2 : (decide (i + 2 ≤ t) && own_A2 (own_u xs i) (own_u xs (i + 1))) = false := by simp only [own_A2, ua, u1, Bool.and_eq_false_iff, decide_eq_false_iff_not]; omega
              have f3 : (decide (i + 3 ≤ t) && own_A3 (own_u xs i) (own_u xs (i + 1)) (own_u xs (i + 2))) = false := by simp only [own_A3, ua, u1, Bool.and_eq_false_iff, decide_eq_false_iff_not]; omega
              have f4 : (decide (i + 4 ≤ t) && own_A4 (own_u xs i) (own_u xs (i + 1)) (own_u xs (i + 2)) (own_u xs (i + 3))) = false := by simp only [own_A4, ua, u1, Bool.and_eq_false_iff, decide_eq_false_iff_not]; omega
              refine own_retN Y3 hx hlk (t := .boolean) hret (by simp) (hb hby own_d2_216) (by decide) (by decide) ?_
              refine ⟨?_, rfl⟩
              have : own_V (own_u xs) t (t - f) f = false := by
                rw [hR0, ← hR]; obtain ⟨k', rfl⟩ : ∃ k', k = k' + 1 := ⟨k - 1, by omega⟩
                have hti : decide (t ≤ i) = false := by simp only [decide_eq_false_iff_not]; omega
                simp only [own_V, hti, f1, f2, f3, f4, Bool.false_and, Bool.or_false, Bool.false_or]
              rw [this]; rfl
             ·
              refine own_st (fun t_ => XS.icmpYes (own_here Y3) hx rfl (pc0 := 212) (pc' := 217) rfl (hb hby own_d2_212) rfl (XT.ii_le_t c212_13) (by decide) (by decide)) ?_
              show own_Ends _ _ _ _ (T2.setTop (mkF m 217 #[.val (.ref r0), .val (.int x1), .val (.int x2), .val (.int j), .val (.int a), .val (.int (4 : Int32)), .val (.int (144 : Int32)), .val (.int (191 : Int32)), .val (.int b), s9] []))
              refine own_st (fun t_ => XS.iloadN (own_here Y3) hx rfl (hb hby own_d2_217) rfl) ?_
              show own_Ends _ _ _ _ (T2.setTop (mkF m 218 #[.val (.ref r0), .val (.int x1), .val (.int x2), .val (.int j), .val (.int a), .val (.int (4 : Int32)), .val (.int (144 : Int32)), .val (.int (191 : Int32)), .val (.int b), s9] [(.int j)]))
              refine own_st (fun t_ => XS.iconst (own_here Y3) hx rfl (hb hby own_d2_218) ) ?_
              show own_Ends _ _ _ _ (T2.setTop (mkF m 219 #[.val (.ref r0), .val (.int x1), .val (.int x2), .val (.int j), .val (.int a), .val (.int (4 : Int32)), .val (.int (144 : Int32)), .val (.int (191 : Int32)), .val (.int b), s9] [(.int (2 : Int32)), (.int j)]))
              refine own_st (fun t_ => XS.iadd (own_here Y3) hx rfl (hb hby own_d2_219) rfl) ?_
              show own_Ends _ _ _ _ (T2.setTop (mkF m 220 #[.val (.ref r0), .val (.int x1), .val (.int x2), .val (.int j), .val (.int a), .val (.int (4 : Int32)), .val (.int (144 : Int32)), .val (.int (191 : Int32)), .val (.int b), s9] [(.int (j + (2 : Int32)))]))
              refine own_st (fun t_ => XS.istoreS (own_here Y3) hx rfl (hb hby own_d2_220) rfl rfl hs9) ?_
              show own_Ends _ _ _ _ (T2.setTop (mkF m 222 #[.val (.ref r0), .val (.int x1), .val (.int x2), .val (.int j), .val (.int a), .val (.int (4 : Int32)), .val (.int (144 : Int32)), .val (.int (191 : Int32)), .val (.int b), .val (.int (j + (2 : Int32)))] []))
              refine own_st (fun t_ => XS.iload (own_here Y3) hx rfl (hb hby own_d2_222) rfl) ?_
              show own_Ends _ _ _ _ (T2.setTop (mkF m 224 #[.val (.ref r0), .val (.int x1), .val (.int x2), .val (.int j), .val (.int a), .val (.int (4 : Int32)), .val (.int (144 : Int32)), .val (.int (191 : Int32)), .val (.int b), .val (.int (j + (2 : Int32)))] [(.int (j + (2 : Int32)))]))
              refine own_st (fun t_ => XS.iloadN (own_here Y3) hx rfl (hb hby own_d2_224) rfl) ?_
              show own_Ends _ _ _ _ (T2.setTop (mkF m 225 #[.val (.ref r0), .val (.int x1), .val (.int x2), .val (.int j), .val (.int a), .val (.int (4 : Int32)), .val (.int (144 : Int32)), .val (.int (191 : Int32)), .val (.int b), .val (.int (j + (2 : Int32)))] [(.int j), (.int (j + (2 : Int32)))]))
              refine own_st (fun t_ => XS.iload (own_here Y3) hx rfl (hb hby own_d2_225) rfl) ?_
              show own_Ends _ _ _ _ (T2.setTop (mkF m 227 #[.val (.ref r0), .val (.int x1), .val (.int x2), .val (.int j), .val (.int a), .val (.int (4 : Int32)), .val (.int (144 : Int32)), .val (.int (191 : Int32)), .val (.int b), .val (.int (j + (2 : Int32)))] [(.int (4 : Int32)), (.int j), (.int (j + (2 : Int32)))]))
              refine own_st (fun t_ => XS.iadd (own_here Y3) hx rfl (hb hby own_d2_227) rfl) ?_
              show own_Ends _ _ _ _ (T2.setTop (mkF m 228 #[.val (.ref r0), .val (.int x1), .val (.int x2), .val (.int j), .val (.int a), .val (.int (4 : Int32)), .val (.int (144 : Int32)), .val (.int (191 : Int32)), .val (.int b), .val (.int (j + (2 : Int32)))] [(.int (j + (4 : Int32))), (.int (j + (2 : Int32)))]))
              have ee0 := own_add hj own_l4 (by omega)
              refine own_st (fun t_ => XS.icmpNo (own_here Y3) hx rfl (hb hby own_d2_228) rfl (XT.ii_ge_f (by rw [own_lt, n2, ee0]; omega))) ?_
              show own_Ends _ _ _ _ (T2.setTop (mkF m 231 #[.val (.ref r0), .val (.int x1), .val (.int x2), .val (.int j), .val (.int a), .val (.int (4 : Int32)), .val (.int (144 : Int32)), .val (.int (191 : Int32)), .val (.int b), .val (.int (j + (2 : Int32)))] []))
              refine own_st (fun t_ => XS.aloadN (own_here Y3) hx rfl (hb hby own_d2_231) rfl rfl) ?_
              show own_Ends _ _ _ _ (T2.setTop (mkF m 232 #[.val (.ref r0), .val (.int x1), .val (.int x2), .val (.int j), .val (.int a), .val (.int (4 : Int32)), .val (.int (144 : Int32)), .val (.int (191 : Int32)), .val (.int b), .val (.int (j + (2 : Int32)))] [(.ref r0)]))
              refine own_st (fun t_ => XS.iload (own_here Y3) hx rfl (hb hby own_d2_232) rfl) ?_
              show own_Ends _ _ _ _ (T2.setTop (mkF m 234 #[.val (.ref r0), .val (.int x1), .val (.int x2), .val (.int j), .val (.int a), .val (.int (4 : Int32)), .val (.int (144 : Int32)), .val (.int (191 : Int32)), .val (.int b), .val (.int (j + (2 : Int32)))] [(.int (j + (2 : Int32))), (.ref r0)]))
              refine own_ldB Y3 hx hZ A (i := (i + 2)) n20 n21 (own_mlen (by omega)) (v := (.int (own_g xs (i + 2)))) (own_mget (own_mlen (by omega))) rfl rfl (hb hby own_d2_234) ?_
              show own_Ends _ _ _ _ (T2.setTop (mkF m 235 #[.val (.ref r0), .val (.int x1), .val (.int x2), .val (.int j), .val (.int a), .val (.int (4 : Int32)), .val (.int (144 : Int32)), .val (.int (191 : Int32)), .val (.int b), .val (.int (j + (2 : Int32)))] [(.int (own_g xs (i + 2)))]))
              refine own_st (fun t_ => XS.sipush (own_here Y3) hx rfl (hb hby own_d2_235) ) ?_
              show own_Ends _ _ _ _ (T2.setTop (mkF m 238 #[.val (.ref r0), .val (.int x1), .val (.int x2), .val (.int j), .val (.int a), .val (.int (4 : Int32)), .val (.int (144 : Int32)), .val (.int (191 : Int32)), .val (.int b), .val (.int (j + (2 : Int32)))] [(.int (192 : Int32)), (.int (own_g xs (i + 2)))]))
              refine own_st (fun t_ => XS.iand (own_here Y3) hx rfl (hb hby own_d2_238) rfl) ?_
              show own_Ends _ _ _ _ (T2.setTop (mkF m 239 #[.val (.ref r0), .val (.int x1), .val (.int x2), .val (.int j), .val (.int a), .val (.int (4 : Int32)), .val (.int (144 : Int32)), .val (.int (191 : Int32)), .val (.int b), .val (.int (j + (2 : Int32)))] [(.int ((own_g xs (i + 2)) &&& (192 : Int32)))]))
              refine own_st (fun t_ => XS.sipush (own_here Y3) hx rfl (hb hby own_d2_239) ) ?_
              show own_Ends _ _ _ _ (T2.setTop (mkF m 242 #[.val (.ref r0), .val (.int x1), .val (.int x2), .val (.int j), .val (.int a), .val (.int (4 : Int32)), .val (.int (144 : Int32)), .val (.int (191 : Int32)), .val (.int b), .val (.int (j + (2 : Int32)))] [(.int (128 : Int32)), (.int ((own_g xs (i + 2)) &&& (192 : Int32)))]))
              by_cases c242_14 : ((own_g xs (i + 2)) &&& (192 : Int32)) = (128 : Int32)
              ·
               refine own_st (fun t_ => XS.icmpYes (own_here Y3) hx rfl (pc0 := 242) (pc' := 247) rfl (hb hby own_d2_242) rfl (XT.ii_eq_t c242_14) (by decide) (by decide)) ?_
               show own_Ends _ _ _ _ (T2.setTop (mkF m 247 #[.val (.ref r0), .val (.int x1), .val (.int x2), .val (.int j), .val (.int a), .val (.int (4 : Int32)), .val (.int (144 : Int32)), .val (.int (191 : Int32)), .val (.int b), .val (.int (j + (2 : Int32)))] []))
               refine own_st (fun t_ => XS.iinc (own_here Y3) hx rfl (hb hby own_d2_247) rfl (l' := #[.val (.ref r0), .val (.int x1), .val (.int x2), .val (.int j), .val (.int a), .val (.int (4 : Int32)), .val (.int (144 : Int32)), .val (.int (191 : Int32)), .val (.int b), .val (.int ((j + (2 : Int32)) + (1 : Int32)))]) rfl) ?_
               show own_Ends _ _ _ _ (T2.setTop (mkF m 250 #[.val (.ref r0), .val (.int x1), .val (.int x2), .val (.int j), .val (.int a), .val (.int (4 : Int32)), .val (.int (144 : Int32)), .val (.int (191 : Int32)), .val (.int b), .val (.int ((j + (2 : Int32)) + (1 : Int32)))] []))
               refine own_st (fun t_ => XS.goto (own_here Y3) hx rfl (pc0 := 250) (pc' := 222) rfl (hb hby own_d2_250) (by decide) (by decide)) ?_
               show own_Ends _ _ _ _ (T2.setTop (mkF m 222 #[.val (.ref r0), .val (.int x1), .val (.int x2), .val (.int j), .val (.int a), .val (.int (4 : Int32)), .val (.int (144 : Int32)), .val (.int (191 : Int32)), .val (.int b), .val (.int ((j + (2 : Int32)) + (1 : Int32)))] []))
               refine own_st (fun t_ => XS.iload (own_here Y3) hx rfl (hb hby own_d2_222) rfl) ?_
               show own_Ends _ _ _ _ (T2.setTop (mkF m 224 #[.val (.ref r0), .val (.int x1), .val (.int x2), .val (.int j), .val (.int a), .val (.int (4 : Int32)), .val (.int (144 : Int32)), .val (.int (191 : Int32)), .val (.int b), .val (.int ((j + (2 : Int32)) + (1 : Int32)))] [(.int ((j + (2 : Int32)) + (1 : Int32)))]))
               refine own_st (fun t_ => XS.iloadN (own_here Y3) hx rfl (hb hby own_d2_224) rfl) ?_
               show own_Ends _ _ _ _ (T2.setTop (mkF m 225 #[.val (.ref r0), .val (.int x1), .val (.int x2), .val (.int j), .val (.int a), .val (.int (4 : Int32)), .val (.int (144 : Int32)), .val (.int (191 : Int32)), .val (.int b), .val (.int ((j + (2 : Int32)) + (1 : Int32)))] [(.int j), (.int ((j + (2 : Int32)) + (1 : Int32)))]))
               refine own_st (fun t_ => XS.iload (own_here Y3) hx rfl (hb hby own_d2_225) rfl) ?_
               show own_Ends _ _ _ _ (T2.setTop (mkF m 227 #[.val (.ref r0), .val (.int x1), .val (.int x2), .val (.int j), .val (.int a), .val (.int (4 : Int32)), .val (.int (144 : Int32)), .val (.int (191 : Int32)), .val (.int b), .val (.int ((j + (2 : Int32)) + (1 : Int32)))] [(.int (4 : Int32)), (.int j), (.int ((j + (2 : Int32)) + (1 : Int32)))]))
               refine own_st (fun t_ => XS.iadd (own_here Y3) hx rfl (hb hby own_d2_227) rfl) ?_
               show own_Ends _ _ _ _ (T2.setTop (mkF m 228 #[.val (.ref r0), .val (.int x1), .val (.int x2), .val (.int j), .val (.int a), .val (.int (4 : Int32)), .val (.int (144 : Int32)), .val (.int (191 : Int32)), .val (.int b), .val (.int ((j + (2 : Int32)) + (1 : Int32)))] [(.int (j + (4 : Int32))), (.int ((j + (2 : Int32)) + (1 : Int32)))]))
               have ee1 := own_add hj own_l4 (by omega)
               refine own_st (fun t_ => XS.icmpNo (own_here Y3) hx rfl (hb hby own_d2_228) rfl (XT.ii_ge_f (by rw [own_lt, n3, ee1]; omega))) ?_
               show own_Ends _ _ _ _ (T2.setTop (mkF m 231 #[.val (.ref r0), .val (.int x1), .val (.int x2), .val (.int j), .val (.int a), .val (.int (4 : Int32)), .val (.int (144 : Int32)), .val (.int (191 : Int32)), .val (.int b), .val (.int ((j + (2 : Int32)) + (1 : Int32)))] []))
               refine own_st (fun t_ => XS.aloadN (own_here Y3) hx rfl (hb hby own_d2_231) rfl rfl) ?_
               show own_Ends _ _ _ _ (T2.setTop (mkF m 232 #[.val (.ref r0), .val (.int x1), .val (.int x2), .val (.int j), .val (.int a), .val (.int (4 : Int32)), .val (.int (144 : Int32)), .val (.int (191 : Int32)), .val (.int b), .val (.int ((j + (2 : Int32)) + (1 : Int32)))] [(.ref r0)]))
               refine own_st (fun t_ => XS.iload (own_here Y3) hx rfl (hb hby own_d2_232) rfl) ?_
               show own_Ends _ _ _ _ (T2.setTop (mkF m 234 #[.val (.ref r0), .val (.int x1), .val (.int x2), .val (.int j), .val (.int a), .val (.int (4 : Int32)), .val (.int (144 : Int32)), .val (.int (191 : Int32)), .val (.int b), .val (.int ((j + (2 : Int32)) + (1 : Int32)))] [(.int ((j + (2 : Int32)) + (1 : Int32))), (.ref r0)]))
               refine own_ldB Y3 hx hZ A (i := (i + 2 + 1)) n30 n31 (own_mlen (by omega)) (v := (.int (own_g xs (i + 3)))) (own_mget (own_mlen (by omega))) rfl rfl (hb hby own_d2_234) ?_
               show own_Ends _ _ _ _ (T2.setTop (mkF m 235 #[.val (.ref r0), .val (.int x1), .val (.int x2), .val (.int j), .val (.int a), .val (.int (4 : Int32)), .val (.int (144 : Int32)), .val (.int (191 : Int32)), .val (.int b), .val (.int ((j + (2 : Int32)) + (1 : Int32)))] [(.int (own_g xs (i + 3)))]))
               refine own_st (fun t_ => XS.sipush (own_here Y3) hx rfl (hb hby own_d2_235) ) ?_
               show own_Ends _ _ _ _ (T2.setTop (mkF m 238 #[.val (.ref r0), .val (.int x1), .val (.int x2), .val (.int j), .val (.int a), .val (.int (4 : Int32)), .val (.int (144 : Int32)), .val (.int (191 : Int32)), .val (.int b), .val (.int ((j + (2 : Int32)) + (1 : Int32)))] [(.int (192 : Int32)), (.int (own_g xs (i + 3)))]))
               refine own_st (fun t_ => XS.iand (own_here Y3) hx rfl (hb hby own_d2_238) rfl) ?_
               show own_Ends _ _ _ _ (T2.setTop (mkF m 239 #[.val (.ref r0), .val (.int x1), .val (.int x2), .val (.int j), .val (.int a), .val (.int (4 : Int32)), .val (.int (144 : Int32)), .val (.int (191 : Int32)), .val (.int b), .val (.int ((j + (2 : Int32)) + (1 : Int32)))] [(.int ((own_g xs (i + 3)) &&& (192 : Int32)))]))
               refine own_st (fun t_ => XS.sipush (own_here Y3) hx rfl (hb hby own_d2_239) ) ?_
               show own_Ends _ _ _ _ (T2.setTop (mkF m 242 #[.val (.ref r0), .val (.int x1), .val (.int x2), .val (.int j), .val (.int a), .val (.int (4 : Int32)), .val (.int (144 : Int32)), .val (.int (191 : Int32)), .val (.int b), .val (.int ((j + (2 : Int32)) + (1 : Int32)))] [(.int (128 : Int32)), (.int ((own_g xs (i + 3)) &&& (192 : Int32)))]))
               by_cases c242_15 : ((own_g xs (i + 3)) &&& (192 : Int32)) = (128 : Int32)
               ·
                refine own_st (fun t_ => XS.icmpYes (own_here Y3) hx rfl (pc0 := 242) (pc' := 247) rfl (hb hby own_d2_242) rfl (XT.ii_eq_t c242_15) (by decide) (by decide)) ?_
                show own_Ends _ _ _ _ (T2.setTop (mkF m 247 #[.val (.ref r0), .val (.int x1), .val (.int x2), .val (.int j), .val (.int a), .val (.int (4 : Int32)), .val (.int (144 : Int32)), .val (.int (191 : Int32)), .val (.int b), .val (.int ((j + (2 : Int32)) + (1 : Int32)))] []))
                refine own_st (fun t_ => XS.iinc (own_here Y3) hx rfl (hb hby own_d2_247) rfl (l' := #[.val (.ref r0), .val (.int x1), .val (.int x2), .val (.int j), .val (.int a), .val (.int (4 : Int32)), .val (.int (144 : Int32)), .val (.int (191 : Int32)), .val (.int b), .val (.int (((j + (2 : Int32)) + (1 : Int32)) + (1 : Int32)))]) rfl) ?_
                show own_Ends _ _ _ _ (T2.setTop (mkF m 250 #[.val (.ref r0), .val (.int x1), .val (.int x2), .val (.int j), .val (.int a), .val (.int (4 : Int32)), .val (.int (144 : Int32)), .val (.int (191 : Int32)), .val (.int b), .val (.int (((j + (2 : Int32)) + (1 : Int32)) + (1 : Int32)))] []))
                refine own_st (fun t_ => XS.goto (own_here Y3) hx rfl (pc0 := 250) (pc' := 222) rfl (hb hby own_d2_250) (by decide) (by decide)) ?_
                show own_Ends _ _ _ _ (T2.setTop (mkF m 222 #[.val (.ref r0), .val (.int x1), .val (.int x2), .val (.int j), .val (.int a), .val (.int (4 : Int32)), .val (.int (144 : Int32)), .val (.int (191 : Int32)), .val (.int b), .val (.int (((j + (2 : Int32)) + (1 : Int32)) + (1 : Int32)))] []))
                refine own_st (fun t_ => XS.iload (own_here Y3) hx rfl (hb hby own_d2_222) rfl) ?_
                show own_Ends _ _ _ _ (T2.setTop (mkF m 224 #[.val (.ref r0), .val (.int x1), .val (.int x2), .val (.int j), .val (.int a), .val (.int (4 : Int32)), .val (.int (144 : Int32)), .val (.int (191 : Int32)), .val (.int b), .val (.int (((j + (2 : Int32)) + (1 : Int32)) + (1 : Int32)))] [(.int (((j + (2 : Int32)) + (1 : Int32)) + (1 : Int32)))]))
                refine own_st (fun t_ => XS.iloadN (own_here Y3) hx rfl (hb hby own_d2_224) rfl) ?_
                show own_Ends _ _ _ _ (T2.setTop (mkF m 225 #[.val (.ref r0), .val (.int x1), .val (.int x2), .val (.int j), .val (.int a), .val (.int (4 : Int32)), .val (.int (144 : Int32)), .val (.int (191 : Int32)), .val (.int b), .val (.int (((j + (2 : Int32)) + (1 : Int32)) + (1 : Int32)))] [(.int j), (.int (((j + (2 : Int32)) + (1 : Int32)) + (1 : Int32)))]))
                refine own_st (fun t_ => XS.iload (own_here Y3) hx rfl (hb hby own_d2_225) rfl) ?_
                show own_Ends _ _ _ _ (T2.setTop (mkF m 227 #[.val (.ref r0), .val (.int x1), .val (.int x2), .val (.int j), .val (.int a), .val (.int (4 : Int32)), .val (.int (144 : Int32)), .val (.int (191 : Int32)), .val (.int b), .val (.int (((j + (2 : Int32)) + (1 : Int32)) + (1 : Int32)))] [(.int (4 : Int32)), (.int j), (.int (((j + (2 : Int32)) + (1 : Int32)) + (1 : Int32)))]))
                refine own_st (fun t_ => XS.iadd (own_here Y3) hx rfl (hb hby own_d2_227) rfl) ?_
                show own_Ends _ _ _ _ (T2.setTop (mkF m 228 #[.val (.ref r0), .val (.int x1), .val (.int x2), .val (.int j), .val (.int a), .val (.int (4 : Int32)), .val (.int (144 : Int32)), .val (.int (191 : Int32)), .val (.int b), .val (.int (((j + (2 : Int32)) + (1 : Int32)) + (1 : Int32)))] [(.int (j + (4 : Int32))), (.int (((j + (2 : Int32)) + (1 : Int32)) + (1 : Int32)))]))
                have ee2 := own_add hj own_l4 (by omega)
                refine own_st (fun t_ => XS.icmpYes (own_here Y3) hx rfl (pc0 := 228) (pc' := 253) rfl (hb hby own_d2_228) rfl (XT.ii_ge_t (by rw [own_lt, (own_add n3 own_l1 (by omega)), ee2]; omega)) (by decide) (by decide)) ?_
                show own_Ends _ _ _ _ (T2.setTop (mkF m 253 #[.val (.ref r0), .val (.int x1), .val (.int x2), .val (.int j), .val (.int a), .val (.int (4 : Int32)), .val (.int (144 : Int32)), .val (.int (191 : Int32)), .val (.int b), .val (.int (((j + (2 : Int32)) + (1 : Int32)) + (1 : Int32)))] []))
                refine own_st (fun t_ => XS.iloadN (own_here Y3) hx rfl (hb hby own_d2_253) rfl) ?_
                show own_Ends _ _ _ _ (T2.setTop (mkF m 254 #[.val (.ref r0), .val (.int x1), .val (.int x2), .val (.int j), .val (.int a), .val (.int (4 : Int32)), .val (.int (144 : Int32)), .val (.int (191 : Int32)), .val (.int b), .val (.int (((j + (2 : Int32)) + (1 : Int32)) + (1 : Int32)))] [(.int j)]))
                refine own_st (fun t_ => XS.iload (own_here Y3) hx rfl (hb hby own_d2_254) rfl) ?_
                show own_Ends _ _ _ _ (T2.setTop (mkF m 256 #[.val (.ref r0), .val (.int x1), .val (.int x2), .val (.int j), .val (.int a), .val (.int (4 : Int32)), .val (.int (144 : Int32)), .val (.int (191 : Int32)), .val (.int b), .val (.int (((j + (2 : Int32)) + (1 : Int32)) + (1 : Int32)))] [(.int (4 : Int32)), (.int j)]))
                refine own_st (fun t_ => XS.iadd (own_here Y3) hx rfl (hb hby own_d2_256) rfl) ?_
                show own_Ends _ _ _ _ (T2.setTop (mkF m 257 #[.val (.ref r0), .val (.int x1), .val (.int x2), .val (.int j), .val (.int a), .val (.int (4 : Int32)), .val (.int (144 : Int32)), .val (.int (191 : Int32)), .val (.int b), .val (.int (((j + (2 : Int32)) + (1 : Int32)) + (1 : Int32)))] [(.int (j + (4 : Int32)))]))
                refine own_st (fun t_ => XS.istoreN (own_here Y3) hx rfl (hb hby own_d2_257) rfl (l' := #[.val (.ref r0), .val (.int x1), .val (.int x2), .val (.int (j + (4 : Int32))), .val (.int a), .val (.int (4 : Int32)), .val (.int (144 : Int32)), .val (.int (191 : Int32)), .val (.int b), .val (.int (((j + (2 : Int32)) + (1 : Int32)) + (1 : Int32)))]) rfl) ?_
                show own_Ends _ _ _ _ (T2.setTop (mkF m 258 #[.val (.ref r0), .val (.int x1), .val (.int x2), .val (.int (j + (4 : Int32))), .val (.int a), .val (.int (4 : Int32)), .val (.int (144 : Int32)), .val (.int (191 : Int32)), .val (.int b), .val (.int (((j + (2 : Int32)) + (1 : Int32)) + (1 : Int32)))] []))
                refine own_st (fun t_ => XS.goto (own_here Y3) hx rfl (pc0 := 258) (pc' := 2) rfl (hb hby own_d2_258) (by decide) (by decide)) ?_
                show own_Ends _ _ _ _ (T2.setTop (mkF m 2 #[.val (.ref r0), .val (.int x1), .val (.int x2), .val (.int (j + (4 : Int32))), .val (.int a), .val (.int (4 : Int32)), .val (.int (144 : Int32)), .val (.int (191 : Int32)), .val (.int b), .val (.int (((j + (2 : Int32)) + (1 : Int32)) + (1 : Int32)))] []))
                have g2 := (own_cont (hB (i + 2))).mp c242_14; have g2' : 128 ≤ own_u xs (i + 2) ∧ own_u xs (i + 2) ≤ 191 := g2
                have g3 := (own_cont (hB (i + 3))).mp c242_15; have g3' : 128 ≤ own_u xs (i + 3) ∧ own_u xs (i + 3) ≤ 191 := g3
                have c21_5t := c21_5; simp only [own_lt] at c21_5t
                have c45_6t := c45_6; simp only [own_lt] at c45_6t
                have c53_7t := c53_7; simp only [own_lt] at c53_7t
                have c75_8t := c75_8; simp only [own_lt] at c75_8t
                have c133_9t := c133_9; simp only [own_lt] at c133_9t
                have c144_10t := c144_10; simp only [own_eq] at c144_10t
                have c205_12t := c205_12; simp only [own_lt] at c205_12t
                have c212_13t := c212_13; simp only [own_lt] at c212_13t
                have ra := own_u_rng xs i; rw [ua] at ra
                have f1 : (own_A1 (own_u xs i)) = false := by simp only [own_A1, ua, decide_eq_false_iff_not]; omega
                have f2 : (decide (i + 2 ≤ t) && own_A2 (own_u xs i) (own_u xs (i + 1))) = false := by simp only [own_A2, ua, u1, Bool.and_eq_false_iff, decide_eq_false_iff_not]; omega
                have f3 : (decide (i + 3 ≤ t) && own_A3 (own_u xs i) (own_u xs (i + 1)) (own_u xs (i + 2))) = false := by simp only [own_A3, ua, u1, Bool.and_eq_false_iff, decide_eq_false_iff_not]; omega
                have f4 : (decide (i + 4 ≤ t) && own_A4 (own_u xs i) (own_u xs (i + 1)) (own_u xs (i + 2)) (own_u xs (i + 3))) = true := by simp only [own_A4, ua, u1, Bool.and_eq_true, decide_eq_true_eq]; omega
                have hR2 : own_V (own_u xs) t (k - 1) (i + 4) = R := by
                  rw [← hR]; obtain ⟨k', rfl⟩ : ∃ k', k = k' + 1 := ⟨k - 1, by omega⟩
                  have hti : decide (t ≤ i) = false := by simp only [decide_eq_false_iff_not]; omega
                  simp only [own_V, Nat.add_sub_cancel, hti, f1, f2, f3, f4, Bool.false_and, Bool.true_and, Bool.or_false, Bool.false_or]
                exact ih (k - 1) (by omega) T2  (i + 4) ((j + (4 : Int32))) (.val (.int a)) (.val (.int (4 : Int32))) (.val (.int (144 : Int32))) (.val (.int (191 : Int32))) (.val (.int b)) (.val (.int (((j + (2 : Int32)) + (1 : Int32)) + (1 : Int32)))) Y3  (own_add hj own_l4 (by omega)) (by omega) (by omega) hR2 (One.val rfl) (One.val rfl) (One.val rfl) (One.val rfl) (One.val rfl) (One.val rfl)
               ·
                refine own_st (fun t_ => XS.icmpNo (own_here Y3) hx rfl (hb hby own_d2_242) rfl (XT.ii_eq_f c242_15)) ?_
                show own_Ends _ _ _ _ (T2.setTop (mkF m 245 #[.val (.ref r0), .val (.int x1), .val (.int x2), .val (.int j), .val (.int a), .val (.int (4 : Int32)), .val (.int (144 : Int32)), .val (.int (191 : Int32)), .val (.int b), .val (.int ((j + (2 : Int32)) + (1 : Int32)))] []))
                refine own_st (fun t_ => XS.iconst (own_here Y3) hx rfl (hb hby own_d2_245) ) ?_
                show own_Ends _ _ _ _ (T2.setTop (mkF m 246 #[.val (.ref r0), .val (.int x1), .val (.int x2), .val (.int j), .val (.int a), .val (.int (4 : Int32)), .val (.int (144 : Int32)), .val (.int (191 : Int32)), .val (.int b), .val (.int ((j + (2 : Int32)) + (1 : Int32)))] [(.int (0 : Int32))]))
                have hc := mt (own_cont (hB (i + 3))).mpr c242_15; have hc' : ¬ (128 ≤ own_u xs (i + 3) ∧ own_u xs (i + 3) ≤ 191) := hc
                have g2 := (own_cont (hB (i + 2))).mp c242_14; have g2' : 128 ≤ own_u xs (i + 2) ∧ own_u xs (i + 2) ≤ 191 := g2
                have c21_5t := c21_5; simp only [own_lt] at c21_5t
                have c45_6t := c45_6; simp only [own_lt] at c45_6t
                have c53_7t := c53_7; simp only [own_lt] at c53_7t
                have c75_8t := c75_8; simp only [own_lt] at c75_8t
                have c133_9t := c133_9; simp only [own_lt] at c133_9t
                have c144_10t := c144_10; simp only [own_eq] at c144_10t
                have c205_12t := c205_12; simp only [own_lt] at c205_12t
                have c212_13t := c212_13; simp only [own_lt] at c212_13t
                have ra := own_u_rng xs i; rw [ua] at ra
                have f1 : (own_A1 (own_u xs i)) = false := by simp only [own_A1, ua, decide_eq_false_iff_not]; omega
                have f2 : (decide (i + 2 ≤ t) && own_A2 (own_u xs i) (own_u xs (i + 1))) = false := by simp only [own_A2, ua, u1, Bool.and_eq_false_iff, decide_eq_false_iff_not]; omega
                have f3 : (decide (i + 3 ≤ t) && own_A3 (own_u xs i) (own_u xs (i + 1)) (own_u xs (i + 2))) = false := by simp only [own_A3, ua, u1, Bool.and_eq_false_iff, decide_eq_false_iff_not]; omega
                have f4 : (decide (i + 4 ≤ t) && own_A4 (own_u xs i) (own_u xs (i + 1)) (own_u xs (i + 2)) (own_u xs (i + 3))) = false := by simp only [own_A4, ua, u1, Bool.and_eq_false_iff, decide_eq_false_iff_not]; omega
                refine own_retN Y3 hx hlk (t := .boolean) hret (by simp) (hb hby own_d2_246) (by decide) (by decide) ?_
                refine ⟨?_, rfl⟩
                have : own_V (own_u xs) t (t - f) f = false := by
                  rw [hR0, ← hR]; obtain ⟨k', rfl⟩ : ∃ k', k = k' + 1 := ⟨k - 1, by omega⟩
                  have hti : decide (t ≤ i) = false := by simp only [decide_eq_false_iff_not]; omega
                  simp only [own_V, hti, f1, f2, f3, f4, Bool.false_and, Bool.or_false, Bool.false_or]
                rw [this]; rfl
              ·
               refine own_st (fun t_ => XS.icmpNo (own_here Y3) hx rfl (hb hby own_d2_242) rfl (XT.ii_eq_f c242_14)) ?_
               show own_Ends _ _ _ _ (T2.setTop (mkF m 245 #[.val (.ref r0), .val (.int x1), .val (.int x2), .val (.int j), .val (.int a), .val (.int (4 : Int32)), .val (.int (144 : Int32)), .val (.int (191 : Int32)), .val (.int b), .val (.int (j + (2 : Int32)))] []))
               refine own_st (fun t_ => XS.iconst (own_here Y3) hx rfl (hb hby own_d2_245) ) ?_
               show own_Ends _ _ _ _ (T2.setTop (mkF m 246 #[.val (.ref r0), .val (.int x1), .val (.int x2), .val (.int j), .val (.int a), .val (.int (4 : Int32)), .val (.int (144 : Int32)), .val (.int (191 : Int32)), .val (.int b), .val (.int (j + (2 : Int32)))] [(.int (0 : Int32))]))
               have hc := mt (own_cont (hB (i + 2))).mpr c242_14; have hc' : ¬ (128 ≤ own_u xs (i + 2) ∧ own_u xs (i + 2) ≤ 191) := hc
               have c21_5t := c21_5; simp only [own_lt] at c21_5t
               have c45_6t := c45_6; simp only [own_lt] at c45_6t
               have c53_7t := c53_7; simp only [own_lt] at c53_7t
               have c75_8t := c75_8; simp only [own_lt] at c75_8t
               have c133_9t := c133_9; simp only [own_lt] at c133_9t
               have c144_10t := c144_10; simp only [own_eq] at c144_10t
               have c205_12t := c205_12; simp only [own_lt] at c205_12t
               have c212_13t := c212_13; simp only [own_lt] at c212_13t
               have ra := own_u_rng xs i; rw [ua] at ra
               have f1 : (own_A1 (own_u xs i)) = false := by simp only [own_A1, ua, decide_eq_false_iff_not]; omega
               have f2 : (decide (i + 2 ≤ t) && own_A2 (own_u xs i) (own_u xs (i + 1))) = false := by simp only [own_A2, ua, u1, Bool.and_eq_false_iff, decide_eq_false_iff_not]; omega
               have f3 : (decide (i + 3 ≤ t) && own_A3 (own_u xs i) (own_u xs (i + 1)) (own_u xs (i + 2))) = false := by simp only [own_A3, ua, u1, Bool.and_eq_false_iff, decide_eq_false_iff_not]; omega
               have f4 : (decide (i + 4 ≤ t) && own_A4 (own_u xs i) (own_u xs (i + 1)) (own_u xs (i + 2)) (own_u xs (i + 3))) = false := by simp only [own_A4, ua, u1, Bool.and_eq_false_iff, decide_eq_false_iff_not]; omega
               refine own_retN Y3 hx hlk (t := .boolean) hret (by simp) (hb hby own_d2_246) (by decide) (by decide) ?_
               refine ⟨?_, rfl⟩
               have : own_V (own_u xs) t (t - f) f = false := by
                 rw [hR0, ← hR]; obtain ⟨k', rfl⟩ : ∃ k', k = k' + 1 := ⟨k - 1, by omega⟩
                 have hti : decide (t ≤ i) = false := by simp only [decide_eq_false_iff_not]; omega
                 simp only [own_V, hti, f1, f2, f3, f4, Bool.false_and, Bool.or_false, Bool.false_or]
               rw [this]; rfl
          ·
           refine own_st (fun t_ => XS.icmpYes (own_here Y3) hx rfl (pc0 := 144) (pc' := 153) rfl (hb hby own_d2_144) rfl (XT.ii_ne_t c144_10) (by decide) (by decide)) ?_
           show own_Ends _ _ _ _ (T2.setTop (mkF m 153 #[.val (.ref r0), .val (.int x1), .val (.int x2), .val (.int j), .val (.int a), .val (.int (4 : Int32)), .val (.int (128 : Int32)), .val (.int (191 : Int32)), s8, s9] []))
           refine own_st (fun t_ => XS.iload (own_here Y3) hx rfl (hb hby own_d2_153) rfl) ?_
           show own_Ends _ _ _ _ (T2.setTop (mkF m 155 #[.val (.ref r0), .val (.int x1), .val (.int x2), .val (.int j), .val (.int a), .val (.int (4 : Int32)), .val (.int (128 : Int32)), .val (.int (191 : Int32)), s8, s9] [(.int (128 : Int32))]))
           refine own_st (fun t_ => XS.istore (own_here Y3) hx rfl (hb hby own_d2_155) rfl (l' := #[.val (.ref r0), .val (.int x1), .val (.int x2), .val (.int j), .val (.int a), .val (.int (4 : Int32)), .val (.int (128 : Int32)), .val (.int (191 : Int32)), s8, s9]) rfl) ?_
           show own_Ends _ _ _ _ (T2.setTop (mkF m 157 #[.val (.ref r0), .val (.int x1), .val (.int x2), .val (.int j), .val (.int a), .val (.int (4 : Int32)), .val (.int (128 : Int32)), .val (.int (191 : Int32)), s8, s9] []))
           refine own_st (fun t_ => XS.iload (own_here Y3) hx rfl (hb hby own_d2_157) rfl) ?_
           show own_Ends _ _ _ _ (T2.setTop (mkF m 159 #[.val (.ref r0), .val (.int x1), .val (.int x2), .val (.int j), .val (.int a), .val (.int (4 : Int32)), .val (.int (128 : Int32)), .val (.int (191 : Int32)), s8, s9] [(.int a)]))
           refine own_st (fun t_ => XS.sipush (own_here Y3) hx rfl (hb hby own_d2_159) ) ?_
           show own_Ends _ _ _ _ (T2.setTop (mkF m 162 #[.val (.ref r0), .val (.int x1), .val (.int x2), .val (.int j), .val (.int a), .val (.int (4 : Int32)), .val (.int (128 : Int32)), .val (.int (191 : Int32)), s8, s9] [(.int (244 : Int32)), (.int a)]))
           by_cases c162_16 : a = (244 : Int32)
           ·
            refine own_st (fun t_ => XS.icmpNo (own_here Y3) hx rfl (hb hby own_d2_162) rfl (XT.ii_ne_f c162_16)) ?_
            show own_Ends _ _ _ _ (T2.setTop (mkF m 165 #[.val (.ref r0), .val (.int x1), .val (.int x2), .val (.int j), .val (.int a), .val (.int (4 : Int32)), .val (.int (128 : Int32)), .val (.int (191 : Int32)), s8, s9] []))
            refine own_st (fun t_ => XS.sipush (own_here Y3) hx rfl (hb hby own_d2_165) ) ?_
            show own_Ends _ _ _ _ (T2.setTop (mkF m 168 #[.val (.ref r0), .val (.int x1), .val (.int x2), .val (.int j), .val (.int a), .val (.int (4 : Int32)), .val (.int (128 : Int32)), .val (.int (191 : Int32)), s8, s9] [(.int (143 : Int32))]))
            refine own_st (fun t_ => XS.goto (own_here Y3) hx rfl (pc0 := 168) (pc' := 173) rfl (hb hby own_d2_168) (by decide) (by decide)) ?_
            show own_Ends _ _ _ _ (T2.setTop (mkF m 173 #[.val (.ref r0), .val (.int x1), .val (.int x2), .val (.int j), .val (.int a), .val (.int (4 : Int32)), .val (.int (128 : Int32)), .val (.int (191 : Int32)), s8, s9] [(.int (143 : Int32))]))
            refine own_st (fun t_ => XS.istore (own_here Y3) hx rfl (hb hby own_d2_173) rfl (l' := #[.val (.ref r0), .val (.int x1), .val (.int x2), .val (.int j), .val (.int a), .val (.int (4 : Int32)), .val (.int (128 : Int32)), .val (.int (143 : Int32)), s8, s9]) rfl) ?_
            show own_Ends _ _ _ _ (T2.setTop (mkF m 175 #[.val (.ref r0), .val (.int x1), .val (.int x2), .val (.int j), .val (.int a), .val (.int (4 : Int32)), .val (.int (128 : Int32)), .val (.int (143 : Int32)), s8, s9] []))
            refine own_st (fun t_ => XS.goto (own_here Y3) hx rfl (pc0 := 175) (pc' := 180) rfl (hb hby own_d2_175) (by decide) (by decide)) ?_
            show own_Ends _ _ _ _ (T2.setTop (mkF m 180 #[.val (.ref r0), .val (.int x1), .val (.int x2), .val (.int j), .val (.int a), .val (.int (4 : Int32)), .val (.int (128 : Int32)), .val (.int (143 : Int32)), s8, s9] []))
            refine own_st (fun t_ => XS.iloadN (own_here Y3) hx rfl (hb hby own_d2_180) rfl) ?_
            show own_Ends _ _ _ _ (T2.setTop (mkF m 181 #[.val (.ref r0), .val (.int x1), .val (.int x2), .val (.int j), .val (.int a), .val (.int (4 : Int32)), .val (.int (128 : Int32)), .val (.int (143 : Int32)), s8, s9] [(.int x2)]))
            refine own_st (fun t_ => XS.iloadN (own_here Y3) hx rfl (hb hby own_d2_181) rfl) ?_
            show own_Ends _ _ _ _ (T2.setTop (mkF m 182 #[.val (.ref r0), .val (.int x1), .val (.int x2), .val (.int j), .val (.int a), .val (.int (4 : Int32)), .val (.int (128 : Int32)), .val (.int (143 : Int32)), s8, s9] [(.int j), (.int x2)]))
            refine own_st (fun t_ => XS.isub (own_here Y3) hx rfl (hb hby own_d2_182) rfl) ?_
            show own_Ends _ _ _ _ (T2.setTop (mkF m 183 #[.val (.ref r0), .val (.int x1), .val (.int x2), .val (.int j), .val (.int a), .val (.int (4 : Int32)), .val (.int (128 : Int32)), .val (.int (143 : Int32)), s8, s9] [(.int (x2 - j))]))
            refine own_st (fun t_ => XS.iload (own_here Y3) hx rfl (hb hby own_d2_183) rfl) ?_
            show own_Ends _ _ _ _ (T2.setTop (mkF m 185 #[.val (.ref r0), .val (.int x1), .val (.int x2), .val (.int j), .val (.int a), .val (.int (4 : Int32)), .val (.int (128 : Int32)), .val (.int (143 : Int32)), s8, s9] [(.int (4 : Int32)), (.int (x2 - j))]))
            by_cases c185_17 : (x2 - j) < (4 : Int32)
            ·
             refine own_st (fun t_ => XS.icmpNo (own_here Y3) hx rfl (hb hby own_d2_185) rfl (XT.ii_ge_f c185_17)) ?_
             show own_Ends _ _ _ _ (T2.setTop (mkF m 188 #[.val (.ref r0), .val (.int x1), .val (.int x2), .val (.int j), .val (.int a), .val (.int (4 : Int32)), .val (.int (128 : Int32)), .val (.int (143 : Int32)), s8, s9] []))
             refine own_st (fun t_ => XS.iconst (own_here Y3) hx rfl (hb hby own_d2_188) ) ?_
             show own_Ends _ _ _ _ (T2.setTop (mkF m 189 #[.val (.ref r0), .val (.int x1), .val (.int x2), .val (.int j), .val (.int a), .val (.int (4 : Int32)), .val (.int (128 : Int32)), .val (.int (143 : Int32)), s8, s9] [(.int (0 : Int32))]))
             have hroom : ¬ i + 4 ≤ t := by have := c185_17; rw [own_lt, own_sub ht hj] at this; have e : (4 : Int32).toInt = 4 := rfl; omega
             have c21_5t := c21_5; simp only [own_lt] at c21_5t
             have c45_6t := c45_6; simp only [own_lt] at c45_6t
             have c53_7t := c53_7; simp only [own_lt] at c53_7t
             have c75_8t := c75_8; simp only [own_lt] at c75_8t
             have c133_9t := c133_9; simp only [own_lt] at c133_9t
             have c144_10t := c144_10; simp only [own_eq] at c144_10t
             have c162_16t := c162_16; simp only [own_eq] at c162_16t
             have ra := own_u_rng xs i; rw [ua] at ra
             have f1 : (own_A1 (own_u xs i)) = false := by simp only [own_A1, ua, decide_eq_false_iff_not]; omega
             have f2 : (decide (i + 2 ≤ t) && own_A2 (own_u xs i) (own_u xs (i + 1))) = false := by simp only [own_A2, ua, Bool.and_eq_false_iff, decide_eq_false_iff_not]; omega
             have f3 : (decide (i + 3 ≤ t) && own_A3 (own_u xs i) (own_u xs (i + 1)) (own_u xs (i + 2))) = false := by simp only [own_A3, ua, Bool.and_eq_false_iff, decide_eq_false_iff_not]; omega
             have f4 : (decide (i + 4 ≤ t) && own_A4 (own_u xs i) (own_u xs (i + 1)) (own_u xs (i + 2)) (own_u xs (i + 3))) = false := by simp only [own_A4, ua, Bool.and_eq_false_iff, decide_eq_false_iff_not]; omega
             refine own_retN Y3 hx hlk (t := .boolean) hret (by simp) (hb hby own_d2_189) (by decide) (by decide) ?_
             refine ⟨?_, rfl⟩
             have : own_V (own_u xs) t (t - f) f = false := by
               rw [hR0, ← hR]; obtain ⟨k', rfl⟩ : ∃ k', k = k' + 1 := ⟨k - 1, by omega⟩
               have hti : decide (t ≤ i) = false := by simp only [decide_eq_false_iff_not]; omega
               simp only [own_V, hti, f1, f2, f3, f4, Bool.false_and, Bool.or_false, Bool.false_or]
             rw [this]; rfl
            ·
             refine own_st (fun t_ => XS.icmpYes (own_here Y3) hx rfl (pc0 := 185) (pc' := 190) rfl (hb hby own_d2_185) rfl (XT.ii_ge_t c185_17) (by decide) (by decide)) ?_
             show own_Ends _ _ _ _ (T2.setTop (mkF m 190 #[.val (.ref r0), .val (.int x1), .val (.int x2), .val (.int j), .val (.int a), .val (.int (4 : Int32)), .val (.int (128 : Int32)), .val (.int (143 : Int32)), s8, s9] []))
             have hroom : i + 4 ≤ t := by have := c185_17; rw [own_lt, own_sub ht hj] at this; have e : (4 : Int32).toInt = 4 := rfl; omega
             have n1 := own_add hj own_l1 (by omega)
             obtain ⟨n10, n11⟩ := own_nat n1
             have n2 := own_add hj own_l2 (by omega)
             obtain ⟨n20, n21⟩ := own_nat n2
             have n3 := own_add n2 own_l1 (by omega)
             obtain ⟨n30, n31⟩ := own_nat n3
             refine own_st (fun t_ => XS.aloadN (own_here Y3) hx rfl (hb hby own_d2_190) rfl rfl) ?_
             show own_Ends _ _ _ _ (T2.setTop (mkF m 191 #[.val (.ref r0), .val (.int x1), .val (.int x2), .val (.int j), .val (.int a), .val (.int (4 : Int32)), .val (.int (128 : Int32)), .val (.int (143 : Int32)), s8, s9] [(.ref r0)]))
             refine own_st (fun t_ => XS.iloadN (own_here Y3) hx rfl (hb hby own_d2_191) rfl) ?_
             show own_Ends _ _ _ _ (T2.setTop (mkF m 192 #[.val (.ref r0), .val (.int x1), .val (.int x2), .val (.int j), .val (.int a), .val (.int (4 : Int32)), .val (.int (128 : Int32)), .val (.int (143 : Int32)), s8, s9] [(.int j), (.ref r0)]))
             refine own_st (fun t_ => XS.iconst (own_here Y3) hx rfl (hb hby own_d2_192) ) ?_
             show own_Ends _ _ _ _ (T2.setTop (mkF m 193 #[.val (.ref r0), .val (.int x1), .val (.int x2), .val (.int j), .val (.int a), .val (.int (4 : Int32)), .val (.int (128 : Int32)), .val (.int (143 : Int32)), s8, s9] [(.int (1 : Int32)), (.int j), (.ref r0)]))
             refine own_st (fun t_ => XS.iadd (own_here Y3) hx rfl (hb hby own_d2_193) rfl) ?_
             show own_Ends _ _ _ _ (T2.setTop (mkF m 194 #[.val (.ref r0), .val (.int x1), .val (.int x2), .val (.int j), .val (.int a), .val (.int (4 : Int32)), .val (.int (128 : Int32)), .val (.int (143 : Int32)), s8, s9] [(.int (j + (1 : Int32))), (.ref r0)]))
             refine own_ldB Y3 hx hZ A (i := (i + 1)) n10 n11 (own_mlen (by omega)) (v := (.int (own_g xs (i + 1)))) (own_mget (own_mlen (by omega))) rfl rfl (hb hby own_d2_194) ?_
             show own_Ends _ _ _ _ (T2.setTop (mkF m 195 #[.val (.ref r0), .val (.int x1), .val (.int x2), .val (.int j), .val (.int a), .val (.int (4 : Int32)), .val (.int (128 : Int32)), .val (.int (143 : Int32)), s8, s9] [(.int (own_g xs (i + 1)))]))
             refine own_st (fun t_ => XS.sipush (own_here Y3) hx rfl (hb hby own_d2_195) ) ?_
             show own_Ends _ _ _ _ (T2.setTop (mkF m 198 #[.val (.ref r0), .val (.int x1), .val (.int x2), .val (.int j), .val (.int a), .val (.int (4 : Int32)), .val (.int (128 : Int32)), .val (.int (143 : Int32)), s8, s9] [(.int (255 : Int32)), (.int (own_g xs (i + 1)))]))
             refine own_st (fun t_ => XS.iand (own_here Y3) hx rfl (hb hby own_d2_198) rfl) ?_
             show own_Ends _ _ _ _ (T2.setTop (mkF m 199 #[.val (.ref r0), .val (.int x1), .val (.int x2), .val (.int j), .val (.int a), .val (.int (4 : Int32)), .val (.int (128 : Int32)), .val (.int (143 : Int32)), s8, s9] [(.int ((own_g xs (i + 1)) &&& (255 : Int32)))]))
             refine own_st (fun t_ => XS.istoreS (own_here Y3) hx rfl (hb hby own_d2_199) rfl rfl hs8) ?_
             show own_Ends _ _ _ _ (T2.setTop (mkF m 201 #[.val (.ref r0), .val (.int x1), .val (.int x2), .val (.int j), .val (.int a), .val (.int (4 : Int32)), .val (.int (128 : Int32)), .val (.int (143 : Int32)), .val (.int ((own_g xs (i + 1)) &&& (255 : Int32))), s9] []))
             generalize hb_ : ((own_g xs (i + 1)) &&& (255 : Int32)) = b
             have u1 : own_u xs (i + 1) = b.toInt := by rw [own_u, hb_]
             refine own_st (fun t_ => XS.iload (own_here Y3) hx rfl (hb hby own_d2_201) rfl) ?_
             show own_Ends _ _ _ _ (T2.setTop (mkF m 203 #[.val (.ref r0), .val (.int x1), .val (.int x2), .val (.int j), .val (.int a), .val (.int (4 : Int32)), .val (.int (128 : Int32)), .val (.int (143 : Int32)), .val (.int b), s9] [(.int b)]))
             refine own_st (fun t_ => XS.iload (own_here Y3) hx rfl (hb hby own_d2_203) rfl) ?_
             show own_Ends _ _ _ _ (T2.setTop (mkF m 205 #[.val (.ref r0), .val (.int x1), .val (.int x2), .val (.int j), .val (.int a), .val (.int (4 : Int32)), .val (.int (128 : Int32)), .val (.int (143 : Int32)), .val (.int b), s9] [(.int (128 : Int32)), (.int b)]))
             by_cases c205_18 : b < (128 : Int32)
             ·
              refine own_st (fun t_ => XS.icmpYes (own_here Y3) hx rfl (pc0 := 205) (pc' := 215) rfl (hb hby own_d2_205) rfl (XT.ii_lt_t c205_18) (by decide) (by decide)) ?_
              show own_Ends _ _ _ _ (T2.setTop (mkF m 215 #[.val (.ref r0), .val (.int x1), .val (.int x2), .val (.int j), .val (.int a), .val (.int (4 : Int32)), .val (.int (128 : Int32)), .val (.int (143 : Int32)), .val (.int b), s9] []))
              refine own_st (fun t_ => XS.iconst (own_here Y3) hx rfl (hb hby own_d2_215) ) ?_
              show own_Ends _ _ _ _ (T2.setTop (mkF m 216 #[.val (.ref r0), .val (.int x1), .val (.int x2), .val (.int j), .val (.int a), .val (.int (4 : Int32)), .val (.int (128 : Int32)), .val (.int (143 : Int32)), .val (.int b), s9] [(.int (0 : Int32))]))
              have c21_5t := c21_5; simp only [own_lt] at c21_5t
              have c45_6t := c45_6; simp only [own_lt] at c45_6t
              have c53_7t := c53_7; simp only [own_lt] at c53_7t
              have c75_8t := c75_8; simp only [own_lt] at c75_8t
              have c133_9t := c133_9; simp only [own_lt] at c133_9t
              have c144_10t := c144_10; simp only [own_eq] at c144_10t
              have c162_16t := c162_16; simp only [own_eq] at c162_16t
              have c205_18t := c205_18; simp only [own_lt] at c205_18t
              have ra := own_u_rng xs i; rw [ua] at ra
              have f1 : (own_A1 (own_u xs i)) = false := by simp only [own_A1, ua, decide_eq_false_iff_not]; omega
              have f2 : (decide (i + 2 ≤ t) && own_A2 (own_u xs i) (own_u xs (i + 1))) = false := by simp only [own_A2, ua, u1, Bool.and_eq_false_iff, decide_eq_false_iff_not]; omega
              have f3 : (decide (i + 3 ≤ t) && own_A3 (own_u xs i) (own_u xs (i + 1)) (own_u xs (i + 2))) = false := by simp only [own_A3, ua, u1, Bool.and_eq_false_iff, decide_eq_false_iff_not]; omega
              have f4 : (decide (i + 4 ≤ t) && own_A4 (own_u xs i) (own_u xs (i + 1)) (own_u xs (i + 2)) (own_u xs (i + 3))) = false := by simp only [own_A4, ua, u1, Bool.and_eq_false_iff, decide_eq_false_iff_not]; omega
              refine own_retN Y3 hx hlk (t := .boolean) hret (by simp) (hb hby own_d2_216) (by decide) (by decide) ?_
              refine ⟨?_, rfl⟩
              have : own_V (own_u xs) t (t - f) f = false := by
                rw [hR0, ← hR]; obtain ⟨k', rfl⟩ : ∃ k', k = k' + 1 := ⟨k - 1, by omega⟩
                have hti : decide (t ≤ i) = false := by simp only [decide_eq_false_iff_not]; omega
                simp only [own_V, hti, f1, f2, f3, f4, Bool.false_and, Bool.or_false, Bool.false_or]
              rw [this]; rfl
             ·
              refine own_st (fun t_ => XS.icmpNo (own_here Y3) hx rfl (hb hby own_d2_205) rfl (XT.ii_lt_f c205_18)) ?_
              show own_Ends _ _ _ _ (T2.setTop (mkF m 208 #[.val (.ref r0), .val (.int x1), .val (.int x2), .val (.int j), .val (.int a), .val (.int (4 : Int32)), .val (.int (128 : Int32)), .val (.int (143 : Int32)), .val (.int b), s9] []))
              refine own_st (fun t_ => XS.iload (own_here Y3) hx rfl (hb hby own_d2_208) rfl) ?_
              show own_Ends _ _ _ _ (T2.setTop (mkF m 210 #[.val (.ref r0), .val (.int x1), .val (.int x2), .val (.int j), .val (.int a), .val (.int (4 : Int32)), .val (.int (128 : Int32)), .val (.int (143 : Int32)), .val (.int b), s9] [(.int b)]))
              refine own_st (fun t_ => XS.iload (own_here Y3) hx rfl (hb hby own_d2_210) rfl) ?_
              show own_Ends _ _ _ _ (T2.setTop (mkF m 212 #[.val (.ref r0), .val (.int x1), .val (.int x2), .val (.int j), .val (.int a), .val (.int (4 : Int32)), .val (.int (128 : Int32)), .val (.int (143 : Int32)), .val (.int b), s9] [(.int (143 : Int32)), (.int b)]))
              by_cases c212_19 : (143 : Int32) < b
              ·
               refine own_st (fun t_ => XS.icmpNo (own_here Y3) hx rfl (hb hby own_d2_212) rfl (XT.ii_le_f c212_19)) ?_
               show own_Ends _ _ _ _ (T2.setTop (mkF m 215 #[.val (.ref r0), .val (.int x1), .val (.int x2), .val (.int j), .val (.int a), .val (.int (4 : Int32)), .val (.int (128 : Int32)), .val (.int (143 : Int32)), .val (.int b), s9] []))
               refine own_st (fun t_ => XS.iconst (own_here Y3) hx rfl (hb hby own_d2_215) ) ?_
               show own_Ends _ _ _ _ (T2.setTop (mkF m 216 #[.val (.ref r0), .val (.int x1), .val (.int x2), .val (.int j), .val (.int a), .val (.int (4 : Int32)), .val (.int (128 : Int32)), .val (.int (143 : Int32)), .val (.int b), s9] [(.int (0 : Int32))]))
               have c21_5t := c21_5; simp only [own_lt] at c21_5t
               have c45_6t := c45_6; simp only [own_lt] at c45_6t
               have c53_7t := c53_7; simp only [own_lt] at c53_7t
               have c75_8t := c75_8; simp only [own_lt] at c75_8t
               have c133_9t := c133_9; simp only [own_lt] at c133_9t
               have c144_10t := c144_10; simp only [own_eq] at c144_10t
               have c162_16t := c162_16; simp only [own_eq] at c162_16t
               have c205_18t := c205_18; simp only [own_lt] at c205_18t
               have c212_19t := c212_19; simp only [own_lt] at c212_19t
               have ra := own_u_rng xs i; rw [ua] at ra
               have f1 : (own_A1 (own_u xs i)) = false := by simp only [own_A1, ua, decide_eq_false_iff_not]; omega
               have f2 : (decide (i + 2 ≤ t) && own_A2 (own_u xs i) (own_u xs (i + 1))) = false := by simp only [own_A2, ua, u1, Bool.and_eq_false_iff, decide_eq_false_iff_not]; omega
               have f3 : (decide (i + 3 ≤ t) && own_A3 (own_u xs i) (own_u xs (i + 1)) (own_u xs (i + 2))) = false := by simp only [own_A3, ua, u1, Bool.and_eq_false_iff, decide_eq_false_iff_not]; omega
               have f4 : (decide (i + 4 ≤ t) && own_A4 (own_u xs i) (own_u xs (i + 1)) (own_u xs (i + 2)) (own_u xs (i + 3))) = false := by simp only [own_A4, ua, u1, Bool.and_eq_false_iff, decide_eq_false_iff_not]; omega
               refine own_retN Y3 hx hlk (t := .boolean) hret (by simp) (hb hby own_d2_216) (by decide) (by decide) ?_
               refine ⟨?_, rfl⟩
               have : own_V (own_u xs) t (t - f) f = false := by
                 rw [hR0, ← hR]; obtain ⟨k', rfl⟩ : ∃ k', k = k' + 1 := ⟨k - 1, by omega⟩
                 have hti : decide (t ≤ i) = false := by simp only [decide_eq_false_iff_not]; omega
                 simp only [own_V, hti, f1, f2, f3, f4, Bool.false_and, Bool.or_false, Bool.false_or]
               rw [this]; rfl
              ·
               refine own_st (fun t_ => XS.icmpYes (own_here Y3) hx rfl (pc0 := 212) (pc' := 217) rfl (hb hby own_d2_212) rfl (XT.ii_le_t c212_19) (by decide) (by decide)) ?_
               show own_Ends _ _ _ _ (T2.setTop (mkF m 217 #[.val (.ref r0), .val (.int x1), .val (.int x2), .val (.int j), .val (.int a), .val (.int (4 : Int32)), .val (.int (128 : Int32)), .val (.int (143 : Int32)), .val (.int b), s9] []))
               refine own_st (fun t_ => XS.iloadN (own_here Y3) hx rfl (hb hby own_d2_217) rfl) ?_
               show own_Ends _ _ _ _ (T2.setTop (mkF m 218 #[.val (.ref r0), .val (.int x1), .val (.int x2), .val (.int j), .val (.int a), .val (.int (4 : Int32)), .val (.int (128 : Int32)), .val (.int (143 : Int32)), .val (.int b), s9] [(.int j)]))
               refine own_st (fun t_ => XS.iconst (own_here Y3) hx rfl (hb hby own_d2_218) ) ?_
               show own_Ends _ _ _ _ (T2.setTop (mkF m 219 #[.val (.ref r0), .val (.int x1), .val (.int x2), .val (.int j), .val (.int a), .val (.int (4 : Int32)), .val (.int (128 : Int32)), .val (.int (143 : Int32)), .val (.int b), s9] [(.int (2 : Int32)), (.int j)]))
               refine own_st (fun t_ => XS.iadd (own_here Y3) hx rfl (hb hby own_d2_219) rfl) ?_
               show own_Ends _ _ _ _ (T2.setTop (mkF m 220 #[.val (.ref r0), .val (.int x1), .val (.int x2), .val (.int j), .val (.int a), .val (.int (4 : Int32)), .val (.int (128 : Int32)), .val (.int (143 : Int32)), .val (.int b), s9] [(.int (j + (2 : Int32)))]))
               refine own_st (fun t_ => XS.istoreS (own_here Y3) hx rfl (hb hby own_d2_220) rfl rfl hs9) ?_
               show own_Ends _ _ _ _ (T2.setTop (mkF m 222 #[.val (.ref r0), .val (.int x1), .val (.int x2), .val (.int j), .val (.int a), .val (.int (4 : Int32)), .val (.int (128 : Int32)), .val (.int (143 : Int32)), .val (.int b), .val (.int (j + (2 : Int32)))] []))
               refine own_st (fun t_ => XS.iload (own_here Y3) hx rfl (hb hby own_d2_222) rfl) ?_
               show own_Ends _ _ _ _ (T2.setTop (mkF m 224 #[.val (.ref r0), .val (.int x1), .val (.int x2), .val (.int j), .val (.int a), .val (.int (4 : Int32)), .val (.int (128 : Int32)), .val (.int (143 : Int32)), .val (.int b), .val (.int (j + (2 : Int32)))] [(.int (j + (2 : Int32)))]))
               refine own_st (fun t_ => XS.iloadN (own_here Y3) hx rfl (hb hby own_d2_224) rfl) ?_
               show own_Ends _ _ _ _ (T2.setTop (mkF m 225 #[.val (.ref r0), .val (.int x1), .val (.int x2), .val (.int j), .val (.int a), .val (.int (4 : Int32)), .val (.int (128 : Int32)), .val (.int (143 : Int32)), .val (.int b), .val (.int (j + (2 : Int32)))] [(.int j), (.int (j + (2 : Int32)))]))
               refine own_st (fun t_ => XS.iload (own_here Y3) hx rfl (hb hby own_d2_225) rfl) ?_
               show own_Ends _ _ _ _ (T2.setTop (mkF m 227 #[.val (.ref r0), .val (.int x1), .val (.int x2), .val (.int j), .val (.int a), .val (.int (4 : Int32)), .val (.int (128 : Int32)), .val (.int (143 : Int32)), .val (.int b), .val (.int (j + (2 : Int32)))] [(.int (4 : Int32)), (.int j), (.int (j + (2 : Int32)))]))
               refine own_st (fun t_ => XS.iadd (own_here Y3) hx rfl (hb hby own_d2_227) rfl) ?_
               show own_Ends _ _ _ _ (T2.setTop (mkF m 228 #[.val (.ref r0), .val (.int x1), .val (.int x2), .val (.int j), .val (.int a), .val (.int (4 : Int32)), .val (.int (128 : Int32)), .val (.int (143 : Int32)), .val (.int b), .val (.int (j + (2 : Int32)))] [(.int (j + (4 : Int32))), (.int (j + (2 : Int32)))]))
               have ee0 := own_add hj own_l4 (by omega)
               refine own_st (fun t_ => XS.icmpNo (own_here Y3) hx rfl (hb hby own_d2_228) rfl (XT.ii_ge_f (by rw [own_lt, n2, ee0]; omega))) ?_
               show own_Ends _ _ _ _ (T2.setTop (mkF m 231 #[.val (.ref r0), .val (.int x1), .val (.int x2), .val (.int j), .val (.int a), .val (.int (4 : Int32)), .val (.int (128 : Int32)), .val (.int (143 : Int32)), .val (.int b), .val (.int (j + (2 : Int32)))] []))
               refine own_st (fun t_ => XS.aloadN (own_here Y3) hx rfl (hb hby own_d2_231) rfl rfl) ?_
               show own_Ends _ _ _ _ (T2.setTop (mkF m 232 #[.val (.ref r0), .val (.int x1), .val (.int x2), .val (.int j), .val (.int a), .val (.int (4 : Int32)), .val (.int (128 : Int32)), .val (.int (143 : Int32)), .val (.int b), .val (.int (j + (2 : Int32)))] [(.ref r0)]))
               refine own_st (fun t_ => XS.iload (own_here Y3) hx rfl (hb hby own_d2_232) rfl) ?_
               show own_Ends _ _ _ _ (T2.setTop (mkF m 234 #[.val (.ref r0), .val (.int x1), .val (.int x2), .val (.int j), .val (.int a), .val (.int (4 : Int32)), .val (.int (128 : Int32)), .val (.int (143 : Int32)), .val (.int b), .val (.int (j + (2 : Int32)))] [(.int (j + (2 : Int32))), (.ref r0)]))
               refine own_ldB Y3 hx hZ A (i := (i + 2)) n20 n21 (own_mlen (by omega)) (v := (.int (own_g xs (i + 2)))) (own_mget (own_mlen (by omega))) rfl rfl (hb hby own_d2_234) ?_
               show own_Ends _ _ _ _ (T2.setTop (mkF m 235 #[.val (.ref r0), .val (.int x1), .val (.int x2), .val (.int j), .val (.int a), .val (.int (4 : Int32)), .val (.int (128 : Int32)), .val (.int (143 : Int32)), .val (.int b), .val (.int (j + (2 : Int32)))] [(.int (own_g xs (i + 2)))]))
               refine own_st (fun t_ => XS.sipush (own_here Y3) hx rfl (hb hby own_d2_235) ) ?_
               show own_Ends _ _ _ _ (T2.setTop (mkF m 238 #[.val (.ref r0), .val (.int x1), .val (.int x2), .val (.int j), .val (.int a), .val (.int (4 : Int32)), .val (.int (128 : Int32)), .val (.int (143 : Int32)), .val (.int b), .val (.int (j + (2 : Int32)))] [(.int (192 : Int32)), (.int (own_g xs (i + 2)))]))
               refine own_st (fun t_ => XS.iand (own_here Y3) hx rfl (hb hby own_d2_238) rfl) ?_
               show own_Ends _ _ _ _ (T2.setTop (mkF m 239 #[.val (.ref r0), .val (.int x1), .val (.int x2), .val (.int j), .val (.int a), .val (.int (4 : Int32)), .val (.int (128 : Int32)), .val (.int (143 : Int32)), .val (.int b), .val (.int (j + (2 : Int32)))] [(.int ((own_g xs (i + 2)) &&& (192 : Int32)))]))
               refine own_st (fun t_ => XS.sipush (own_here Y3) hx rfl (hb hby own_d2_239) ) ?_
               show own_Ends _ _ _ _ (T2.setTop (mkF m 242 #[.val (.ref r0), .val (.int x1), .val (.int x2), .val (.int j), .val (.int a), .val (.int (4 : Int32)), .val (.int (128 : Int32)), .val (.int (143 : Int32)), .val (.int b), .val (.int (j + (2 : Int32)))] [(.int (128 : Int32)), (.int ((own_g xs (i + 2)) &&& (192 : Int32)))]))
               by_cases c242_20 : ((own_g xs (i + 2)) &&& (192 : Int32)) = (128 : Int32)
               ·
                refine own_st (fun t_ => XS.icmpYes (own_here Y3) hx rfl (pc0 := 242) (pc' := 247) rfl (hb hby own_d2_242) rfl (XT.ii_eq_t c242_20) (by decide) (by decide)) ?_
                show own_Ends _ _ _ _ (T2.setTop (mkF m 247 #[.val (.ref r0), .val (.int x1), .val (.int x2), .val (.int j), .val (.int a), .val (.int (4 : Int32)), .val (.int (128 : Int32)), .val (.int (143 : Int32)), .val (.int b), .val (.int (j + (2 : Int32)))] []))
                refine own_st (fun t_ => XS.iinc (own_here Y3) hx rfl (hb hby own_d2_247) rfl (l' := #[.val (.ref r0), .val (.int x1), .val (.int x2), .val (.int j), .val (.int a), .val (.int (4 : Int32)), .val (.int (128 : Int32)), .val (.int (143 : Int32)), .val (.int b), .val (.int ((j + (2 : Int32)) + (1 : Int32)))]) rfl) ?_
                show own_Ends _ _ _ _ (T2.setTop (mkF m 250 #[.val (.ref r0), .val (.int x1), .val (.int x2), .val (.int j), .val (.int a), .val (.int (4 : Int32)), .val (.int (128 : Int32)), .val (.int (143 : Int32)), .val (.int b), .val (.int ((j + (2 : Int32)) + (1 : Int32)))] []))
                refine own_st (fun t_ => XS.goto (own_here Y3) hx rfl (pc0 := 250) (pc' := 222) rfl (hb hby own_d2_250) (by decide) (by decide)) ?_
                show own_Ends _ _ _ _ (T2.setTop (mkF m 222 #[.val (.ref r0), .val (.int x1), .val (.int x2), .val (.int j), .val (.int a), .val (.int (4 : Int32)), .val (.int (128 : Int32)), .val (.int (143 : Int32)), .val (.int b), .val (.int ((j + (2 : Int32)) + (1 : Int32)))] []))
                refine own_st (fun t_ => XS.iload (own_here Y3) hx rfl (hb hby own_d2_222) rfl) ?_
                show own_Ends _ _ _ _ (T2.setTop (mkF m 224 #[.val (.ref r0), .val (.int x1), .val (.int x2), .val (.int j), .val (.int a), .val (.int (4 : Int32)), .val (.int (128 : Int32)), .val (.int (143 : Int32)), .val (.int b), .val (.int ((j + (2 : Int32)) + (1 : Int32)))] [(.int ((j + (2 : Int32)) + (1 : Int32)))]))
                refine own_st (fun t_ => XS.iloadN (own_here Y3) hx rfl (hb hby own_d2_224) rfl) ?_
                show own_Ends _ _ _ _ (T2.setTop (mkF m 225 #[.val (.ref r0), .val (.int x1), .val (.int x2), .val (.int j), .val (.int a), .val (.int (4 : Int32)), .val (.int (128 : Int32)), .val (.int (143 : Int32)), .val (.int b), .val (.int ((j + (2 : Int32)) + (1 : Int32)))] [(.int j), (.int ((j + (2 : Int32)) + (1 : Int32)))]))
                refine own_st (fun t_ => XS.iload (own_here Y3) hx rfl (hb hby own_d2_225) rfl) ?_
                show own_Ends _ _ _ _ (T2.setTop (mkF m 227 #[.val (.ref r0), .val (.int x1), .val (.int x2), .val (.int j), .val (.int a), .val (.int (4 : Int32)), .val (.int (128 : Int32)), .val (.int (143 : Int32)), .val (.int b), .val (.int ((j + (2 : Int32)) + (1 : Int32)))] [(.int (4 : Int32)), (.int j), (.int ((j + (2 : Int32)) + (1 : Int32)))]))
                refine own_st (fun t_ => XS.iadd (own_here Y3) hx rfl (hb hby own_d2_227) rfl) ?_
                show own_Ends _ _ _ _ (T2.setTop (mkF m 228 #[.val (.ref r0), .val (.int x1), .val (.int x2), .val (.int j), .val (.int a), .val (.int (4 : Int32)), .val (.int (128 : Int32)), .val (.int (143 : Int32)), .val (.int b), .val (.int ((j + (2 : Int32)) + (1 : Int32)))] [(.int (j + (4 : Int32))), (.int ((j + (2 : Int32)) + (1 : Int32)))]))
                have ee1 := own_add hj own_l4 (by omega)
                refine own_st (fun t_ => XS.icmpNo (own_here Y3) hx rfl (hb hby own_d2_228) rfl (XT.ii_ge_f (by rw [own_lt, n3, ee1]; omega))) ?_
                show own_Ends _ _ _ _ (T2.setTop (mkF m 231 #[.val (.ref r0), .val (.int x1), .val (.int x2), .val (.int j), .val (.int a), .val (.int (4 : Int32)), .val (.int (128 : Int32)), .val (.int (143 : Int32)), .val (.int b), .val (.int ((j + (2 : Int32)) + (1 : Int32)))] []))
                refine own_st (fun t_ => XS.aloadN (own_here Y3) hx rfl (hb hby own_d2_231) rfl rfl) ?_
                show own_Ends _ _ _ _ (T2.setTop (mkF m 232 #[.val (.ref r0), .val (.int x1), .val (.int x2), .val (.int j), .val (.int a), .val (.int (4 : Int32)), .val (.int (128 : Int32)), .val (.int (143 : Int32)), .val (.int b), .val (.int ((j + (2 : Int32)) + (1 : Int32)))] [(.ref r0)]))
                refine own_st (fun t_ => XS.iload (own_here Y3) hx rfl (hb hby own_d2_232) rfl) ?_
                show own_Ends _ _ _ _ (T2.setTop (mkF m 234 #[.val (.ref r0), .val (.int x1), .val (.int x2), .val (.int j), .val (.int a), .val (.int (4 : Int32)), .val (.int (128 : Int32)), .val (.int (143 : Int32)), .val (.int b), .val (.int ((j + (2 : Int32)) + (1 : Int32)))] [(.int ((j + (2 : Int32)) + (1 : Int32))), (.ref r0)]))
                refine own_ldB Y3 hx hZ A (i := (i + 2 + 1)) n30 n31 (own_mlen (by omega)) (v := (.int (own_g xs (i + 3)))) (own_mget (own_mlen (by omega))) rfl rfl (hb hby own_d2_234) ?_
                show own_Ends _ _ _ _ (T2.setTop (mkF m 235 #[.val (.ref r0), .val (.int x1), .val (.int x2), .val (.int j), .val (.int a), .val (.int (4 : Int32)), .val (.int (128 : Int32)), .val (.int (143 : Int32)), .val (.int b), .val (.int ((j + (2 : Int32)) + (1 : Int32)))] [(.int (own_g xs (i + 3)))]))
                refine own_st (fun t_ => XS.sipush (own_here Y3) hx rfl (hb hby own_d2_235) ) ?_
                show own_Ends _ _ _ _ (T2.setTop (mkF m 238 #[.val (.ref r0), .val (.int x1), .val (.int x2), .val (.int j), .val (.int a), .val (.int (4 : Int32)), .val (.int (128 : Int32)), .val (.int (143 : Int32)), .val (.int b), .val (.int ((j + (2 : Int32)) + (1 : Int32)))] [(.int (192 : Int32)), (.int (own_g xs (i + 3)))]))
                refine own_st (fun t_ => XS.iand (own_here Y3) hx rfl (hb hby own_d2_238) rfl) ?_
                show own_Ends _ _ _ _ (T2.setTop (mkF m 239 #[.val (.ref r0), .val (.int x1), .val (.int x2), .val (.int j), .val (.int a), .val (.int (4 : Int32)), .val (.int (128 : Int32)), .val (.int (143 : Int32)), .val (.int b), .val (.int ((j + (2 : Int32)) + (1 : Int32)))] [(.int ((own_g xs (i + 3)) &&& (192 : Int32)))]))
                refine own_st (fun t_ => XS.sipush (own_here Y3) hx rfl (hb hby own_d2_239) ) ?_
                show own_Ends _ _ _ _ (T2.setTop (mkF m 242 #[.val (.ref r0), .val (.int x1), .val (.int x2), .val (.int j), .val (.int a), .val (.int (4 : Int32)), .val (.int (128 : Int32)), .val (.int (143 : Int32)), .val (.int b), .val (.int ((j + (2 : Int32)) + (1 : Int32)))] [(.int (128 : Int32)), (.int ((own_g xs (i + 3)) &&& (192 : Int32)))]))
                by_cases c242_21 : ((own_g xs (i + 3)) &&& (192 : Int32)) = (128 : Int32)
                ·
                 refine own_st (fun t_ => XS.icmpYes (own_here Y3) hx rfl (pc0 := 242) (pc' := 247) rfl (hb hby own_d2_242) rfl (XT.ii_eq_t c242_21) (by decide) (by decide)) ?_
                 show own_Ends _ _ _ _ (T2.setTop (mkF m 247 #[.val (.ref r0), .val (.int x1), .val (.int x2), .val (.int j), .val (.int a), .val (.int (4 : Int32)), .val (.int (128 : Int32)), .val (.int (143 : Int32)), .val (.int b), .val (.int ((j + (2 : Int32)) + (1 : Int32)))] []))
                 refine own_st (fun t_ => XS.iinc (own_here Y3) hx rfl (hb hby own_d2_247) rfl (l' := #[.val (.ref r0), .val (.int x1), .val (.int x2), .val (.int j), .val (.int a), .val (.int (4 : Int32)), .val (.int (128 : Int32)), .val (.int (143 : Int32)), .val (.int b), .val (.int (((j + (2 : Int32)) + (1 : Int32)) + (1 : Int32)))]) rfl) ?_
                 show own_Ends _ _ _ _ (T2.setTop (mkF m 250 #[.val (.ref r0), .val (.int x1), .val (.int x2), .val (.int j), .val (.int a), .val (.int (4 : Int32)), .val (.int (128 : Int32)), .val (.int (143 : Int32)), .val (.int b), .val (.int (((j + (2 : Int32)) + (1 : Int32)) + (1 : Int32)))] []))
                 refine own_st (fun t_ => XS.goto (own_here Y3) hx rfl (pc0 := 250) (pc' := 222) rfl (hb hby own_d2_250) (by decide) (by decide)) ?_
                 show own_Ends _ _ _ _ (T2.setTop (mkF m 222 #[.val (.ref r0), .val (.int x1), .val (.int x2), .val (.int j), .val (.int a), .val (.int (4 : Int32)), .val (.int (128 : Int32)), .val (.int (143 : Int32)), .val (.int b), .val (.int (((j + (2 : Int32)) + (1 : Int32)) + (1 : Int32)))] []))
                 refine own_st (fun t_ => XS.iload (own_here Y3) hx rfl (hb hby own_d2_222) rfl) ?_
                 show own_Ends _ _ _ _ (T2.setTop (mkF m 224 #[.val (.ref r0), .val (.int x1), .val (.int x2), .val (.int j), .val (.int a), .val (.int (4 : Int32)), .val (.int (128 : Int32)), .val (.int (143 : Int32)), .val (.int b), .val (.int (((j + (2 : Int32)) + (1 : Int32)) + (1 : Int32)))] [(.int (((j + (2 : Int32)) + (1 : Int32)) + (1 : Int32)))]))
                 refine own_st (fun t_ => XS.iloadN (own_here Y3) hx rfl (hb hby own_d2_224) rfl) ?_
                 show own_Ends _ _ _ _ (T2.setTop (mkF m 225 #[.val (.ref r0), .val (.int x1), .val (.int x2), .val (.int j), .val (.int a), .val (.int (4 : Int32)), .val (.int (128 : Int32)), .val (.int (143 : Int32)), .val (.int b), .val (.int (((j + (2 : Int32)) + (1 : Int32)) + (1 : Int32)))] [(.int j), (.int (((j + (2 : Int32)) + (1 : Int32)) + (1 : Int32)))]))
                 refine own_st (fun t_ => XS.iload (own_here Y3) hx rfl (hb hby own_d2_225) rfl) ?_
                 show own_Ends _ _ _ _ (T2.setTop (mkF m 227 #[.val (.ref r0), .val (.int x1), .val (.int x2), .val (.int j), .val (.int a), .val (.int (4 : Int32)), .val (.int (128 : Int32)), .val (.int (143 : Int32)), .val (.int b), .val (.int (((j + (2 : Int32)) + (1 : Int32)) + (1 : Int32)))] [(.int (4 : Int32)), (.int j), (.int (((j + (2 : Int32)) + (1 : Int32)) + (1 : Int32)))]))
                 refine own_st (fun t_ => XS.iadd (own_here Y3) hx rfl (hb hby own_d2_227) rfl) ?_
                 show own_Ends _ _ _ _ (T2.setTop (mkF m 228 #[.val (.ref r0), .val (.int x1), .val (.int x2), .val (.int j), .val (.int a), .val (.int (4 : Int32)), .val (.int (128 : Int32)), .val (.int (143 : Int32)), .val (.int b), .val (.int (((j + (2 : Int32)) + (1 : Int32)) + (1 : Int32)))] [(.int (j + (4 : Int32))), (.int (((j + (2 : Int32)) + (1 : Int32)) + (1 : Int32)))]))
                 have ee2 := own_add hj own_l4 (by omega)
                 refine own_st (fun t_ => XS.icmpYes (own_here Y3) hx rfl (pc0 := 228) (pc' := 253) rfl (hb hby own_d2_228) rfl (XT.ii_ge_t (by rw [own_lt, (own_add n3 own_l1 (by omega)), ee2]; omega)) (by decide) (by decide)) ?_
                 show own_Ends _ _ _ _ (T2.setTop (mkF m 253 #[.val (.ref r0), .val (.int x1), .val (.int x2), .val (.int j), .val (.int a), .val (.int (4 : Int32)), .val (.int (128 : Int32)), .val (.int (143 : Int32)), .val (.int b), .val (.int (((j + (2 : Int32)) + (1 : Int32)) + (1 : Int32)))] []))
                 refine own_st (fun t_ => XS.iloadN (own_here Y3) hx rfl (hb hby own_d2_253) rfl) ?_
                 show own_Ends _ _ _ _ (T2.setTop (mkF m 254 #[.val (.ref r0), .val (.int x1), .val (.int x2), .val (.int j), .val (.int a), .val (.int (4 : Int32)), .val (.int (128 : Int32)), .val (.int (143 : Int32)), .val (.int b), .val (.int (((j + (2 : Int32)) + (1 : Int32)) + (1 : Int32)))] [(.int j)]))
                 refine own_st (fun t_ => XS.iload (own_here Y3) hx rfl (hb hby own_d2_254) rfl) ?_
                 show own_Ends _ _ _ _ (T2.setTop (mkF m 256 #[.val (.ref r0), .val (.int x1), .val (.int x2), .val (.int j), .val (.int a), .val (.int (4 : Int32)), .val (.int (128 : Int32)), .val (.int (143 : Int32)), .val (.int b), .val (.int (((j + (2 : Int32)) + (1 : Int32)) + (1 : Int32)))] [(.int (4 : Int32)), (.int j)]))
                 refine own_st (fun t_ => XS.iadd (own_here Y3) hx rfl (hb hby own_d2_256) rfl) ?_
                 show own_Ends _ _ _ _ (T2.setTop (mkF m 257 #[.val (.ref r0), .val (.int x1), .val (.int x2), .val (.int j), .val (.int a), .val (.int (4 : Int32)), .val (.int (128 : Int32)), .val (.int (143 : Int32)), .val (.int b), .val (.int (((j + (2 : Int32)) + (1 : Int32)) + (1 : Int32)))] [(.int (j + (4 : Int32)))]))
                 refine own_st (fun t_ => XS.istoreN (own_here Y3) hx rfl (hb hby own_d2_257) rfl (l' := #[.val (.ref r0), .val (.int x1), .val (.int x2), .val (.int (j + (4 : Int32))), .val (.int a), .val (.int (4 : Int32)), .val (.int (128 : Int32)), .val (.int (143 : Int32)), .val (.int b), .val (.int (((j + (2 : Int32)) + (1 : Int32)) + (1 : Int32)))]) rfl) ?_
                 show own_Ends _ _ _ _ (T2.setTop (mkF m 258 #[.val (.ref r0), .val (.int x1), .val (.int x2), .val (.int (j + (4 : Int32))), .val (.int a), .val (.int (4 : Int32)), .val (.int (128 : Int32)), .val (.int (143 : Int32)), .val (.int b), .val (.int (((j + (2 : Int32)) + (1 : Int32)) + (1 : Int32)))] []))
                 refine own_st (fun t_ => XS.goto (own_here Y3) hx rfl (pc0 := 258) (pc' := 2) rfl (hb hby own_d2_258) (by decide) (by decide)) ?_
                 show own_Ends _ _ _ _ (T2.setTop (mkF m 2 #[.val (.ref r0), .val (.int x1), .val (.int x2), .val (.int (j + (4 : Int32))), .val (.int a), .val (.int (4 : Int32)), .val (.int (128 : Int32)), .val (.int (143 : Int32)), .val (.int b), .val (.int (((j + (2 : Int32)) + (1 : Int32)) + (1 : Int32)))] []))
                 have g2 := (own_cont (hB (i + 2))).mp c242_20; have g2' : 128 ≤ own_u xs (i + 2) ∧ own_u xs (i + 2) ≤ 191 := g2
                 have g3 := (own_cont (hB (i + 3))).mp c242_21; have g3' : 128 ≤ own_u xs (i + 3) ∧ own_u xs (i + 3) ≤ 191 := g3
                 have c21_5t := c21_5; simp only [own_lt] at c21_5t
                 have c45_6t := c45_6; simp only [own_lt] at c45_6t
                 have c53_7t := c53_7; simp only [own_lt] at c53_7t
                 have c75_8t := c75_8; simp only [own_lt] at c75_8t
                 have c133_9t := c133_9; simp only [own_lt] at c133_9t
                 have c144_10t := c144_10; simp only [own_eq] at c144_10t
                 have c162_16t := c162_16; simp only [own_eq] at c162_16t
                 have c205_18t := c205_18; simp only [own_lt] at c205_18t
                 have c212_19t := c212_19; simp only [own_lt] at c212_19t
                 have ra := own_u_rng xs i; rw [ua] at ra
                 have f1 : (own_A1 (own_u xs i)) = false := by simp only [own_A1, ua, decide_eq_false_iff_not]; omega
                 have f2 : (decide (i + 2 ≤ t) && own_A2 (own_u xs i) (own_u xs (i + 1))) = false := by simp only [own_A2, ua, u1, Bool.and_eq_false_iff, decide_eq_false_iff_not]; omega
                 have f3 : (decide (i + 3 ≤ t) && own_A3 (own_u xs i) (own_u xs (i + 1)) (own_u xs (i + 2))) = false := by simp only [own_A3, ua, u1, Bool.and_eq_false_iff, decide_eq_false_iff_not]; omega
                 have f4 : (decide (i + 4 ≤ t) && own_A4 (own_u xs i) (own_u xs (i + 1)) (own_u xs (i + 2)) (own_u xs (i + 3))) = true := by simp only [own_A4, ua, u1, Bool.and_eq_true, decide_eq_true_eq]; omega
                 have hR2 : own_V (own_u xs) t (k - 1) (i + 4) = R := by
                   rw [← hR]; obtain ⟨k', rfl⟩ : ∃ k', k = k' + 1 := ⟨k - 1, by omega⟩
                   have hti : decide (t ≤ i) = false := by simp only [decide_eq_false_iff_not]; omega
                   simp only [own_V, Nat.add_sub_cancel, hti, f1, f2, f3, f4, Bool.false_and, Bool.true_and, Bool.or_false, Bool.false_or]
                 exact ih (k - 1) (by omega) T2  (i + 4) ((j + (4 : Int32))) (.val (.int a)) (.val (.int (4 : Int32))) (.val (.int (128 : Int32))) (.val (.int (143 : Int32))) (.val (.int b)) (.val (.int (((j + (2 : Int32)) + (1 : Int32)) + (1 : Int32)))) Y3  (own_add hj own_l4 (by omega)) (by omega) (by omega) hR2 (One.val rfl) (One.val rfl) (One.val rfl) (One.val rfl) (One.val rfl) (One.val rfl)
                ·
                 refine own_st (fun t_ => XS.icmpNo (own_here Y3) hx rfl (hb hby own_d2_242) rfl (XT.ii_eq_f c242_21)) ?_
                 show own_Ends _ _ _ _ (T2.setTop (mkF m 245 #[.val (.ref r0), .val (.int x1), .val (.int x2), .val (.int j), .val (.int a), .val (.int (4 : Int32)), .val (.int (128 : Int32)), .val (.int (143 : Int32)), .val (.int b), .val (.int ((j + (2 : Int32)) + (1 : Int32)))] []))
                 refine own_st (fun t_ => XS.iconst (own_here Y3) hx rfl (hb hby own_d2_245) ) ?_
                 show own_Ends _ _ _ _ (T2.setTop (mkF m 246 #[.val (.ref r0), .val (.int x1), .val (.int x2), .val (.int j), .val (.int a), .val (.int (4 : Int32)), .val (.int (128 : Int32)), .val (.int (143 : Int32)), .val (.int b), .val (.int ((j + (2 : Int32)) + (1 : Int32)))] [(.int (0 : Int32))]))
                 have hc := mt (own_cont (hB (i + 3))).mpr c242_21; have hc' : ¬ (128 ≤ own_u xs (i + 3) ∧ own_u xs (i + 3) ≤ 191) := hc
                 have g2 := (own_cont (hB (i + 2))).mp c242_20; have g2' : 128 ≤ own_u xs (i + 2) ∧ own_u xs (i + 2) ≤ 191 := g2
                 have c21_5t := c21_5; simp only [own_lt] at c21_5t
                 have c45_6t := c45_6; simp only [own_lt] at c45_6t
                 have c53_7t := c53_7; simp only [own_lt] at c53_7t
                 have c75_8t := c75_8; simp only [own_lt] at c75_8t
                 have c133_9t := c133_9; simp only [own_lt] at c133_9t
                 have c144_10t := c144_10; simp only [own_eq] at c144_10t
                 have c162_16t := c162_16; simp only [own_eq] at c162_16t
                 have c205_18t := c205_18; simp only [own_lt] at c205_18t
                 have c212_19t := c212_19; simp only [own_lt] at c212_19t
                 have ra := own_u_rng xs i; rw [ua] at ra
                 have f1 : (own_A1 (own_u xs i)) = false := by simp only [own_A1, ua, decide_eq_false_iff_not]; omega
                 have f2 : (decide (i + 2 ≤ t) && own_A2 (own_u xs i) (own_u xs (i + 1))) = false := by simp only [own_A2, ua, u1, Bool.and_eq_false_iff, decide_eq_false_iff_not]; omega
                 have f3 : (decide (i + 3 ≤ t) && own_A3 (own_u xs i) (own_u xs (i + 1)) (own_u xs (i + 2))) = false := by simp only [own_A3, ua, u1, Bool.and_eq_false_iff, decide_eq_false_iff_not]; omega
                 have f4 : (decide (i + 4 ≤ t) && own_A4 (own_u xs i) (own_u xs (i + 1)) (own_u xs (i + 2)) (own_u xs (i + 3))) = false := by simp only [own_A4, ua, u1, Bool.and_eq_false_iff, decide_eq_false_iff_not]; omega
                 refine own_retN Y3 hx hlk (t := .boolean) hret (by simp) (hb hby own_d2_246) (by decide) (by decide) ?_
                 refine ⟨?_, rfl⟩
                 have : own_V (own_u xs) t (t - f) f = false := by
                   rw [hR0, ← hR]; obtain ⟨k', rfl⟩ : ∃ k', k = k' + 1 := ⟨k - 1, by omega⟩
                   have hti : decide (t ≤ i) = false := by simp only [decide_eq_false_iff_not]; omega
                   simp only [own_V, hti, f1, f2, f3, f4, Bool.false_and, Bool.or_false, Bool.false_or]
                 rw [this]; rfl
               ·
                refine own_st (fun t_ => XS.icmpNo (own_here Y3) hx rfl (hb hby own_d2_242) rfl (XT.ii_eq_f c242_20)) ?_
                show own_Ends _ _ _ _ (T2.setTop (mkF m 245 #[.val (.ref r0), .val (.int x1), .val (.int x2), .val (.int j), .val (.int a), .val (.int (4 : Int32)), .val (.int (128 : Int32)), .val (.int (143 : Int32)), .val (.int b), .val (.int (j + (2 : Int32)))] []))
                refine own_st (fun t_ => XS.iconst (own_here Y3) hx rfl (hb hby own_d2_245) ) ?_
                show own_Ends _ _ _ _ (T2.setTop (mkF m 246 #[.val (.ref r0), .val (.int x1), .val (.int x2), .val (.int j), .val (.int a), .val (.int (4 : Int32)), .val (.int (128 : Int32)), .val (.int (143 : Int32)), .val (.int b), .val (.int (j + (2 : Int32)))] [(.int (0 : Int32))]))
                have hc := mt (own_cont (hB (i + 2))).mpr c242_20; have hc' : ¬ (128 ≤ own_u xs (i + 2) ∧ own_u xs (i + 2) ≤ 191) := hc
                have c21_5t := c21_5; simp only [own_lt] at c21_5t
                have c45_6t := c45_6; simp only [own_lt] at c45_6t
                have c53_7t := c53_7; simp only [own_lt] at c53_7t
                have c75_8t := c75_8; simp only [own_lt] at c75_8t
                have c133_9t := c133_9; simp only [own_lt] at c133_9t
                have c144_10t := c144_10; simp only [own_eq] at c144_10t
                have c162_16t := c162_16; simp only [own_eq] at c162_16t
                have c205_18t := c205_18; simp only [own_lt] at c205_18t
                have c212_19t := c212_19; simp only [own_lt] at c212_19t
                have ra := own_u_rng xs i; rw [ua] at ra
                have f1 : (own_A1 (own_u xs i)) = false := by simp only [own_A1, ua, decide_eq_false_iff_not]; omega
                have f2 : (decide (i + 2 ≤ t) && own_A2 (own_u xs i) (own_u xs (i + 1))) = false := by simp only [own_A2, ua, u1, Bool.and_eq_false_iff, decide_eq_false_iff_not]; omega
                have f3 : (decide (i + 3 ≤ t) && own_A3 (own_u xs i) (own_u xs (i + 1)) (own_u xs (i + 2))) = false := by simp only [own_A3, ua, u1, Bool.and_eq_false_iff, decide_eq_false_iff_not]; omega
                have f4 : (decide (i + 4 ≤ t) && own_A4 (own_u xs i) (own_u xs (i + 1)) (own_u xs (i + 2)) (own_u xs (i + 3))) = false := by simp only [own_A4, ua, u1, Bool.and_eq_false_iff, decide_eq_false_iff_not]; omega
                refine own_retN Y3 hx hlk (t := .boolean) hret (by simp) (hb hby own_d2_246) (by decide) (by decide) ?_
                refine ⟨?_, rfl⟩
                have : own_V (own_u xs) t (t - f) f = false := by
                  rw [hR0, ← hR]; obtain ⟨k', rfl⟩ : ∃ k', k = k' + 1 := ⟨k - 1, by omega⟩
                  have hti : decide (t ≤ i) = false := by simp only [decide_eq_false_iff_not]; omega
                  simp only [own_V, hti, f1, f2, f3, f4, Bool.false_and, Bool.or_false, Bool.false_or]
                rw [this]; rfl
           ·
            refine own_st (fun t_ => XS.icmpYes (own_here Y3) hx rfl (pc0 := 162) (pc' := 171) rfl (hb hby own_d2_162) rfl (XT.ii_ne_t c162_16) (by decide) (by decide)) ?_
            show own_Ends _ _ _ _ (T2.setTop (mkF m 171 #[.val (.ref r0), .val (.int x1), .val (.int x2), .val (.int j), .val (.int a), .val (.int (4 : Int32)), .val (.int (128 : Int32)), .val (.int (191 : Int32)), s8, s9] []))
            refine own_st (fun t_ => XS.iload (own_here Y3) hx rfl (hb hby own_d2_171) rfl) ?_
            show own_Ends _ _ _ _ (T2.setTop (mkF m 173 #[.val (.ref r0), .val (.int x1), .val (.int x2), .val (.int j), .val (.int a), .val (.int (4 : Int32)), .val (.int (128 : Int32)), .val (.int (191 : Int32)), s8, s9] [(.int (191 : Int32))]))
            refine own_st (fun t_ => XS.istore (own_here Y3) hx rfl (hb hby own_d2_173) rfl (l' := #[.val (.ref r0), .val (.int x1), .val (.int x2), .val (.int j), .val (.int a), .val (.int (4 : Int32)), .val (.int (128 : Int32)), .val (.int (191 : Int32)), s8, s9]) rfl) ?_
            show own_Ends _ _ _ _ (T2.setTop (mkF m 175 #[.val (.ref r0), .val (.int x1), .val (.int x2), .val (.int j), .val (.int a), .val (.int (4 : Int32)), .val (.int (128 : Int32)), .val (.int (191 : Int32)), s8, s9] []))
            refine own_st (fun t_ => XS.goto (own_here Y3) hx rfl (pc0 := 175) (pc' := 180) rfl (hb hby own_d2_175) (by decide) (by decide)) ?_
            show own_Ends _ _ _ _ (T2.setTop (mkF m 180 #[.val (.ref r0), .val (.int x1), .val (.int x2), .val (.int j), .val (.int a), .val (.int (4 : Int32)), .val (.int (128 : Int32)), .val (.int (191 : Int32)), s8, s9] []))
            refine own_st (fun t_ => XS.iloadN (own_here Y3) hx rfl (hb hby own_d2_180) rfl) ?_
            show own_Ends _ _ _ _ (T2.setTop (mkF m 181 #[.val (.ref r0), .val (.int x1), .val (.int x2), .val (.int j), .val (.int a), .val (.int (4 : Int32)), .val (.int (128 : Int32)), .val (.int (191 : Int32)), s8, s9] [(.int x2)]))
            refine own_st (fun t_ => XS.iloadN (own_here Y3) hx rfl (hb hby own_d2_181) rfl) ?_
            show own_Ends _ _ _ _ (T2.setTop (mkF m 182 #[.val (.ref r0), .val (.int x1), .val (.int x2), .val (.int j), .val (.int a), .val (.int (4 : Int32)), .val (.int (128 : Int32)), .val (.int (191 : Int32)), s8, s9] [(.int j), (.int x2)]))
            refine own_st (fun t_ => XS.isub (own_here Y3) hx rfl (hb hby own_d2_182) rfl) ?_
            show own_Ends _ _ _ _ (T2.setTop (mkF m 183 #[.val (.ref r0), .val (.int x1), .val (.int x2), .val (.int j), .val (.int a), .val (.int (4 : Int32)), .val (.int (128 : Int32)), .val (.int (191 : Int32)), s8, s9] [(.int (x2 - j))]))
            refine own_st (fun t_ => XS.iload (own_here Y3) hx rfl (hb hby own_d2_183) rfl) ?_
            show own_Ends _ _ _ _ (T2.setTop (mkF m 185 #[.val (.ref r0), .val (.int x1), .val (.int x2), .val (.int j), .val (.int a), .val (.int (4 : Int32)), .val (.int (128 : Int32)), .val (.int (191 : Int32)), s8, s9] [(.int (4 : Int32)), (.int (x2 - j))]))
            by_cases c185_22 : (x2 - j) < (4 : Int32)
            ·
             refine own_st (fun t_ => XS.icmpNo (own_here Y3) hx rfl (hb hby own_d2_185) rfl (XT.ii_ge_f c185_22)) ?_
             show own_Ends _ _ _ _ (T2.setTop (mkF m 188 #[.val (.ref r0), .val (.int x1), .val (.int x2), .val (.int j), .val (.int a), .val (.int (4 : Int32)), .val (.int (128 : Int32)), .val (.int (191 : Int32)), s8, s9] []))
             refine own_st (fun t_ => XS.iconst (own_here Y3) hx rfl (hb hby own_d2_188) ) ?_
             show own_Ends _ _ _ _ (T2.setTop (mkF m 189 #[.val (.ref r0), .val (.int x1), .val (.int x2), .val (.int j), .val (.int a), .val (.int (4 : Int32)), .val (.int (128 : Int32)), .val (.int (191 : Int32)), s8, s9] [(.int (0 : Int32))]))
             have hroom : ¬ i + 4 ≤ t := by have := c185_22; rw [own_lt, own_sub ht hj] at this; have e : (4 : Int32).toInt = 4 := rfl; omega
             have c21_5t := c21_5; simp only [own_lt] at c21_5t
             have c45_6t := c45_6; simp only [own_lt] at c45_6t
             have c53_7t := c53_7; simp only [own_lt] at c53_7t
             have c75_8t := c75_8; simp only [own_lt] at c75_8t
             have c133_9t := c133_9; simp only [own_lt] at c133_9t
             have c144_10t := c144_10; simp only [own_eq] at c144_10t
             have c162_16t := c162_16; simp only [own_eq] at c162_16t
             have ra := own_u_rng xs i; rw [ua] at ra
             have f1 : (own_A1 (own_u xs i)) = false := by simp only [own_A1, ua, decide_eq_false_iff_not]; omega
             have f2 : (decide (i + 2 ≤ t) && own_A2 (own_u xs i) (own_u xs (i + 1))) = false := by simp only [own_A2, ua, Bool.and_eq_false_iff, decide_eq_false_iff_not]; omega
             have f3 : (decide (i + 3 ≤ t) && own_A3 (own_u xs i) (own_u xs (i + 1)) (own_u xs (i + 2))) = false := by simp only [own_A3, ua, Bool.and_eq_false_iff, decide_eq_false_iff_not]; omega
             have f4 : (decide (i + 4 ≤ t) && own_A4 (own_u xs i) (own_u xs (i + 1)) (own_u xs (i + 2)) (own_u xs (i + 3))) = false := by simp only [own_A4, ua, Bool.and_eq_false_iff, decide_eq_false_iff_not]; omega
             refine own_retN Y3 hx hlk (t := .boolean) hret (by simp) (hb hby own_d2_189) (by decide) (by decide) ?_
             refine ⟨?_, rfl⟩
             have : own_V (own_u xs) t (t - f) f = false := by
               rw [hR0, ← hR]; obtain ⟨k', rfl⟩ : ∃ k', k = k' + 1 := ⟨k - 1, by omega⟩
               have hti : decide (t ≤ i) = false := by simp only [decide_eq_false_iff_not]; omega
               simp only [own_V, hti, f1, f2, f3, f4, Bool.false_and, Bool.or_false, Bool.false_or]
             rw [this]; rfl
            ·
             refine own_st (fun t_ => XS.icmpYes (own_here Y3) hx rfl (pc0 := 185) (pc' := 190) rfl (hb hby own_d2_185) rfl (XT.ii_ge_t c185_22) (by decide) (by decide)) ?_
             show own_Ends _ _ _ _ (T2.setTop (mkF m 190 #[.val (.ref r0), .val (.int x1), .val (.int x2), .val (.int j), .val (.int a), .val (.int (4 : Int32)), .val (.int (128 : Int32)), .val (.int (191 : Int32)), s8, s9] []))
             have hroom : i + 4 ≤ t := by have := c185_22; rw [own_lt, own_sub ht hj] at this; have e : (4 : Int32).toInt = 4 := rfl; omega
             have n1 := own_add hj own_l1 (by omega)
             obtain ⟨n10, n11⟩ := own_nat n1
             have n2 := own_add hj own_l2 (by omega)
             obtain ⟨n20, n21⟩ := own_nat n2
             have n3 := own_add n2 own_l1 (by omega)
             obtain ⟨n30, n31⟩ := own_nat n3
             refine own_st (fun t_ => XS.aloadN (own_here Y3) hx rfl (hb hby own_d2_190) rfl rfl) ?_
             show own_Ends _ _ _ _ (T2.setTop (mkF m 191 #[.val (.ref r0), .val (.int x1), .val (.int x2), .val (.int j), .val (.int a), .val (.int (4 : Int32)), .val (.int (128 : Int32)), .val (.int (191 : Int32)), s8, s9] [(.ref r0)]))
             refine own_st (fun t_ => XS.iloadN (own_here Y3) hx rfl (hb hby own_d2_191) rfl) ?_
             show own_Ends _ _ _ _ (T2.setTop (mkF m 192 #[.val (.ref r0), .val (.int x1), .val (.int x2), .val (.int j), .val (.int a), .val (.int (4 : Int32)), .val (.int (128 : Int32)), .val (.int (191 : Int32)), s8, s9] [(.int j), (.ref r0)]))
             refine own_st (fun t_ => XS.iconst (own_here Y3) hx rfl (hb hby own_d2_192) ) ?_
             show own_Ends _ _ _ _ (T2.setTop (mkF m 193 #[.val (.ref r0), .val (.int x1), .val (.int x2), .val (.int j), .val (.int a), .val (.int (4 : Int32)), .val (.int (128 : Int32)), .val (.int (191 : Int32)), s8, s9] [(.int (1 : Int32)), (.int j), (.ref r0)]))
             refine own_st (fun t_ => XS.iadd (own_here Y3) hx rfl (hb hby own_d2_193) rfl) ?_
             show own_Ends _ _ _ _ (T2.setTop (mkF m 194 #[.val (.ref r0), .val (.int x1), .val (.int x2), .val (.int j), .val (.int a), .val (.int (4 : Int32)), .val (.int (128 : Int32)), .val (.int (191 : Int32)), s8, s9] [(.int (j + (1 : Int32))), (.ref r0)]))
             refine own_ldB Y3 hx hZ A (i := (i + 1)) n10 n11 (own_mlen (by omega)) (v := (.int (own_g xs (i + 1)))) (own_mget (own_mlen (by omega))) rfl rfl (hb hby own_d2_194) ?_
             show own_Ends _ _ _ _ (T2.setTop (mkF m 195 #[.val (.ref r0), .val (.int x1), .val (.int x2), .val (.int j), .val (.int a), .val (.int (4 : Int32)), .val (.int (128 : Int32)), .val (.int (191 : Int32)), s8, s9] [(.int (own_g xs (i + 1)))]))
             refine own_st (fun t_ => XS.sipush (own_here Y3) hx rfl (hb hby own_d2_195) ) ?_
             show own_Ends _ _ _ _ (T2.setTop (mkF m 198 #[.val (.ref r0), .val (.int x1), .val (.int x2), .val (.int j), .val (.int a), .val (.int (4 : Int32)), .val (.int (128 : Int32)), .val (.int (191 : Int32)), s8, s9] [(.int (255 : Int32)), (.int (own_g xs (i + 1)))]))
             refine own_st (fun t_ => XS.iand (own_here Y3) hx rfl (hb hby own_d2_198) rfl) ?_
             show own_Ends _ _ _ _ (T2.setTop (mkF m 199 #[.val (.ref r0), .val (.int x1), .val (.int x2), .val (.int j), .val (.int a), .val (.int (4 : Int32)), .val (.int (128 : Int32)), .val (.int (191 : Int32)), s8, s9] [(.int ((own_g xs (i + 1)) &&& (255 : Int32)))]))
             refine own_st (fun t_ => XS.istoreS (own_here Y3) hx rfl (hb hby own_d2_199) rfl rfl hs8) ?_
             show own_Ends _ _ _ _ (T2.setTop (mkF m 201 #[.val (.ref r0), .val (.int x1), .val (.int x2), .val (.int j), .val (.int a), .val (.int (4 : Int32)), .val (.int (128 : Int32)), .val (.int (191 : Int32)), .val (.int ((own_g xs (i + 1)) &&& (255 : Int32))), s9] []))
             generalize hb_ : ((own_g xs (i + 1)) &&& (255 : Int32)) = b
             have u1 : own_u xs (i + 1) = b.toInt := by rw [own_u, hb_]
             refine own_st (fun t_ => XS.iload (own_here Y3) hx rfl (hb hby own_d2_201) rfl) ?_
             show own_Ends _ _ _ _ (T2.setTop (mkF m 203 #[.val (.ref r0), .val (.int x1), .val (.int x2), .val (.int j), .val (.int a), .val (.int (4 : Int32)), .val (.int (128 : Int32)), .val (.int (191 : Int32)), .val (.int b), s9] [(.int b)]))
             refine own_st (fun t_ => XS.iload (own_here Y3) hx rfl (hb hby own_d2_203) rfl) ?_
             show own_Ends _ _ _ _ (T2.setTop (mkF m 205 #[.val (.ref r0), .val (.int x1), .val (.int x2), .val (.int j), .val (.int a), .val (.int (4 : Int32)), .val (.int (128 : Int32)), .val (.int (191 : Int32)), .val (.int b), s9] [(.int (128 : Int32)), (.int b)]))
             by_cases c205_23 : b < (128 : Int32)
             ·
              refine own_st (fun t_ => XS.icmpYes (own_here Y3) hx rfl (pc0 := 205) (pc' := 215) rfl (hb hby own_d2_205) rfl (XT.ii_lt_t c205_23) (by decide) (by decide)) ?_
              show own_Ends _ _ _ _ (T2.setTop (mkF m 215 #[.val (.ref r0), .val (.int x1), .val (.int x2), .val (.int j), .val (.int a), .val (.int (4 : Int32)), .val (.int (128 : Int32)), .val (.int (191 : Int32)), .val (.int b), s9] []))
              refine own_st (fun t_ => XS.iconst (own_here Y3) hx rfl (hb hby own_d2_215) ) ?_
              show own_Ends _ _ _ _ (T2.setTop (mkF m 216 #[.val (.ref r0), .val (.int x1), .val (.int x2), .val (.int j), .val (.int a), .val (.int (4 : Int32)), .val (.int (128 : Int32)), .val (.int (191 : Int32)), .val (.int b), s9] [(.int (0 : Int32))]))
              have c21_5t := c21_5; simp only [own_lt] at c21_5t
              have c45_6t := c45_6; simp only [own_lt] at c45_6t
              have c53_7t := c53_7; simp only [own_lt] at c53_7t
              have c75_8t := c75_8; simp only [own_lt] at c75_8t
              have c133_9t := c133_9; simp only [own_lt] at c133_9t
              have c144_10t := c144_10; simp only [own_eq] at c144_10t
              have c162_16t := c162_16; simp only [own_eq] at c162_16t
              have c205_23t := c205_23; simp only [own_lt] at c205_23t
              have ra := own_u_rng xs i; rw [ua] at ra
              have f1 : (own_A1 (own_u xs i)) = false := by simp only [own_A1, ua, decide_eq_false_iff_not]; omega
              have f2 : (decide (i + 2 ≤ t) && own_A2 (own_u xs i) (own_u xs (i + 1))) = false := by simp only [own_A2, ua, u1, Bool.and_eq_false_iff, decide_eq_false_iff_not]; omega
              have f3 : (decide (i + 3 ≤ t) && own_A3 (own_u xs i) (own_u xs (i + 1)) (own_u xs (i + 2))) = false := by simp only [own_A3, ua, u1, Bool.and_eq_false_iff, decide_eq_false_iff_not]; omega
              have f4 : (decide (i + 4 ≤ t) && own_A4 (own_u xs i) (own_u xs (i + 1)) (own_u xs (i + 2)) (own_u xs (i + 3))) = false := by simp only [own_A4, ua, u1, Bool.and_eq_false_iff, decide_eq_false_iff_not]; omega
              refine own_retN Y3 hx hlk (t := .boolean) hret (by simp) (hb hby own_d2_216) (by decide) (by decide) ?_
              refine ⟨?_, rfl⟩
              have : own_V (own_u xs) t (t - f) f = false := by
                rw [hR0, ← hR]; obtain ⟨k', rfl⟩ : ∃ k', k = k' + 1 := ⟨k - 1, by omega⟩
                have hti : decide (t ≤ i) = false := by simp only [decide_eq_false_iff_not]; omega
                simp only [own_V, hti, f1, f2, f3, f4, Bool.false_and, Bool.or_false, Bool.false_or]
              rw [this]; rfl
             ·
              refine own_st (fun t_ => XS.icmpNo (own_here Y3) hx rfl (hb hby own_d2_205) rfl (XT.ii_lt_f c205_23)) ?_
              show own_Ends _ _ _ _ (T2.setTop (mkF m 208 #[.val (.ref r0), .val (.int x1), .val (.int x2), .val (.int j), .val (.int a), .val (.int (4 : Int32)), .val (.int (128 : Int32)), .val (.int (191 : Int32)), .val (.int b), s9] []))
              refine own_st (fun t_ => XS.iload (own_here Y3) hx rfl (hb hby own_d2_208) rfl) ?_
              show own_Ends _ _ _ _ (T2.setTop (mkF m 210 #[.val (.ref r0), .val (.int x1), .val (.int x2), .val (.int j), .val (.int a), .val (.int (4 : Int32)), .val (.int (128 : Int32)), .val (.int (191 : Int32)), .val (.int b), s9] [(.int b)]))
              refine own_st (fun t_ => XS.iload (own_here Y3) hx rfl (hb hby own_d2_210) rfl) ?_
              show own_Ends _ _ _ _ (T2.setTop (mkF m 212 #[.val (.ref r0), .val (.int x1), .val (.int x2), .val (.int j), .val (.int a), .val (.int (4 : Int32)), .val (.int (128 : Int32)), .val (.int (191 : Int32)), .val (.int b), s9] [(.int (191 : Int32)), (.int b)]))
              by_cases c212_24 : (191 : Int32) < b
              ·
               refine own_st (fun t_ => XS.icmpNo (own_here Y3) hx rfl (hb hby own_d2_212) rfl (XT.ii_le_f c212_24)) ?_
               show own_Ends _ _ _ _ (T2.setTop (mkF m 215 #[.val (.ref r0), .val (.int x1), .val (.int x2), .val (.int j), .val (.int a), .val (.int (4 : Int32)), .val (.int (128 : Int32)), .val (.int (191 : Int32)), .val (.int b), s9] []))
               refine own_st (fun t_ => XS.iconst (own_here Y3) hx rfl (hb hby own_d2_215) ) ?_
               show own_Ends _ _ _ _ (T2.setTop (mkF m 216 #[.val (.ref r0), .val (.int x1), .val (.int x2), .val (.int j), .val (.int a), .val (.int (4 : Int32)), .val (.int (128 : Int32)), .val (.int (191 : Int32)), .val (.int b), s9] [(.int (0 : Int32))]))
               have c21_5t := c21_5; simp only [own_lt] at c21_5t
               have c45_6t := c45_6; simp only [own_lt] at c45_6t
               have c53_7t := c53_7; simp only [own_lt] at c53_7t
               have c75_8t := c75_8; simp only [own_lt] at c75_8t
               have c133_9t := c133_9; simp only [own_lt] at c133_9t
               have c144_10t := c144_10; simp only [own_eq] at c144_10t
               have c162_16t := c162_16; simp only [own_eq] at c162_16t
               have c205_23t := c205_23; simp only [own_lt] at c205_23t
               have c212_24t := c212_24; simp only [own_lt] at c212_24t
               have ra := own_u_rng xs i; rw [ua] at ra
               have f1 : (own_A1 (own_u xs i)) = false := by simp only [own_A1, ua, decide_eq_false_iff_not]; omega
               have f2 : (decide (i + 2 ≤ t) && own_A2 (own_u xs i) (own_u xs (i + 1))) = false := by simp only [own_A2, ua, u1, Bool.and_eq_false_iff, decide_eq_false_iff_not]; omega
               have f3 : (decide (i + 3 ≤ t) && own_A3 (own_u xs i) (own_u xs (i + 1)) (own_u xs (i + 2))) = false := by simp only [own_A3, ua, u1, Bool.and_eq_false_iff, decide_eq_false_iff_not]; omega
               have f4 : (decide (i + 4 ≤ t) && own_A4 (own_u xs i) (own_u xs (i + 1)) (own_u xs (i + 2)) (own_u xs (i + 3))) = false := by simp only [own_A4, ua, u1, Bool.and_eq_false_iff, decide_eq_false_iff_not]; omega
               refine own_retN Y3 hx hlk (t := .boolean) hret (by simp) (hb hby own_d2_216) (by decide) (by decide) ?_
               refine ⟨?_, rfl⟩
               have : own_V (own_u xs) t (t - f) f = false := by
                 rw [hR0, ← hR]; obtain ⟨k', rfl⟩ : ∃ k', k = k' + 1 := ⟨k - 1, by omega⟩
                 have hti : decide (t ≤ i) = false := by simp only [decide_eq_false_iff_not]; omega
                 simp only [own_V, hti, f1, f2, f3, f4, Bool.false_and, Bool.or_false, Bool.false_or]
               rw [this]; rfl
              ·
               refine own_st (fun t_ => XS.icmpYes (own_here Y3) hx rfl (pc0 := 212) (pc' := 217) rfl (hb hby own_d2_212) rfl (XT.ii_le_t c212_24) (by decide) (by decide)) ?_
               show own_Ends _ _ _ _ (T2.setTop (mkF m 217 #[.val (.ref r0), .val (.int x1), .val (.int x2), .val (.int j), .val (.int a), .val (.int (4 : Int32)), .val (.int (128 : Int32)), .val (.int (191 : Int32)), .val (.int b), s9] []))
               refine own_st (fun t_ => XS.iloadN (own_here Y3) hx rfl (hb hby own_d2_217) rfl) ?_
               show own_Ends _ _ _ _ (T2.setTop (mkF m 218 #[.val (.ref r0), .val (.int x1), .val (.int x2), .val (.int j), .val (.int a), .val (.int (4 : Int32)), .val (.int (128 : Int32)), .val (.int (191 : Int32)), .val (.int b), s9] [(.int j)]))
               refine own_st (fun t_ => XS.iconst (own_here Y3) hx rfl (hb hby own_d2_218) ) ?_
               show own_Ends _ _ _ _ (T2.setTop (mkF m 219 #[.val (.ref r0), .val (.int x1), .val (.int x2), .val (.int j), .val (.int a), .val (.int (4 : Int32)), .val (.int (128 : Int32)), .val (.int (191 : Int32)), .val (.int b), s9] [(.int (2 : Int32)), (.int j)]))
               refine own_st (fun t_ => XS.iadd (own_here Y3) hx rfl (hb hby own_d2_219) rfl) ?_
               show own_Ends _ _ _ _ (T2.setTop (mkF m 220 #[.val (.ref r0), .val (.int x1), .val (.int x2), .val (.int j), .val (.int a), .val (.int (4 : Int32)), .val (.int (128 : Int32)), .val (.int (191 : Int32)), .val (.int b), s9] [(.int (j + (2 : Int32)))]))
               refine own_st (fun t_ => XS.istoreS (own_here Y3) hx rfl (hb hby own_d2_220) rfl rfl hs9) ?_
               show own_Ends _ _ _ _ (T2.setTop (mkF m 222 #[.val (.ref r0), .val (.int x1), .val (.int x2), .val (.int j), .val (.int a), .val (.int (4 : Int32)), .val (.int (128 : Int32)), .val (.int (191 : Int32)), .val (.int b), .val (.int (j + (2 : Int32)))] []))
               refine own_st (fun t_ => XS.iload (own_here Y3) hx rfl (hb hby own_d2_222) rfl) ?_
               show own_Ends _ _ _ _ (T2.setTop (mkF m 224 #[.val (.ref r0), .val (.int x1), .val (.int x2), .val (.int j), .val (.int a), .val (.int (4 : Int32)), .val (.int (128 : Int32)), .val (.int (191 : Int32)), .val (.int b), .val (.int (j + (2 : Int32)))] [(.int (j + (2 : Int32)))]))
               refine own_st (fun t_ => XS.iloadN (own_here Y3) hx rfl (hb hby own_d2_224) rfl) ?_
               show own_Ends _ _ _ _ (T2.setTop (mkF m 225 #[.val (.ref r0), .val (.int x1), .val (.int x2), .val (.int j), .val (.int a), .val (.int (4 : Int32)), .val (.int (128 : Int32)), .val (.int (191 : Int32)), .val (.int b), .val (.int (j + (2 : Int32)))] [(.int j), (.int (j + (2 : Int32)))]))
               refine own_st (fun t_ => XS.iload (own_here Y3) hx rfl (hb hby own_d2_225) rfl) ?_
               show own_Ends _ _ _ _ (T2.setTop (mkF m 227 #[.val (.ref r0), .val (.int x1), .val (.int x2), .val (.int j), .val (.int a), .val (.int (4 : Int32)), .val (.int (128 : Int32)), .val (.int (191 : Int32)), .val (.int b), .val (.int (j + (2 : Int32)))] [(.int (4 : Int32)), (.int j), (.int (j + (2 : Int32)))]))
               refine own_st (fun t_ => XS.iadd (own_here Y3) hx rfl (hb hby own_d2_227) rfl) ?_
               show own_Ends _ _ _ _ (T2.setTop (mkF m 228 #[.val (.ref r0), .val (.int x1), .val (.int x2), .val (.int j), .val (.int a), .val (.int (4 : Int32)), .val (.int (128 : Int32)), .val (.int (191 : Int32)), .val (.int b), .val (.int (j + (2 : Int32)))] [(.int (j + (4 : Int32))), (.int (j + (2 : Int32)))]))
               have ee0 := own_add hj own_l4 (by omega)
               refine own_st (fun t_ => XS.icmpNo (own_here Y3) hx rfl (hb hby own_d2_228) rfl (XT.ii_ge_f (by rw [own_lt, n2, ee0]; omega))) ?_
               show own_Ends _ _ _ _ (T2.setTop (mkF m 231 #[.val (.ref r0), .val (.int x1), .val (.int x2), .val (.int j), .val (.int a), .val (.int (4 : Int32)), .val (.int (128 : Int32)), .val (.int (191 : Int32)), .val (.int b), .val (.int (j + (2 : Int32)))] []))
               refine own_st (fun t_ => XS.aloadN (own_here Y3) hx rfl (hb hby own_d2_231) rfl rfl) ?_
               show own_Ends _ _ _ _ (T2.setTop (mkF m 232 #[.val (.ref r0), .val (.int x1), .val (.int x2), .val (.int j), .val (.int a), .val (.int (4 : Int32)), .val (.int (128 : Int32)), .val (.int (191 : Int32)), .val (.int b), .val (.int (j + (2 : Int32)))] [(.ref r0)]))
               refine own_st (fun t_ => XS.iload (own_here Y3) hx rfl (hb hby own_d2_232) rfl) ?_
               show own_Ends _ _ _ _ (T2.setTop (mkF m 234 #[.val (.ref r0), .val (.int x1), .val (.int x2), .val (.int j), .val (.int a), .val (.int (4 : Int32)), .val (.int (128 : Int32)), .val (.int (191 : Int32)), .val (.int b), .val (.int (j + (2 : Int32)))] [(.int (j + (2 : Int32))), (.ref r0)]))
               refine own_ldB Y3 hx hZ A (i := (i + 2)) n20 n21 (own_mlen (by omega)) (v := (.int (own_g xs (i + 2)))) (own_mget (own_mlen (by omega))) rfl rfl (hb hby own_d2_234) ?_
               show own_Ends _ _ _ _ (T2.setTop (mkF m 235 #[.val (.ref r0), .val (.int x1), .val (.int x2), .val (.int j), .val (.int a), .val (.int (4 : Int32)), .val (.int (128 : Int32)), .val (.int (191 : Int32)), .val (.int b), .val (.int (j + (2 : Int32)))] [(.int (own_g xs (i + 2)))]))
               refine own_st (fun t_ => XS.sipush (own_here Y3) hx rfl (hb hby own_d2_235) ) ?_
               show own_Ends _ _ _ _ (T2.setTop (mkF m 238 #[.val (.ref r0), .val (.int x1), .val (.int x2), .val (.int j), .val (.int a), .val (.int (4 : Int32)), .val (.int (128 : Int32)), .val (.int (191 : Int32)), .val (.int b), .val (.int (j + (2 : Int32)))] [(.int (192 : Int32)), (.int (own_g xs (i + 2)))]))
               refine own_st (fun t_ => XS.iand (own_here Y3) hx rfl (hb hby own_d2_238) rfl) ?_
               show own_Ends _ _ _ _ (T2.setTop (mkF m 239 #[.val (.ref r0), .val (.int x1), .val (.int x2), .val (.int j), .val (.int a), .val (.int (4 : Int32)), .val (.int (128 : Int32)), .val (.int (191 : Int32)), .val (.int b), .val (.int (j + (2 : Int32)))] [(.int ((own_g xs (i + 2)) &&& (192 : Int32)))]))
               refine own_st (fun t_ => XS.sipush (own_here Y3) hx rfl (hb hby own_d2_239) ) ?_
               show own_Ends _ _ _ _ (T2.setTop (mkF m 242 #[.val (.ref r0), .val (.int x1), .val (.int x2), .val (.int j), .val (.int a), .val (.int (4 : Int32)), .val (.int (128 : Int32)), .val (.int (191 : Int32)), .val (.int b), .val (.int (j + (2 : Int32)))] [(.int (128 : Int32)), (.int ((own_g xs (i + 2)) &&& (192 : Int32)))]))
               by_cases c242_25 : ((own_g xs (i + 2)) &&& (192 : Int32)) = (128 : Int32)
               ·
                refine own_st (fun t_ => XS.icmpYes (own_here Y3) hx rfl (pc0 := 242) (pc' := 247) rfl (hb hby own_d2_242) rfl (XT.ii_eq_t c242_25) (by decide) (by decide)) ?_
                show own_Ends _ _ _ _ (T2.setTop (mkF m 247 #[.val (.ref r0), .val (.int x1), .val (.int x2), .val (.int j), .val (.int a), .val (.int (4 : Int32)), .val (.int (128 : Int32)), .val (.int (191 : Int32)), .val (.int b), .val (.int (j + (2 : Int32)))] []))
                refine own_st (fun t_ => XS.iinc (own_here Y3) hx rfl (hb hby own_d2_247) rfl (l' := #[.val (.ref r0), .val (.int x1), .val (.int x2), .val (.int j), .val (.int a), .val (.int (4 : Int32)), .val (.int (128 : Int32)), .val (.int (191 : Int32)), .val (.int b), .val (.int ((j + (2 : Int32)) + (1 : Int32)))]) rfl) ?_
                show own_Ends _ _ _ _ (T2.setTop (mkF m 250 #[.val (.ref r0), .val (.int x1), .val (.int x2), .val (.int j), .val (.int a), .val (.int (4 : Int32)), .val (.int (128 : Int32)), .val (.int (191 : Int32)), .val (.int b), .val (.int ((j + (2 : Int32)) + (1 : Int32)))] []))
                refine own_st (fun t_ => XS.goto (own_here Y3) hx rfl (pc0 := 250) (pc' := 222) rfl (hb hby own_d2_250) (by decide) (by decide)) ?_
                show own_Ends _ _ _ _ (T2.setTop (mkF m 222 #[.val (.ref r0), .val (.int x1), .val (.int x2), .val (.int j), .val (.int a), .val (.int (4 : Int32)), .val (.int (128 : Int32)), .val (.int (191 : Int32)), .val (.int b), .val (.int ((j + (2 : Int32)) + (1 : Int32)))] []))
                refine own_st (fun t_ => XS.iload (own_here Y3) hx rfl (hb hby own_d2_222) rfl) ?_
                show own_Ends _ _ _ _ (T2.setTop (mkF m 224 #[.val (.ref r0), .val (.int x1), .val (.int x2), .val (.int j), .val (.int a), .val (.int (4 : Int32)), .val (.int (128 : Int32)), .val (.int (191 : Int32)), .val (.int b), .val (.int ((j + (2 : Int32)) + (1 : Int32)))] [(.int ((j + (2 : Int32)) + (1 : Int32)))]))
                refine own_st (fun t_ => XS.iloadN (own_here Y3) hx rfl (hb hby own_d2_224) rfl) ?_
                show own_Ends _ _ _ _ (T2.setTop (mkF m 225 #[.val (.ref r0), .val (.int x1), .val (.int x2), .val (.int j), .val (.int a), .val (.int (4 : Int32)), .val (.int (128 : Int32)), .val (.int (191 : Int32)), .val (.int b), .val (.int ((j + (2 : Int32)) + (1 : Int32)))] [(.int j), (.int ((j + (2 : Int32)) + (1 : Int32)))]))
                refine own_st (fun t_ => XS.iload (own_here Y3) hx rfl (hb hby own_d2_225) rfl) ?_
                show own_Ends _ _ _ _ (T2.setTop (mkF m 227 #[.val (.ref r0), .val (.int x1), .val (.int x2), .val (.int j), .val (.int a), .val (.int (4 : Int32)), .val (.int (128 : Int32)), .val (.int (191 : Int32)), .val (.int b), .val (.int ((j + (2 : Int32)) + (1 : Int32)))] [(.int (4 : Int32)), (.int j), (.int ((j + (2 : Int32)) + (1 : Int32)))]))
                refine own_st (fun t_ => XS.iadd (own_here Y3) hx rfl (hb hby own_d2_227) rfl) ?_
                show own_Ends _ _ _ _ (T2.setTop (mkF m 228 #[.val (.ref r0), .val (.int x1), .val (.int x2), .val (.int j), .val (.int a), .val (.int (4 : Int32)), .val (.int (128 : Int32)), .val (.int (191 : Int32)), .val (.int b), .val (.int ((j + (2 : Int32)) + (1 : Int32)))] [(.int (j + (4 : Int32))), (.int ((j + (2 : Int32)) + (1 : Int32)))]))
                have ee1 := own_add hj own_l4 (by omega)
                refine own_st (fun t_ => XS.icmpNo (own_here Y3) hx rfl (hb hby own_d2_228) rfl (XT.ii_ge_f (by rw [own_lt, n3, ee1]; omega))) ?_
                show own_Ends _ _ _ _ (T2.setTop (mkF m 231 #[.val (.ref r0), .val (.int x1), .val (.int x2), .val (.int j), .val (.int a), .val (.int (4 : Int32)), .val (.int (128 : Int32)), .val (.int (191 : Int32)), .val (.int b), .val (.int ((j + (2 : Int32)) + (1 : Int32)))] []))
                refine own_st (fun t_ => XS.aloadN (own_here Y3) hx rfl (hb hby own_d2_231) rfl rfl) ?_
                show own_Ends _ _ _ _ (T2.setTop (mkF m 232 #[.val (.ref r0), .val (.int x1), .val (.int x2), .val (.int j), .val (.int a), .val (.int (4 : Int32)), .val (.int (128 : Int32)), .val (.int (191 : Int32)), .val (.int b), .val (.int ((j + (2 : Int32)) + (1 : Int32)))] [(.ref r0)]))
                refine own_st (fun t_ => XS.iload (own_here Y3) hx rfl (hb hby own_d2_232) rfl) ?_
                show own_Ends _ _ _ _ (T2.setTop (mkF m 234 #[.val (.ref r0), .val (.int x1), .val (.int x2), .val (.int j), .val (.int a), .val (.int (4 : Int32)), .val (.int (128 : Int32)), .val (.int (191 : Int32)), .val (.int b), .val (.int ((j + (2 : Int32)) + (1 : Int32)))] [(.int ((j + (2 : Int32)) + (1 : Int32))), (.ref r0)]))
                refine own_ldB Y3 hx hZ A (i := (i + 2 + 1)) n30 n31 (own_mlen (by omega)) (v := (.int (own_g xs (i + 3)))) (own_mget (own_mlen (by omega))) rfl rfl (hb hby own_d2_234) ?_
                show own_Ends _ _ _ _ (T2.setTop (mkF m 235 #[.val (.ref r0), .val (.int x1), .val (.int x2), .val (.int j), .val (.int a), .val (.int (4 : Int32)), .val (.int (128 : Int32)), .val (.int (191 : Int32)), .val (.int b), .val (.int ((j + (2 : Int32)) + (1 : Int32)))] [(.int (own_g xs (i + 3)))]))
                refine own_st (fun t_ => XS.sipush (own_here Y3) hx rfl (hb hby own_d2_235) ) ?_
                show own_Ends _ _ _ _ (T2.setTop (mkF m 238 #[.val (.ref r0), .val (.int x1), .val (.int x2), .val (.int j), .val (.int a), .val (.int (4 : Int32)), .val (.int (128 : Int32)), .val (.int (191 : Int32)), .val (.int b), .val (.int ((j + (2 : Int32)) + (1 : Int32)))] [(.int (192 : Int32)), (.int (own_g xs (i + 3)))]))
                refine own_st (fun t_ => XS.iand (own_here Y3) hx rfl (hb hby own_d2_238) rfl) ?_
                show own_Ends _ _ _ _ (T2.setTop (mkF m 239 #[.val (.ref r0), .val (.int x1), .val (.int x2), .val (.int j), .val (.int a), .val (.int (4 : Int32)), .val (.int (128 : Int32)), .val (.int (191 : Int32)), .val (.int b), .val (.int ((j + (2 : Int32)) + (1 : Int32)))] [(.int ((own_g xs (i + 3)) &&& (192 : Int32)))]))
                refine own_st (fun t_ => XS.sipush (own_here Y3) hx rfl (hb hby own_d2_239) ) ?_
                show own_Ends _ _ _ _ (T2.setTop (mkF m 242 #[.val (.ref r0), .val (.int x1), .val (.int x2), .val (.int j), .val (.int a), .val (.int (4 : Int32)), .val (.int (128 : Int32)), .val (.int (191 : Int32)), .val (.int b), .val (.int ((j + (2 : Int32)) + (1 : Int32)))] [(.int (128 : Int32)), (.int ((own_g xs (i + 3)) &&& (192 : Int32)))]))
                by_cases c242_26 : ((own_g xs (i + 3)) &&& (192 : Int32)) = (128 : Int32)
                ·
                 refine own_st (fun t_ => XS.icmpYes (own_here Y3) hx rfl (pc0 := 242) (pc' := 247) rfl (hb hby own_d2_242) rfl (XT.ii_eq_t c242_26) (by decide) (by decide)) ?_
                 show own_Ends _ _ _ _ (T2.setTop (mkF m 247 #[.val (.ref r0), .val (.int x1), .val (.int x2), .val (.int j), .val (.int a), .val (.int (4 : Int32)), .val (.int (128 : Int32)), .val (.int (191 : Int32)), .val (.int b), .val (.int ((j + (2 : Int32)) + (1 : Int32)))] []))
                 refine own_st (fun t_ => XS.iinc (own_here Y3) hx rfl (hb hby own_d2_247) rfl (l' := #[.val (.ref r0), .val (.int x1), .val (.int x2), .val (.int j), .val (.int a), .val (.int (4 : Int32)), .val (.int (128 : Int32)), .val (.int (191 : Int32)), .val (.int b), .val (.int (((j + (2 : Int32)) + (1 : Int32)) + (1 : Int32)))]) rfl) ?_
                 show own_Ends _ _ _ _ (T2.setTop (mkF m 250 #[.val (.ref r0), .val (.int x1), .val (.int x2), .val (.int j), .val (.int a), .val (.int (4 : Int32)), .val (.int (128 : Int32)), .val (.int (191 : Int32)), .val (.int b), .val (.int (((j + (2 : Int32)) + (1 : Int32)) + (1 : Int32)))] []))
                 refine own_st (fun t_ => XS.goto (own_here Y3) hx rfl (pc0 := 250) (pc' := 222) rfl (hb hby own_d2_250) (by decide) (by decide)) ?_
                 show own_Ends _ _ _ _ (T2.setTop (mkF m 222 #[.val (.ref r0), .val (.int x1), .val (.int x2), .val (.int j), .val (.int a), .val (.int (4 : Int32)), .val (.int (128 : Int32)), .val (.int (191 : Int32)), .val (.int b), .val (.int (((j + (2 : Int32)) + (1 : Int32)) + (1 : Int32)))] []))
                 refine own_st (fun t_ => XS.iload (own_here Y3) hx rfl (hb hby own_d2_222) rfl) ?_
                 show own_Ends _ _ _ _ (T2.setTop (mkF m 224 #[.val (.ref r0), .val (.int x1), .val (.int x2), .val (.int j), .val (.int a), .val (.int (4 : Int32)), .val (.int (128 : Int32)), .val (.int (191 : Int32)), .val (.int b), .val (.int (((j + (2 : Int32)) + (1 : Int32)) + (1 : Int32)))] [(.int (((j + (2 : Int32)) + (1 : Int32)) + (1 : Int32)))]))
                 refine own_st (fun t_ => XS.iloadN (own_here Y3) hx rfl (hb hby own_d2_224) rfl) ?_
                 show own_Ends _ _ _ _ (T2.setTop (mkF m 225 #[.val (.ref r0), .val (.int x1), .val (.int x2), .val (.int j), .val (.int a), .val (.int (4 : Int32)), .val (.int (128 : Int32)), .val (.int (191 : Int32)), .val (.int b), .val (.int (((j + (2 : Int32)) + (1 : Int32)) + (1 : Int32)))] [(.int j), (.int (((j + (2 : Int32)) + (1 : Int32)) + (1 : Int32)))]))
                 refine own_st (fun t_ => XS.iload (own_here Y3) hx rfl (hb hby own_d2_225) rfl) ?_
                 show own_Ends _ _ _ _ (T2.setTop (mkF m 227 #[.val (.ref r0), .val (.int x1), .val (.int x2), .val (.int j), .val (.int a), .val (.int (4 : Int32)), .val (.int (128 : Int32)), .val (.int (191 : Int32)), .val (.int b), .val (.int (((j + (2 : Int32)) + (1 : Int32)) + (1 : Int32)))] [(.int (4 : Int32)), (.int j), (.int (((j + (2 : Int32)) + (1 : Int32)) + (1 : Int32)))]))
                 refine own_st (fun t_ => XS.iadd (own_here Y3) hx rfl (hb hby own_d2_227) rfl) ?_
                 show own_Ends _ _ _ _ (T2.setTop (mkF m 228 #[.val (.ref r0), .val (.int x1), .val (.int x2), .val (.int j), .val (.int a), .val (.int (4 : Int32)), .val (.int (128 : Int32)), .val (.int (191 : Int32)), .val (.int b), .val (.int (((j + (2 : Int32)) + (1 : Int32)) + (1 : Int32)))] [(.int (j + (4 : Int32))), (.int (((j + (2 : Int32)) + (1 : Int32)) + (1 : Int32)))]))
                 have ee2 := own_add hj own_l4 (by omega)
                 refine own_st (fun t_ => XS.icmpYes (own_here Y3) hx rfl (pc0 := 228) (pc' := 253) rfl (hb hby own_d2_228) rfl (XT.ii_ge_t (by rw [own_lt, (own_add n3 own_l1 (by omega)), ee2]; omega)) (by decide) (by decide)) ?_
                 show own_Ends _ _ _ _ (T2.setTop (mkF m 253 #[.val (.ref r0), .val (.int x1), .val (.int x2), .val (.int j), .val (.int a), .val (.int (4 : Int32)), .val (.int (128 : Int32)), .val (.int (191 : Int32)), .val (.int b), .val (.int (((j + (2 : Int32)) + (1 : Int32)) + (1 : Int32)))] []))
                 refine own_st (fun t_ => XS.iloadN (own_here Y3) hx rfl (hb hby own_d2_253) rfl) ?_
                 show own_Ends _ _ _ _ (T2.setTop (mkF m 254 #[.val (.ref r0), .val (.int x1), .val (.int x2), .val (.int j), .val (.int a), .val (.int (4 : Int32)), .val (.int (128 : Int32)), .val (.int (191 : Int32)), .val (.int b), .val (.int (((j + (2 : Int32)) + (1 : Int32)) + (1 : Int32)))] [(.int j)]))
                 refine own_st (fun t_ => XS.iload (own_here Y3) hx rfl (hb hby own_d2_254) rfl) ?_
                 show own_Ends _ _ _ _ (T2.setTop (mkF m 256 #[.val (.ref r0), .val (.int x1), .val (.int x2), .val (.int j), .val (.int a), .val (.int (4 : Int32)), .val (.int (128 : Int32)), .val (.int (191 : Int32)), .val (.int b), .val (.int (((j + (2 : Int32)) + (1 : Int32)) + (1 : Int32)))] [(.int (4 : Int32)), (.int j)]))
                 refine own_st (fun t_ => XS.iadd (own_here Y3) hx rfl (hb hby own_d2_256) rfl) ?_
                 show own_Ends _ _ _ _ (T2.setTop (mkF m 257 #[.val (.ref r0), .val (.int x1), .val (.int x2), .val (.int j), .val (.int a), .val (.int (4 : Int32)), .val (.int (128 : Int32)), .val (.int (191 : Int32)), .val (.int b), .val (.int (((j + (2 : Int32)) + (1 : Int32)) + (1 : Int32)))] [(.int (j + (4 : Int32)))]))
                 refine own_st (fun t_ => XS.istoreN (own_here Y3) hx rfl (hb hby own_d2_257) rfl (l' := #[.val (.ref r0), .val (.int x1), .val (.int x2), .val (.int (j + (4 : Int32))), .val (.int a), .val (.int (4 : Int32)), .val (.int (128 : Int32)), .val (.int (191 : Int32)), .val (.int b), .val (.int (((j + (2 : Int32)) + (1 : Int32)) + (1 : Int32)))]) rfl) ?_
                 show own_Ends _ _ _ _ (T2.setTop (mkF m 258 #[.val (.ref r0), .val (.int x1), .val (.int x2), .val (.int (j + (4 : Int32))), .val (.int a), .val (.int (4 : Int32)), .val (.int (128 : Int32)), .val (.int (191 : Int32)), .val (.int b), .val (.int (((j + (2 : Int32)) + (1 : Int32)) + (1 : Int32)))] []))
                 refine own_st (fun t_ => XS.goto (own_here Y3) hx rfl (pc0 := 258) (pc' := 2) rfl (hb hby own_d2_258) (by decide) (by decide)) ?_
                 show own_Ends _ _ _ _ (T2.setTop (mkF m 2 #[.val (.ref r0), .val (.int x1), .val (.int x2), .val (.int (j + (4 : Int32))), .val (.int a), .val (.int (4 : Int32)), .val (.int (128 : Int32)), .val (.int (191 : Int32)), .val (.int b), .val (.int (((j + (2 : Int32)) + (1 : Int32)) + (1 : Int32)))] []))
                 have g2 := (own_cont (hB (i + 2))).mp c242_25; have g2' : 128 ≤ own_u xs (i + 2) ∧ own_u xs (i + 2) ≤ 191 := g2
                 have g3 := (own_cont (hB (i + 3))).mp c242_26; have g3' : 128 ≤ own_u xs (i + 3) ∧ own_u xs (i + 3) ≤ 191 := g3
                 have c21_5t := c21_5; simp only [own_lt] at c21_5t
                 have c45_6t := c45_6; simp only [own_lt] at c45_6t
                 have c53_7t := c53_7; simp only [own_lt] at c53_7t
                 have c75_8t := c75_8; simp only [own_lt] at c75_8t
                 have c133_9t := c133_9; simp only [own_lt] at c133_9t
                 have c144_10t := c144_10; simp only [own_eq] at c144_10t
                 have c162_16t := c162_16; simp only [own_eq] at c162_16t
                 have c205_23t := c205_23; simp only [own_lt] at c205_23t
                 have c212_24t := c212_24; simp only [own_lt] at c212_24t
                 have ra := own_u_rng xs i; rw [ua] at ra
                 have f1 : (own_A1 (own_u xs i)) = false := by simp only [own_A1, ua, decide_eq_false_iff_not]; omega
                 have f2 : (decide (i + 2 ≤ t) && own_A2 (own_u xs i) (own_u xs (i + 1))) = false := by simp only [own_A2, ua, u1, Bool.and_eq_false_iff, decide_eq_false_iff_not]; omega
                 have f3 : (decide (i + 3 ≤ t) && own_A3 (own_u xs i) (own_u xs (i + 1)) (own_u xs (i + 2))) = false := by simp only [own_A3, ua, u1, Bool.and_eq_false_iff, decide_eq_false_iff_not]; omega
                 have f4 : (decide (i + 4 ≤ t) && own_A4 (own_u xs i) (own_u xs (i + 1)) (own_u xs (i + 2)) (own_u xs (i + 3))) = true := by simp only [own_A4, ua, u1, Bool.and_eq_true, decide_eq_true_eq]; omega
                 have hR2 : own_V (own_u xs) t (k - 1) (i + 4) = R := by
                   rw [← hR]; obtain ⟨k', rfl⟩ : ∃ k', k = k' + 1 := ⟨k - 1, by omega⟩
                   have hti : decide (t ≤ i) = false := by simp only [decide_eq_false_iff_not]; omega
                   simp only [own_V, Nat.add_sub_cancel, hti, f1, f2, f3, f4, Bool.false_and, Bool.true_and, Bool.or_false, Bool.false_or]
                 exact ih (k - 1) (by omega) T2  (i + 4) ((j + (4 : Int32))) (.val (.int a)) (.val (.int (4 : Int32))) (.val (.int (128 : Int32))) (.val (.int (191 : Int32))) (.val (.int b)) (.val (.int (((j + (2 : Int32)) + (1 : Int32)) + (1 : Int32)))) Y3  (own_add hj own_l4 (by omega)) (by omega) (by omega) hR2 (One.val rfl) (One.val rfl) (One.val rfl) (One.val rfl) (One.val rfl) (One.val rfl)
                ·
                 refine own_st (fun t_ => XS.icmpNo (own_here Y3) hx rfl (hb hby own_d2_242) rfl (XT.ii_eq_f c242_26)) ?_
                 show own_Ends _ _ _ _ (T2.setTop (mkF m 245 #[.val (.ref r0), .val (.int x1), .val (.int x2), .val (.int j), .val (.int a), .val (.int (4 : Int32)), .val (.int (128 : Int32)), .val (.int (191 : Int32)), .val (.int b), .val (.int ((j + (2 : Int32)) + (1 : Int32)))] []))
                 refine own_st (fun t_ => XS.iconst (own_here Y3) hx rfl (hb hby own_d2_245) ) ?_
                 show own_Ends _ _ _ _ (T2.setTop (mkF m 246 #[.val (.ref r0), .val (.int x1), .val (.int x2), .val (.int j), .val (.int a), .val (.int (4 : Int32)), .val (.int (128 : Int32)), .val (.int (191 : Int32)), .val (.int b), .val (.int ((j + (2 : Int32)) + (1 : Int32)))] [(.int (0 : Int32))]))
                 have hc := mt (own_cont (hB (i + 3))).mpr c242_26; have hc' : ¬ (128 ≤ own_u xs (i + 3) ∧ own_u xs (i + 3) ≤ 191) := hc
                 have g2 := (own_cont (hB (i + 2))).mp c242_25; have g2' : 128 ≤ own_u xs (i + 2) ∧ own_u xs (i + 2) ≤ 191 := g2
                 have c21_5t := c21_5; simp only [own_lt] at c21_5t
                 have c45_6t := c45_6; simp only [own_lt] at c45_6t
                 have c53_7t := c53_7; simp only [own_lt] at c53_7t
                 have c75_8t := c75_8; simp only [own_lt] at c75_8t
                 have c133_9t := c133_9; simp only [own_lt] at c133_9t
                 have c144_10t := c144_10; simp only [own_eq] at c144_10t
                 have c162_16t := c162_16; simp only [own_eq] at c162_16t
                 have c205_23t := c205_23; simp only [own_lt] at c205_23t
                 have c212_24t := c212_24; simp only [own_lt] at c212_24t
                 have ra := own_u_rng xs i; rw [ua] at ra
                 have f1 : (own_A1 (own_u xs i)) = false := by simp only [own_A1, ua, decide_eq_false_iff_not]; omega
                 have f2 : (decide (i + 2 ≤ t) && own_A2 (own_u xs i) (own_u xs (i + 1))) = false := by simp only [own_A2, ua, u1, Bool.and_eq_false_iff, decide_eq_false_iff_not]; omega
                 have f3 : (decide (i + 3 ≤ t) && own_A3 (own_u xs i) (own_u xs (i + 1)) (own_u xs (i + 2))) = false := by simp only [own_A3, ua, u1, Bool.and_eq_false_iff, decide_eq_false_iff_not]; omega
                 have f4 : (decide (i + 4 ≤ t) && own_A4 (own_u xs i) (own_u xs (i + 1)) (own_u xs (i + 2)) (own_u xs (i + 3))) = false := by simp only [own_A4, ua, u1, Bool.and_eq_false_iff, decide_eq_false_iff_not]; omega
                 refine own_retN Y3 hx hlk (t := .boolean) hret (by simp) (hb hby own_d2_246) (by decide) (by decide) ?_
                 refine ⟨?_, rfl⟩
                 have : own_V (own_u xs) t (t - f) f = false := by
                   rw [hR0, ← hR]; obtain ⟨k', rfl⟩ : ∃ k', k = k' + 1 := ⟨k - 1, by omega⟩
                   have hti : decide (t ≤ i) = false := by simp only [decide_eq_false_iff_not]; omega
                   simp only [own_V, hti, f1, f2, f3, f4, Bool.false_and, Bool.or_false, Bool.false_or]
                 rw [this]; rfl
               ·
                refine own_st (fun t_ => XS.icmpNo (own_here Y3) hx rfl (hb hby own_d2_242) rfl (XT.ii_eq_f c242_25)) ?_
                show own_Ends _ _ _ _ (T2.setTop (mkF m 245 #[.val (.ref r0), .val (.int x1), .val (.int x2), .val (.int j), .val (.int a), .val (.int (4 : Int32)), .val (.int (128 : Int32)), .val (.int (191 : Int32)), .val (.int b), .val (.int (j + (2 : Int32)))] []))
                refine own_st (fun t_ => XS.iconst (own_here Y3) hx rfl (hb hby own_d2_245) ) ?_
                show own_Ends _ _ _ _ (T2.setTop (mkF m 246 #[.val (.ref r0), .val (.int x1), .val (.int x2), .val (.int j), .val (.int a), .val (.int (4 : Int32)), .val (.int (128 : Int32)), .val (.int (191 : Int32)), .val (.int b), .val (.int (j + (2 : Int32)))] [(.int (0 : Int32))]))
                have hc := mt (own_cont (hB (i + 2))).mpr c242_25; have hc' : ¬ (128 ≤ own_u xs (i + 2) ∧ own_u xs (i + 2) ≤ 191) := hc
                have c21_5t := c21_5; simp only [own_lt] at c21_5t
                have c45_6t := c45_6; simp only [own_lt] at c45_6t
                have c53_7t := c53_7; simp only [own_lt] at c53_7t
                have c75_8t := c75_8; simp only [own_lt] at c75_8t
                have c133_9t := c133_9; simp only [own_lt] at c133_9t
                have c144_10t := c144_10; simp only [own_eq] at c144_10t
                have c162_16t := c162_16; simp only [own_eq] at c162_16t
                have c205_23t := c205_23; simp only [own_lt] at c205_23t
                have c212_24t := c212_24; simp only [own_lt] at c212_24t
                have ra := own_u_rng xs i; rw [ua] at ra
                have f1 : (own_A1 (own_u xs i)) = false := by simp only [own_A1, ua, decide_eq_false_iff_not]; omega
                have f2 : (decide (i + 2 ≤ t) && own_A2 (own_u xs i) (own_u xs (i + 1))) = false := by simp only [own_A2, ua, u1, Bool.and_eq_false_iff, decide_eq_false_iff_not]; omega
                have f3 : (decide (i + 3 ≤ t) && own_A3 (own_u xs i) (own_u xs (i + 1)) (own_u xs (i + 2))) = false := by simp only [own_A3, ua, u1, Bool.and_eq_false_iff, decide_eq_false_iff_not]; omega
                have f4 : (decide (i + 4 ≤ t) && own_A4 (own_u xs i) (own_u xs (i + 1)) (own_u xs (i + 2)) (own_u xs (i + 3))) = false := by simp only [own_A4, ua, u1, Bool.and_eq_false_iff, decide_eq_false_iff_not]; omega
                refine own_retN Y3 hx hlk (t := .boolean) hret (by simp) (hb hby own_d2_246) (by decide) (by decide) ?_
                refine ⟨?_, rfl⟩
                have : own_V (own_u xs) t (t - f) f = false := by
                  rw [hR0, ← hR]; obtain ⟨k', rfl⟩ : ∃ k', k = k' + 1 := ⟨k - 1, by omega⟩
                  have hti : decide (t ≤ i) = false := by simp only [decide_eq_false_iff_not]; omega
                  simp only [own_V, hti, f1, f2, f3, f4, Bool.false_and, Bool.or_false, Bool.false_or]
                rw [this]; rfl
        ·
         refine own_st (fun t_ => XS.icmpNo (own_here Y3) hx rfl (hb hby own_d2_75) rfl (XT.ii_gt_f c75_8)) ?_
         show own_Ends _ _ _ _ (T2.setTop (mkF m 78 #[.val (.ref r0), .val (.int x1), .val (.int x2), .val (.int j), .val (.int a), s5, .val (.int (128 : Int32)), .val (.int (191 : Int32)), s8, s9] []))
         refine own_st (fun t_ => XS.iconst (own_here Y3) hx rfl (hb hby own_d2_78) ) ?_
         show own_Ends _ _ _ _ (T2.setTop (mkF m 79 #[.val (.ref r0), .val (.int x1), .val (.int x2), .val (.int j), .val (.int a), s5, .val (.int (128 : Int32)), .val (.int (191 : Int32)), s8, s9] [(.int (3 : Int32))]))
         refine own_st (fun t_ => XS.istoreS (own_here Y3) hx rfl (hb hby own_d2_79) rfl rfl hs5) ?_
         show own_Ends _ _ _ _ (T2.setTop (mkF m 81 #[.val (.ref r0), .val (.int x1), .val (.int x2), .val (.int j), .val (.int a), .val (.int (3 : Int32)), .val (.int (128 : Int32)), .val (.int (191 : Int32)), s8, s9] []))
         refine own_st (fun t_ => XS.iload (own_here Y3) hx rfl (hb hby own_d2_81) rfl) ?_
         show own_Ends _ _ _ _ (T2.setTop (mkF m 83 #[.val (.ref r0), .val (.int x1), .val (.int x2), .val (.int j), .val (.int a), .val (.int (3 : Int32)), .val (.int (128 : Int32)), .val (.int (191 : Int32)), s8, s9] [(.int a)]))
         refine own_st (fun t_ => XS.sipush (own_here Y3) hx rfl (hb hby own_d2_83) ) ?_
         show own_Ends _ _ _ _ (T2.setTop (mkF m 86 #[.val (.ref r0), .val (.int x1), .val (.int x2), .val (.int j), .val (.int a), .val (.int (3 : Int32)), .val (.int (128 : Int32)), .val (.int (191 : Int32)), s8, s9] [(.int (224 : Int32)), (.int a)]))
         by_cases c86_27 : a = (224 : Int32)
         ·
          refine own_st (fun t_ => XS.icmpNo (own_here Y3) hx rfl (hb hby own_d2_86) rfl (XT.ii_ne_f c86_27)) ?_
          show own_Ends _ _ _ _ (T2.setTop (mkF m 89 #[.val (.ref r0), .val (.int x1), .val (.int x2), .val (.int j), .val (.int a), .val (.int (3 : Int32)), .val (.int (128 : Int32)), .val (.int (191 : Int32)), s8, s9] []))
          refine own_st (fun t_ => XS.sipush (own_here Y3) hx rfl (hb hby own_d2_89) ) ?_
          show own_Ends _ _ _ _ (T2.setTop (mkF m 92 #[.val (.ref r0), .val (.int x1), .val (.int x2), .val (.int j), .val (.int a), .val (.int (3 : Int32)), .val (.int (128 : Int32)), .val (.int (191 : Int32)), s8, s9] [(.int (160 : Int32))]))
          refine own_st (fun t_ => XS.goto (own_here Y3) hx rfl (pc0 := 92) (pc' := 97) rfl (hb hby own_d2_92) (by decide) (by decide)) ?_
          show own_Ends _ _ _ _ (T2.setTop (mkF m 97 #[.val (.ref r0), .val (.int x1), .val (.int x2), .val (.int j), .val (.int a), .val (.int (3 : Int32)), .val (.int (128 : Int32)), .val (.int (191 : Int32)), s8, s9] [(.int (160 : Int32))]))
          refine own_st (fun t_ => XS.istore (own_here Y3) hx rfl (hb hby own_d2_97) rfl (l' := #[.val (.ref r0), .val (.int x1), .val (.int x2), .val (.int j), .val (.int a), .val (.int (3 : Int32)), .val (.int (160 : Int32)), .val (.int (191 : Int32)), s8, s9]) rfl) ?_
          show own_Ends _ _ _ _ (T2.setTop (mkF m 99 #[.val (.ref r0), .val (.int x1), .val (.int x2), .val (.int j), .val (.int a), .val (.int (3 : Int32)), .val (.int (160 : Int32)), .val (.int (191 : Int32)), s8, s9] []))
          refine own_st (fun t_ => XS.iload (own_here Y3) hx rfl (hb hby own_d2_99) rfl) ?_
          show own_Ends _ _ _ _ (T2.setTop (mkF m 101 #[.val (.ref r0), .val (.int x1), .val (.int x2), .val (.int j), .val (.int a), .val (.int (3 : Int32)), .val (.int (160 : Int32)), .val (.int (191 : Int32)), s8, s9] [(.int a)]))
          refine own_st (fun t_ => XS.sipush (own_here Y3) hx rfl (hb hby own_d2_101) ) ?_
          show own_Ends _ _ _ _ (T2.setTop (mkF m 104 #[.val (.ref r0), .val (.int x1), .val (.int x2), .val (.int j), .val (.int a), .val (.int (3 : Int32)), .val (.int (160 : Int32)), .val (.int (191 : Int32)), s8, s9] [(.int (237 : Int32)), (.int a)]))
          refine own_st (fun t_ => XS.icmpYes (own_here Y3) hx rfl (pc0 := 104) (pc' := 113) rfl (hb hby own_d2_104) rfl (XT.ii_ne_t (by have q0 := c21_5; have q1 := c45_6; have q2 := c53_7; have q3 := c75_8; have q4 := c86_27; have e0 : (128 : Int32).toInt = 128 := rfl; have e1 : (194 : Int32).toInt = 194 := rfl; have e2 : (223 : Int32).toInt = 223 := rfl; have e3 : (224 : Int32).toInt = 224 := rfl; have e4 : (237 : Int32).toInt = 237 := rfl; have e5 : (239 : Int32).toInt = 239 := rfl; have rr := hra; simp only [own_lt, own_eq] at q0 q1 q2 q3 q4 ⊢; omega)) (by decide) (by decide)) ?_
          show own_Ends _ _ _ _ (T2.setTop (mkF m 113 #[.val (.ref r0), .val (.int x1), .val (.int x2), .val (.int j), .val (.int a), .val (.int (3 : Int32)), .val (.int (160 : Int32)), .val (.int (191 : Int32)), s8, s9] []))
          refine own_st (fun t_ => XS.iload (own_here Y3) hx rfl (hb hby own_d2_113) rfl) ?_
          show own_Ends _ _ _ _ (T2.setTop (mkF m 115 #[.val (.ref r0), .val (.int x1), .val (.int x2), .val (.int j), .val (.int a), .val (.int (3 : Int32)), .val (.int (160 : Int32)), .val (.int (191 : Int32)), s8, s9] [(.int (191 : Int32))]))
          refine own_st (fun t_ => XS.istore (own_here Y3) hx rfl (hb hby own_d2_115) rfl (l' := #[.val (.ref r0), .val (.int x1), .val (.int x2), .val (.int j), .val (.int a), .val (.int (3 : Int32)), .val (.int (160 : Int32)), .val (.int (191 : Int32)), s8, s9]) rfl) ?_
          show own_Ends _ _ _ _ (T2.setTop (mkF m 117 #[.val (.ref r0), .val (.int x1), .val (.int x2), .val (.int j), .val (.int a), .val (.int (3 : Int32)), .val (.int (160 : Int32)), .val (.int (191 : Int32)), s8, s9] []))
          refine own_st (fun t_ => XS.goto (own_here Y3) hx rfl (pc0 := 117) (pc' := 180) rfl (hb hby own_d2_117) (by decide) (by decide)) ?_
          show own_Ends _ _ _ _ (T2.setTop (mkF m 180 #[.val (.ref r0), .val (.int x1), .val (.int x2), .val (.int j), .val (.int a), .val (.int (3 : Int32)), .val (.int (160 : Int32)), .val (.int (191 : Int32)), s8, s9] []))
          refine own_st (fun t_ => XS.iloadN (own_here Y3) hx rfl (hb hby own_d2_180) rfl) ?_
          show own_Ends _ _ _ _ (T2.setTop (mkF m 181 #[.val (.ref r0), .val (.int x1), .val (.int x2), .val (.int j), .val (.int a), .val (.int (3 : Int32)), .val (.int (160 : Int32)), .val (.int (191 : Int32)), s8, s9] [(.int x2)]))
          refine own_st (fun t_ => XS.iloadN (own_here Y3) hx rfl (hb hby own_d2_181) rfl) ?_
          show own_Ends _ _ _ _ (T2.setTop (mkF m 182 #[.val (.ref r0), .val (.int x1), .val (.int x2), .val (.int j), .val (.int a), .val (.int (3 : Int32)), .val (.int (160 : Int32)), .val (.int (191 : Int32)), s8, s9] [(.int j), (.int x2)]))
          refine own_st (fun t_ => XS.isub (own_here Y3) hx rfl (hb hby own_d2_182) rfl) ?_
          show own_Ends _ _ _ _ (T2.setTop (mkF m 183 #[.val (.ref r0), .val (.int x1), .val (.int x2), .val (.int j), .val (.int a), .val (.int (3 : Int32)), .val (.int (160 : Int32)), .val (.int (191 : Int32)), s8, s9] [(.int (x2 - j))]))
          refine own_st (fun t_ => XS.iload (own_here Y3) hx rfl (hb hby own_d2_183) rfl) ?_
          show own_Ends _ _ _ _ (T2.setTop (mkF m 185 #[.val (.ref r0), .val (.int x1), .val (.int x2), .val (.int j), .val (.int a), .val (.int (3 : Int32)), .val (.int (160 : Int32)), .val (.int (191 : Int32)), s8, s9] [(.int (3 : Int32)), (.int (x2 - j))]))
          by_cases c185_28 : (x2 - j) < (3 : Int32)
          ·
           refine own_st (fun t_ => XS.icmpNo (own_here Y3) hx rfl (hb hby own_d2_185) rfl (XT.ii_ge_f c185_28)) ?_
           show own_Ends _ _ _ _ (T2.setTop (mkF m 188 #[.val (.ref r0), .val (.int x1), .val (.int x2), .val (.int j), .val (.int a), .val (.int (3 : Int32)), .val (.int (160 : Int32)), .val (.int (191 : Int32)), s8, s9] []))
           refine own_st (fun t_ => XS.iconst (own_here Y3) hx rfl (hb hby own_d2_188) ) ?_
           show own_Ends _ _ _ _ (T2.setTop (mkF m 189 #[.val (.ref r0), .val (.int x1), .val (.int x2), .val (.int j), .val (.int a), .val (.int (3 : Int32)), .val (.int (160 : Int32)), .val (.int (191 : Int32)), s8, s9] [(.int (0 : Int32))]))
           have hroom : ¬ i + 3 ≤ t := by have := c185_28; rw [own_lt, own_sub ht hj] at this; have e : (3 : Int32).toInt = 3 := rfl; omega
           have c21_5t := c21_5; simp only [own_lt] at c21_5t
           have c45_6t := c45_6; simp only [own_lt] at c45_6t
           have c53_7t := c53_7; simp only [own_lt] at c53_7t
           have c75_8t := c75_8; simp only [own_lt] at c75_8t
           have c86_27t := c86_27; simp only [own_eq] at c86_27t
           have ra := own_u_rng xs i; rw [ua] at ra
           have f1 : (own_A1 (own_u xs i)) = false := by simp only [own_A1, ua, decide_eq_false_iff_not]; omega
           have f2 : (decide (i + 2 ≤ t) && own_A2 (own_u xs i) (own_u xs (i + 1))) = false := by simp only [own_A2, ua, Bool.and_eq_false_iff, decide_eq_false_iff_not]; omega
           have f3 : (decide (i + 3 ≤ t) && own_A3 (own_u xs i) (own_u xs (i + 1)) (own_u xs (i + 2))) = false := by simp only [own_A3, ua, Bool.and_eq_false_iff, decide_eq_false_iff_not]; omega
           have f4 : (decide (i + 4 ≤ t) && own_A4 (own_u xs i) (own_u xs (i + 1)) (own_u xs (i + 2)) (own_u xs (i + 3))) = false := by simp only [own_A4, ua, Bool.and_eq_false_iff, decide_eq_false_iff_not]; omega
           refine own_retN Y3 hx hlk (t := .boolean) hret (by simp) (hb hby own_d2_189) (by decide) (by decide) ?_
           refine ⟨?_, rfl⟩
           have : own_V (own_u xs) t (t - f) f = false := by
             rw [hR0, ← hR]; obtain ⟨k', rfl⟩ : ∃ k', k = k' + 1 := ⟨k - 1, by omega⟩
             have hti : decide (t ≤ i) = false := by simp only [decide_eq_false_iff_not]; omega
             simp only [own_V, hti, f1, f2, f3, f4, Bool.false_and, Bool.or_false, Bool.false_or]
           rw [this]; rfl
          ·
           refine own_st (fun t_ => XS.icmpYes (own_here Y3) hx rfl (pc0 := 185) (pc' := 190) rfl (hb hby own_d2_185) rfl (XT.ii_ge_t c185_28) (by decide) (by decide)) ?_
           show own_Ends _ _ _ _ (T2.setTop (mkF m 190 #[.val (.ref r0), .val (.int x1), .val (.int x2), .val (.int j), .val (.int a), .val (.int (3 : Int32)), .val (.int (160 : Int32)), .val (.int (191 : Int32)), s8, s9] []))
           have hroom : i + 3 ≤ t := by have := c185_28; rw [own_lt, own_sub ht hj] at this; have e : (3 : Int32).toInt = 3 := rfl; omega
           have n1 := own_add hj own_l1 (by omega)
           obtain ⟨n10, n11⟩ := own_nat n1
           have n2 := own_add hj own_l2 (by omega)
           obtain ⟨n20, n21⟩ := own_nat n2
           refine own_st (fun t_ => XS.aloadN (own_here Y3) hx rfl (hb hby own_d2_190) rfl rfl) ?_
           show own_Ends _ _ _ _ (T2.setTop (mkF m 191 #[.val (.ref r0), .val (.int x1), .val (.int x2), .val (.int j), .val (.int a), .val (.int (3 : Int32)), .val (.int (160 : Int32)), .val (.int (191 : Int32)), s8, s9] [(.ref r0)]))
           refine own_st (fun t_ => XS.iloadN (own_here Y3) hx rfl (hb hby own_d2_191) rfl) ?_
           show own_Ends _ _ _ _ (T2.setTop (mkF m 192 #[.val (.ref r0), .val (.int x1), .val (.int x2), .val (.int j), .val (.int a), .val (.int (3 : Int32)), .val (.int (160 : Int32)), .val (.int (191 : Int32)), s8, s9] [(.int j), (.ref r0)]))
           refine own_st (fun t_ => XS.iconst (own_here Y3) hx rfl (hb hby own_d2_192) ) ?_
           show own_Ends _ _ _ _ (T2.setTop (mkF m 193 #[.val (.ref r0), .val (.int x1), .val (.int x2), .val (.int j), .val (.int a), .val (.int (3 : Int32)), .val (.int (160 : Int32)), .val (.int (191 : Int32)), s8, s9] [(.int (1 : Int32)), (.int j), (.ref r0)]))
           refine own_st (fun t_ => XS.iadd (own_here Y3) hx rfl (hb hby own_d2_193) rfl) ?_
           show own_Ends _ _ _ _ (T2.setTop (mkF m 194 #[.val (.ref r0), .val (.int x1), .val (.int x2), .val (.int j), .val (.int a), .val (.int (3 : Int32)), .val (.int (160 : Int32)), .val (.int (191 : Int32)), s8, s9] [(.int (j + (1 : Int32))), (.ref r0)]))
           refine own_ldB Y3 hx hZ A (i := (i + 1)) n10 n11 (own_mlen (by omega)) (v := (.int (own_g xs (i + 1)))) (own_mget (own_mlen (by omega))) rfl rfl (hb hby own_d2_194) ?_
           show own_Ends _ _ _ _ (T2.setTop (mkF m 195 #[.val (.ref r0), .val (.int x1), .val (.int x2), .val (.int j), .val (.int a), .val (.int (3 : Int32)), .val (.int (160 : Int32)), .val (.int (191 : Int32)), s8, s9] [(.int (own_g xs (i + 1)))]))
           refine own_st (fun t_ => XS.sipush (own_here Y3) hx rfl (hb hby own_d2_195) ) ?_
           show own_Ends _ _ _ _ (T2.setTop (mkF m 198 #[.val (.ref r0), .val (.int x1), .val (.int x2), .val (.int j), .val (.int a), .val (.int (3 : Int32)), .val (.int (160 : Int32)), .val (.int (191 : Int32)), s8, s9] [(.int (255 : Int32)), (.int (own_g xs (i + 1)))]))
           refine own_st (fun t_ => XS.iand (own_here Y3) hx rfl (hb hby own_d2_198) rfl) ?_
           show own_Ends _ _ _ _ (T2.setTop (mkF m 199 #[.val (.ref r0), .val (.int x1), .val (.int x2), .val (.int j), .val (.int a), .val (.int (3 : Int32)), .val (.int (160 : Int32)), .val (.int (191 : Int32)), s8, s9] [(.int ((own_g xs (i + 1)) &&& (255 : Int32)))]))
           refine own_st (fun t_ => XS.istoreS (own_here Y3) hx rfl (hb hby own_d2_199) rfl rfl hs8) ?_
           show own_Ends _ _ _ _ (T2.setTop (mkF m 201 #[.val (.ref r0), .val (.int x1), .val (.int x2), .val (.int j), .val (.int a), .val (.int (3 : Int32)), .val (.int (160 : Int32)), .val (.int (191 : Int32)), .val (.int ((own_g xs (i + 1)) &&& (255 : Int32))), s9] []))
           generalize hb_ : ((own_g xs (i + 1)) &&& (255 : Int32)) = b
           have u1 : own_u xs (i + 1) = b.toInt := by rw [own_u, hb_]
           refine own_st (fun t_ => XS.iload (own_here Y3) hx rfl (hb hby own_d2_201) rfl) ?_
           show own_Ends _ _ _ _ (T2.setTop (mkF m 203 #[.val (.ref r0), .val (.int x1), .val (.int x2), .val (.int j), .val (.int a), .val (.int (3 : Int32)), .val (.int (160 : Int32)), .val (.int (191 : Int32)), .val (.int b), s9] [(.int b)]))
           refine own_st (fun t_ => XS.iload (own_here Y3) hx rfl (hb hby own_d2_203) rfl) ?_
           show own_Ends _ _ _ _ (T2.setTop (mkF m 205 #[.val (.ref r0), .val (.int x1), .val (.int x2), .val (.int j), .val (.int a), .val (.int (3 : Int32)), .val (.int (160 : Int32)), .val (.int (191 : Int32)), .val (.int b), s9] [(.int (160 : Int32)), (.int b)]))
           by_cases c205_29 : b < (160 : Int32)
           ·
            refine own_st (fun t_ => XS.icmpYes (own_here Y3) hx rfl (pc0 := 205) (pc' := 215) rfl (hb hby own_d2_205) rfl (XT.ii_lt_t c205_29) (by decide) (by decide)) ?_
            show own_Ends _ _ _ _ (T2.setTop (mkF m 215 #[.val (.ref r0), .val (.int x1), .val (.int x2), .val (.int j), .val (.int a), .val (.int (3 : Int32)), .val (.int (160 : Int32)), .val (.int (191 : Int32)), .val (.int b), s9] []))
            refine own_st (fun t_ => XS.iconst (own_here Y3) hx rfl (hb hby own_d2_215) ) ?_
            show own_Ends _ _ _ _ (T2.setTop (mkF m 216 #[.val (.ref r0), .val (.int x1), .val (.int x2), .val (.int j), .val (.int a), .val (.int (3 : Int32)), .val (.int (160 : Int32)), .val (.int (191 : Int32)), .val (.int b), s9] [(.int (0 : Int32))]))
            have c21_5t := c21_5; simp only [own_lt] at c21_5t
            have c45_6t := c45_6; simp only [own_lt] at c45_6t
            have c53_7t := c53_7; simp only [own_lt] at c53_7t
            have c75_8t := c75_8; simp only [own_lt] at c75_8t
            have c86_27t := c86_27; simp only [own_eq] at c86_27t
            have c205_29t := c205_29; simp only [own_lt] at c205_29t
            have ra := own_u_rng xs i; rw [ua] at ra
            have f1 : (own_A1 (own_u xs i)) = false := by simp only [own_A1, ua, decide_eq_false_iff_not]; omega
            have f2 : (decide (i + 2 ≤ t) && own_A2 (own_u xs i) (own_u xs (i + 1))) = false := by simp only [own_A2, ua, u1, Bool.and_eq_false_iff, decide_eq_false_iff_not]; omega
            have f3 : (decide (i + 3 ≤ t) && own_A3 (own_u xs i) (own_u xs (i + 1)) (own_u xs (i + 2))) = false := by simp only [own_A3, ua, u1, Bool.and_eq_false_iff, decide_eq_false_iff_not]; omega
            have f4 : (decide (i + 4 ≤ t) && own_A4 (own_u xs i) (own_u xs (i + 1)) (own_u xs (i + 2)) (own_u xs (i + 3))) = false := by simp only [own_A4, ua, u1, Bool.and_eq_false_iff, decide_eq_false_iff_not]; omega
            refine own_retN Y3 hx hlk (t := .boolean) hret (by simp) (hb hby own_d2_216) (by decide) (by decide) ?_
            refine ⟨?_, rfl⟩
            have : own_V (own_u xs) t (t - f) f = false := by
              rw [hR0, ← hR]; obtain ⟨k', rfl⟩ : ∃ k', k = k' + 1 := ⟨k - 1, by omega⟩
              have hti : decide (t ≤ i) = false := by simp only [decide_eq_false_iff_not]; omega
              simp only [own_V, hti, f1, f2, f3, f4, Bool.false_and, Bool.or_false, Bool.false_or]
            rw [this]; rfl
           ·
            refine own_st (fun t_ => XS.icmpNo (own_here Y3) hx rfl (hb hby own_d2_205) rfl (XT.ii_lt_f c205_29)) ?_
            show own_Ends _ _ _ _ (T2.setTop (mkF m 208 #[.val (.ref r0), .val (.int x1), .val (.int x2), .val (.int j), .val (.int a), .val (.int (3 : Int32)), .val (.int (160 : Int32)), .val (.int (191 : Int32)), .val (.int b), s9] []))
            refine own_st (fun t_ => XS.iload (own_here Y3) hx rfl (hb hby own_d2_208) rfl) ?_
            show own_Ends _ _ _ _ (T2.setTop (mkF m 210 #[.val (.ref r0), .val (.int x1), .val (.int x2), .val (.int j), .val (.int a), .val (.int (3 : Int32)), .val (.int (160 : Int32)), .val (.int (191 : Int32)), .val (.int b), s9] [(.int b)]))
            refine own_st (fun t_ => XS.iload (own_here Y3) hx rfl (hb hby own_d2_210) rfl) ?_
            show own_Ends _ _ _ _ (T2.setTop (mkF m 212 #[.val (.ref r0), .val (.int x1), .val (.int x2), .val (.int j), .val (.int a), .val (.int (3 : Int32)), .val (.int (160 : Int32)), .val (.int (191 : Int32)), .val (.int b), s9] [(.int (191 : Int32)), (.int b)]))
            by_cases c212_30 : (191 : Int32) < b
            ·
             refine own_st (fun t_ => XS.icmpNo (own_here Y3) hx rfl (hb hby own_d2_212) rfl (XT.ii_le_f c212_30)) ?_
             show own_Ends _ _ _ _ (T2.setTop (mkF m 215 #[.val (.ref r0), .val (.int x1), .val (.int x2), .val (.int j), .val (.int a), .val (.int (3 : Int32)), .val (.int (160 : Int32)), .val (.int (191 : Int32)), .val (.int b), s9] []))
             refine own_st (fun t_ => XS.iconst (own_here Y3) hx rfl (hb hby own_d2_215) ) ?_
             show own_Ends _ _ _ _ (T2.setTop (mkF m 216 #[.val (.ref r0), .val (.int x1), .val (.int x2), .val (.int j), .val (.int a), .val (.int (3 : Int32)), .val (.int (160 : Int32)), .val (.int (191 : Int32)), .val (.int b), s9] [(.int (0 : Int32))]))
             have c21_5t := c21_5; simp only [own_lt] at c21_5t
             have c45_6t := c45_6; simp only [own_lt] at c45_6t
             have c53_7t := c53_7; simp only [own_lt] at c53_7t
             have c75_8t := c75_8; simp only [own_lt] at c75_8t
             have c86_27t := c86_27; simp only [own_eq] at c86_27t
             have c205_29t := c205_29; simp only [own_lt] at c205_29t
             have c212_30t := c212_30; simp only [own_lt] at c212_30t
             have ra := own_u_rng xs i; rw [ua] at ra
             have f1 : (own_A1 (own_u xs i)) = false := by simp only [own_A1, ua, decide_eq_false_iff_not]; omega
             have f2 : (decide (i + 2 ≤ t) && own_A2 (own_u xs i) (own_u xs (i + 1))) = false := by simp only [own_A2, ua, u1, Bool.and_eq_false_iff, decide_eq_false_iff_not]; omega
             have f3 : (decide (i + 3 ≤ t) && own_A3 (own_u xs i) (own_u xs (i + 1)) (own_u xs (i + 2))) = false := by simp only [own_A3, ua, u1, Bool.and_eq_false_iff, decide_eq_false_iff_not]; omega
             have f4 : (decide (i + 4 ≤ t) && own_A4 (own_u xs i) (own_u xs (i + 1)) (own_u xs (i + 2)) (own_u xs (i + 3))) = false := by simp only [own_A4, ua, u1, Bool.and_eq_false_iff, decide_eq_false_iff_not]; omega
             refine own_retN Y3 hx hlk (t := .boolean) hret (by simp) (hb hby own_d2_216) (by decide) (by decide) ?_
             refine ⟨?_, rfl⟩
             have : own_V (own_u xs) t (t - f) f = false := by
               rw [hR0, ← hR]; obtain ⟨k', rfl⟩ : ∃ k', k = k' + 1 := ⟨k - 1, by omega⟩
               have hti : decide (t ≤ i) = false := by simp only [decide_eq_false_iff_not]; omega
               simp only [own_V, hti, f1, f2, f3, f4, Bool.false_and, Bool.or_false, Bool.false_or]
             rw [this]; rfl
            ·
             refine own_st (fun t_ => XS.icmpYes (own_here Y3) hx rfl (pc0 := 212) (pc' := 217) rfl (hb hby own_d2_212) rfl (XT.ii_le_t c212_30) (by decide) (by decide)) ?_
             show own_Ends _ _ _ _ (T2.setTop (mkF m 217 #[.val (.ref r0), .val (.int x1), .val (.int x2), .val (.int j), .val (.int a), .val (.int (3 : Int32)), .val (.int (160 : Int32)), .val (.int (191 : Int32)), .val (.int b), s9] []))
             refine own_st (fun t_ => XS.iloadN (own_here Y3) hx rfl (hb hby own_d2_217) rfl) ?_
             show own_Ends _ _ _ _ (T2.setTop (mkF m 218 #[.val (.ref r0), .val (.int x1), .val (.int x2), .val (.int j), .val (.int a), .val (.int (3 : Int32)), .val (.int (160 : Int32)), .val (.int (191 : Int32)), .val (.int b), s9] [(.int j)]))
             refine own_st (fun t_ => XS.iconst (own_here Y3) hx rfl (hb hby own_d2_218) ) ?_
             show own_Ends _ _ _ _ (T2.setTop (mkF m 219 #[.val (.ref r0), .val (.int x1), .val (.int x2), .val (.int j), .val (.int a), .val (.int (3 : Int32)), .val (.int (160 : Int32)), .val (.int (191 : Int32)), .val (.int b), s9] [(.int (2 : Int32)), (.int j)]))
             refine own_st (fun t_ => XS.iadd (own_here Y3) hx rfl (hb hby own_d2_219) rfl) ?_
             show own_Ends _ _ _ _ (T2.setTop (mkF m 220 #[.val (.ref r0), .val (.int x1), .val (.int x2), .val (.int j), .val (.int a), .val (.int (3 : Int32)), .val (.int (160 : Int32)), .val (.int (191 : Int32)), .val (.int b), s9] [(.int (j + (2 : Int32)))]))
             refine own_st (fun t_ => XS.istoreS (own_here Y3) hx rfl (hb hby own_d2_220) rfl rfl hs9) ?_
             show own_Ends _ _ _ _ (T2.setTop (mkF m 222 #[.val (.ref r0), .val (.int x1), .val (.int x2), .val (.int j), .val (.int a), .val (.int (3 : Int32)), .val (.int (160 : Int32)), .val (.int (191 : Int32)), .val (.int b), .val (.int (j + (2 : Int32)))] []))
             refine own_st (fun t_ => XS.iload (own_here Y3) hx rfl (hb hby own_d2_222) rfl) ?_
             show own_Ends _ _ _ _ (T2.setTop (mkF m 224 #[.val (.ref r0), .val (.int x1), .val (.int x2), .val (.int j), .val (.int a), .val (.int (3 : Int32)), .val (.int (160 : Int32)), .val (.int (191 : Int32)), .val (.int b), .val (.int (j + (2 : Int32)))] [(.int (j + (2 : Int32)))]))
             refine own_st (fun t_ => XS.iloadN (own_here Y3) hx rfl (hb hby own_d2_224) rfl) ?_
             show own_Ends _ _ _ _ (T2.setTop (mkF m 225 #[.val (.ref r0), .val (.int x1), .val (.int x2), .val (.int j), .val (.int a), .val (.int (3 : Int32)), .val (.int (160 : Int32)), .val (.int (191 : Int32)), .val (.int b), .val (.int (j + (2 : Int32)))] [(.int j), (.int (j + (2 : Int32)))]))
             refine own_st (fun t_ => XS.iload (own_here Y3) hx rfl (hb hby own_d2_225) rfl) ?_
             show own_Ends _ _ _ _ (T2.setTop (mkF m 227 #[.val (.ref r0), .val (.int x1), .val (.int x2), .val (.int j), .val (.int a), .val (.int (3 : Int32)), .val (.int (160 : Int32)), .val (.int (191 : Int32)), .val (.int b), .val (.int (j + (2 : Int32)))] [(.int (3 : Int32)), (.int j), (.int (j + (2 : Int32)))]))
             refine own_st (fun t_ => XS.iadd (own_here Y3) hx rfl (hb hby own_d2_227) rfl) ?_
             show own_Ends _ _ _ _ (T2.setTop (mkF m 228 #[.val (.ref r0), .val (.int x1), .val (.int x2), .val (.int j), .val (.int a), .val (.int (3 : Int32)), .val (.int (160 : Int32)), .val (.int (191 : Int32)), .val (.int b), .val (.int (j + (2 : Int32)))] [(.int (j + (3 : Int32))), (.int (j + (2 : Int32)))]))
             have ee0 := own_add hj own_l3 (by omega)
             refine own_st (fun t_ => XS.icmpNo (own_here Y3) hx rfl (hb hby own_d2_228) rfl (XT.ii_ge_f (by rw [own_lt, n2, ee0]; omega))) ?_
             show own_Ends _ _ _ _ (T2.setTop (mkF m 231 #[.val (.ref r0), .val (.int x1), .val (.int x2), .val (.int j), .val (.int a), .val (.int (3 : Int32)), .val (.int (160 : Int32)), .val (.int (191 : Int32)), .val (.int b), .val (.int (j + (2 : Int32)))] []))
             refine own_st (fun t_ => XS.aloadN (own_here Y3) hx rfl (hb hby own_d2_231) rfl rfl) ?_
             show own_Ends _ _ _ _ (T2.setTop (mkF m 232 #[.val (.ref r0), .val (.int x1), .val (.int x2), .val (.int j), .val (.int a), .val (.int (3 : Int32)), .val (.int (160 : Int32)), .val (.int (191 : Int32)), .val (.int b), .val (.int (j + (2 : Int32)))] [(.ref r0)]))
             refine own_st (fun t_ => XS.iload (own_here Y3) hx rfl (hb hby own_d2_232) rfl) ?_
             show own_Ends _ _ _ _ (T2.setTop (mkF m 234 #[.val (.ref r0), .val (.int x1), .val (.int x2), .val (.int j), .val (.int a), .val (.int (3 : Int32)), .val (.int (160 : Int32)), .val (.int (191 : Int32)), .val (.int b), .val (.int (j + (2 : Int32)))] [(.int (j + (2 : Int32))), (.ref r0)]))
             refine own_ldB Y3 hx hZ A (i := (i + 2)) n20 n21 (own_mlen (by omega)) (v := (.int (own_g xs (i + 2)))) (own_mget (own_mlen (by omega))) rfl rfl (hb hby own_d2_234) ?_
             show own_Ends _ _ _ _ (T2.setTop (mkF m 235 #[.val (.ref r0), .val (.int x1), .val (.int x2), .val (.int j), .val (.int a), .val (.int (3 : Int32)), .val (.int (160 : Int32)), .val (.int (191 : Int32)), .val (.int b), .val (.int (j + (2 : Int32)))] [(.int (own_g xs (i + 2)))]))
             refine own_st (fun t_ => XS.sipush (own_here Y3) hx rfl (hb hby own_d2_235) ) ?_
             show own_Ends _ _ _ _ (T2.setTop (mkF m 238 #[.val (.ref r0), .val (.int x1), .val (.int x2), .val (.int j), .val (.int a), .val (.int (3 : Int32)), .val (.int (160 : Int32)), .val (.int (191 : Int32)), .val (.int b), .val (.int (j + (2 : Int32)))] [(.int (192 : Int32)), (.int (own_g xs (i + 2)))]))
             refine own_st (fun t_ => XS.iand (own_here Y3) hx rfl (hb hby own_d2_238) rfl) ?_
             show own_Ends _ _ _ _ (T2.setTop (mkF m 239 #[.val (.ref r0), .val (.int x1), .val (.int x2), .val (.int j), .val (.int a), .val (.int (3 : Int32)), .val (.int (160 : Int32)), .val (.int (191 : Int32)), .val (.int b), .val (.int (j + (2 : Int32)))] [(.int ((own_g xs (i + 2)) &&& (192 : Int32)))]))
             refine own_st (fun t_ => XS.sipush (own_here Y3) hx rfl (hb hby own_d2_239) ) ?_
             show own_Ends _ _ _ _ (T2.setTop (mkF m 242 #[.val (.ref r0), .val (.int x1), .val (.int x2), .val (.int j), .val (.int a), .val (.int (3 : Int32)), .val (.int (160 : Int32)), .val (.int (191 : Int32)), .val (.int b), .val (.int (j + (2 : Int32)))] [(.int (128 : Int32)), (.int ((own_g xs (i + 2)) &&& (192 : Int32)))]))
             by_cases c242_31 : ((own_g xs (i + 2)) &&& (192 : Int32)) = (128 : Int32)
             ·
              refine own_st (fun t_ => XS.icmpYes (own_here Y3) hx rfl (pc0 := 242) (pc' := 247) rfl (hb hby own_d2_242) rfl (XT.ii_eq_t c242_31) (by decide) (by decide)) ?_
              show own_Ends _ _ _ _ (T2.setTop (mkF m 247 #[.val (.ref r0), .val (.int x1), .val (.int x2), .val (.int j), .val (.int a), .val (.int (3 : Int32)), .val (.int (160 : Int32)), .val (.int (191 : Int32)), .val (.int b), .val (.int (j + (2 : Int32)))] []))
              refine own_st (fun t_ => XS.iinc (own_here Y3) hx rfl (hb hby own_d2_247) rfl (l' := #[.val (.ref r0), .val (.int x1), .val (.int x2), .val (.int j), .val (.int a), .val (.int (3 : Int32)), .val (.int (160 : Int32)), .val (.int (191 : Int32)), .val (.int b), .val (.int ((j + (2 : Int32)) + (1 : Int32)))]) rfl) ?_
              show own_Ends _ _ _ _ (T2.setTop (mkF m 250 #[.val (.ref r0), .val (.int x1), .val (.int x2), .val (.int j), .val (.int a), .val (.int (3 : Int32)), .val (.int (160 : Int32)), .val (.int (191 : Int32)), .val (.int b), .val (.int ((j + (2 : Int32)) + (1 : Int32)))] []))
              refine own_st (fun t_ => XS.goto (own_here Y3) hx rfl (pc0 := 250) (pc' := 222) rfl (hb hby own_d2_250) (by decide) (by decide)) ?_
              show own_Ends _ _ _ _ (T2.setTop (mkF m 222 #[.val (.ref r0), .val (.int x1), .val (.int x2), .val (.int j), .val (.int a), .val (.int (3 : Int32)), .val (.int (160 : Int32)), .val (.int (191 : Int32)), .val (.int b), .val (.int ((j + (2 : Int32)) + (1 : Int32)))] []))
              refine own_st (fun t_ => XS.iload (own_here Y3) hx rfl (hb hby own_d2_222) rfl) ?_
              show own_Ends _ _ _ _ (T2.setTop (mkF m 224 #[.val (.ref r0), .val (.int x1), .val (.int x2), .val (.int j), .val (.int a), .val (.int (3 : Int32)), .val (.int (160 : Int32)), .val (.int (191 : Int32)), .val (.int b), .val (.int ((j + (2 : Int32)) + (1 : Int32)))] [(.int ((j + (2 : Int32)) + (1 : Int32)))]))
              refine own_st (fun t_ => XS.iloadN (own_here Y3) hx rfl (hb hby own_d2_224) rfl) ?_
              show own_Ends _ _ _ _ (T2.setTop (mkF m 225 #[.val (.ref r0), .val (.int x1), .val (.int x2), .val (.int j), .val (.int a), .val (.int (3 : Int32)), .val (.int (160 : Int32)), .val (.int (191 : Int32)), .val (.int b), .val (.int ((j + (2 : Int32)) + (1 : Int32)))] [(.int j), (.int ((j + (2 : Int32)) + (1 : Int32)))]))
              refine own_st (fun t_ => XS.iload (own_here Y3) hx rfl (hb hby own_d2_225) rfl) ?_
              show own_Ends _ _ _ _ (T2.setTop (mkF m 227 #[.val (.ref r0), .val (.int x1), .val (.int x2), .val (.int j), .val (.int a), .val (.int (3 : Int32)), .val (.int (160 : Int32)), .val (.int (191 : Int32)), .val (.int b), .val (.int ((j + (2 : Int32)) + (1 : Int32)))] [(.int (3 : Int32)), (.int j), (.int ((j + (2 : Int32)) + (1 : Int32)))]))
              refine own_st (fun t_ => XS.iadd (own_here Y3) hx rfl (hb hby own_d2_227) rfl) ?_
              show own_Ends _ _ _ _ (T2.setTop (mkF m 228 #[.val (.ref r0), .val (.int x1), .val (.int x2), .val (.int j), .val (.int a), .val (.int (3 : Int32)), .val (.int (160 : Int32)), .val (.int (191 : Int32)), .val (.int b), .val (.int ((j + (2 : Int32)) + (1 : Int32)))] [(.int (j + (3 : Int32))), (.int ((j + (2 : Int32)) + (1 : Int32)))]))
              have ee1 := own_add hj own_l3 (by omega)
              refine own_st (fun t_ => XS.icmpYes (own_here Y3) hx rfl (pc0 := 228) (pc' := 253) rfl (hb hby own_d2_228) rfl (XT.ii_ge_t (by rw [own_lt, (own_add n2 own_l1 (by omega)), ee1]; omega)) (by decide) (by decide)) ?_
              show own_Ends _ _ _ _ (T2.setTop (mkF m 253 #[.val (.ref r0), .val (.int x1), .val (.int x2), .val (.int j), .val (.int a), .val (.int (3 : Int32)), .val (.int (160 : Int32)), .val (.int (191 : Int32)), .val (.int b), .val (.int ((j + (2 : Int32)) + (1 : Int32)))] []))
              refine own_st (fun t_ => XS.iloadN (own_here Y3) hx rfl (hb hby own_d2_253) rfl) ?_
              show own_Ends _ _ _ _ (T2.setTop (mkF m 254 #[.val (.ref r0), .val (.int x1), .val (.int x2), .val (.int j), .val (.int a), .val (.int (3 : Int32)), .val (.int (160 : Int32)), .val (.int (191 : Int32)), .val (.int b), .val (.int ((j + (2 : Int32)) + (1 : Int32)))] [(.int j)]))
              refine own_st (fun t_ => XS.iload (own_here Y3) hx rfl (hb hby own_d2_254) rfl) ?_
              show own_Ends _ _ _ _ (T2.setTop (mkF m 256 #[.val (.ref r0), .val (.int x1), .val (.int x2), .val (.int j), .val (.int a), .val (.int (3 : Int32)), .val (.int (160 : Int32)), .val (.int (191 : Int32)), .val (.int b), .val (.int ((j + (2 : Int32)) + (1 : Int32)))] [(.int (3 : Int32)), (.int j)]))
              refine own_st (fun t_ => XS.iadd (own_here Y3) hx rfl (hb hby own_d2_256) rfl) ?_
              show own_Ends _ _ _ _ (T2.setTop (mkF m 257 #[.val (.ref r0), .val (.int x1), .val (.int x2), .val (.int j), .val (.int a), .val (.int (3 : Int32)), .val (.int (160 : Int32)), .val (.int (191 : Int32)), .val (.int b), .val (.int ((j + (2 : Int32)) + (1 : Int32)))] [(.int (j + (3 : Int32)))]))
              refine own_st (fun t_ => XS.istoreN (own_here Y3) hx rfl (hb hby own_d2_257) rfl (l' := #[.val (.ref r0), .val (.int x1), .val (.int x2), .val (.int (j + (3 : Int32))), .val (.int a), .val (.int (3 : Int32)), .val (.int (160 : Int32)), .val (.int (191 : Int32)), .val (.int b), .val (.int ((j + (2 : Int32)) + (1 : Int32)))]) rfl) ?_
              show own_Ends _ _ _ _ (T2.setTop (mkF m 258 #[.val (.ref r0), .val (.int x1), .val (.int x2), .val (.int (j + (3 : Int32))), .val (.int a), .val (.int (3 : Int32)), .val (.int (160 : Int32)), .val (.int (191 : Int32)), .val (.int b), .val (.int ((j + (2 : Int32)) + (1 : Int32)))] []))
              refine own_st (fun t_ => XS.goto (own_here Y3) hx rfl (pc0 := 258) (pc' := 2) rfl (hb hby own_d2_258) (by decide) (by decide)) ?_
              show own_Ends _ _ _ _ (T2.setTop (mkF m 2 #[.val (.ref r0), .val (.int x1), .val (.int x2), .val (.int (j + (3 : Int32))), .val (.int a), .val (.int (3 : Int32)), .val (.int (160 : Int32)), .val (.int (191 : Int32)), .val (.int b), .val (.int ((j + (2 : Int32)) + (1 : Int32)))] []))
              have g2 := (own_cont (hB (i + 2))).mp c242_31; have g2' : 128 ≤ own_u xs (i + 2) ∧ own_u xs (i + 2) ≤ 191 := g2
              have c21_5t := c21_5; simp only [own_lt] at c21_5t
              have c45_6t := c45_6; simp only [own_lt] at c45_6t
              have c53_7t := c53_7; simp only [own_lt] at c53_7t
              have c75_8t := c75_8; simp only [own_lt] at c75_8t
              have c86_27t := c86_27; simp only [own_eq] at c86_27t
              have c205_29t := c205_29; simp only [own_lt] at c205_29t
              have c212_30t := c212_30; simp only [own_lt] at c212_30t
              have ra := own_u_rng xs i; rw [ua] at ra
              have f1 : (own_A1 (own_u xs i)) = false := by simp only [own_A1, ua, decide_eq_false_iff_not]; omega
              have f2 : (decide (i + 2 ≤ t) && own_A2 (own_u xs i) (own_u xs (i + 1))) = false := by simp only [own_A2, ua, u1, Bool.and_eq_false_iff, decide_eq_false_iff_not]; omega
              have f3 : (decide (i + 3 ≤ t) && own_A3 (own_u xs i) (own_u xs (i + 1)) (own_u xs (i + 2))) = true := by simp only [own_A3, ua, u1, Bool.and_eq_true, decide_eq_true_eq]; omega
              have f4 : (decide (i + 4 ≤ t) && own_A4 (own_u xs i) (own_u xs (i + 1)) (own_u xs (i + 2)) (own_u xs (i + 3))) = false := by simp only [own_A4, ua, u1, Bool.and_eq_false_iff, decide_eq_false_iff_not]; omega
              have hR2 : own_V (own_u xs) t (k - 1) (i + 3) = R := by
                rw [← hR]; obtain ⟨k', rfl⟩ : ∃ k', k = k' + 1 := ⟨k - 1, by omega⟩
                have hti : decide (t ≤ i) = false := by simp only [decide_eq_false_iff_not]; omega
                simp only [own_V, Nat.add_sub_cancel, hti, f1, f2, f3, f4, Bool.false_and, Bool.true_and, Bool.or_false, Bool.false_or]
              exact ih (k - 1) (by omega) T2  (i + 3) ((j + (3 : Int32))) (.val (.int a)) (.val (.int (3 : Int32))) (.val (.int (160 : Int32))) (.val (.int (191 : Int32))) (.val (.int b)) (.val (.int ((j + (2 : Int32)) + (1 : Int32)))) Y3  (own_add hj own_l3 (by omega)) (by omega) (by omega) hR2 (One.val rfl) (One.val rfl) (One.val rfl) (One.val rfl) (One.val rfl) (One.val rfl)
             ·
              refine own_st (fun t_ => XS.icmpNo (own_here Y3) hx rfl (hb hby own_d2_242) rfl (XT.ii_eq_f c242_31)) ?_
              show own_Ends _ _ _ _ (T2.setTop (mkF m 245 #[.val (.ref r0), .val (.int x1), .val (.int x2), .val (.int j), .val (.int a), .val (.int (3 : Int32)), .val (.int (160 : Int32)), .val (.int (191 : Int32)), .val (.int b), .val (.int (j + (2 : Int32)))] []))
              refine own_st (fun t_ => XS.iconst (own_here Y3) hx rfl (hb hby own_d2_245) ) ?_
              show own_Ends _ _ _ _ (T2.setTop (mkF m 246 #[.val (.ref r0), .val (.int x1), .val (.int x2), .val (.int j), .val (.int a), .val (.int (3 : Int32)), .val (.int (160 : Int32)), .val (.int (191 : Int32)), .val (.int b), .val (.int (j + (2 : Int32)))] [(.int (0 : Int32))]))
              have hc := mt (own_cont (hB (i + 2))).mpr c242_31; have hc' : ¬ (128 ≤ own_u xs (i + 2) ∧ own_u xs (i + 2) ≤ 191) := hc
              have c21_5t := c21_5; simp only [own_lt] at c21_5t
              have c45_6t := c45_6; simp only [own_lt] at c45_6t
              have c53_7t := c53_7; simp only [own_lt] at c53_7t
              have c75_8t := c75_8; simp only [own_lt] at c75_8t
              have c86_27t := c86_27; simp only [own_eq] at c86_27t
              have c205_29t := c205_29; simp only [own_lt] at c205_29t
              have c212_30t := c212_30; simp only [own_lt] at c212_30t
              have ra := own_u_rng xs i; rw [ua] at ra
              have f1 : (own_A1 (own_u xs i)) = false := by simp only [own_A1, ua, decide_eq_false_iff_not]; omega
              have f2 : (decide (i + 2 ≤ t) && own_A2 (own_u xs i) (own_u xs (i + 1))) = false := by simp only [own_A2, ua, u1, Bool.and_eq_false_iff, decide_eq_false_iff_not]; omega
              have f3 : (decide (i + 3 ≤ t) && own_A3 (own_u xs i) (own_u xs (i + 1)) (own_u xs (i + 2))) = false := by simp only [own_A3, ua, u1, Bool.and_eq_false_iff, decide_eq_false_iff_not]; omega
              have f4 : (decide (i + 4 ≤ t) && own_A4 (own_u xs i) (own_u xs (i + 1)) (own_u xs (i + 2)) (own_u xs (i + 3))) = false := by simp only [own_A4, ua, u1, Bool.and_eq_false_iff, decide_eq_false_iff_not]; omega
              refine own_retN Y3 hx hlk (t := .boolean) hret (by simp) (hb hby own_d2_246) (by decide) (by decide) ?_
              refine ⟨?_, rfl⟩
              have : own_V (own_u xs) t (t - f) f = false := by
                rw [hR0, ← hR]; obtain ⟨k', rfl⟩ : ∃ k', k = k' + 1 := ⟨k - 1, by omega⟩
                have hti : decide (t ≤ i) = false := by simp only [decide_eq_false_iff_not]; omega
                simp only [own_V, hti, f1, f2, f3, f4, Bool.false_and, Bool.or_false, Bool.false_or]
              rw [this]; rfl
         ·
          refine own_st (fun t_ => XS.icmpYes (own_here Y3) hx rfl (pc0 := 86) (pc' := 95) rfl (hb hby own_d2_86) rfl (XT.ii_ne_t c86_27) (by decide) (by decide)) ?_
          show own_Ends _ _ _ _ (T2.setTop (mkF m 95 #[.val (.ref r0), .val (.int x1), .val (.int x2), .val (.int j), .val (.int a), .val (.int (3 : Int32)), .val (.int (128 : Int32)), .val (.int (191 : Int32)), s8, s9] []))
          refine own_st (fun t_ => XS.iload (own_here Y3) hx rfl (hb hby own_d2_95) rfl) ?_
          show own_Ends _ _ _ _ (T2.setTop (mkF m 97 #[.val (.ref r0), .val (.int x1), .val (.int x2), .val (.int j), .val (.int a), .val (.int (3 : Int32)), .val (.int (128 : Int32)), .val (.int (191 : Int32)), s8, s9] [(.int (128 : Int32))]))
          refine own_st (fun t_ => XS.istore (own_here Y3) hx rfl (hb hby own_d2_97) rfl (l' := #[.val (.ref r0), .val (.int x1), .val (.int x2), .val (.int j), .val (.int a), .val (.int (3 : Int32)), .val (.int (128 : Int32)), .val (.int (191 : Int32)), s8, s9]) rfl) ?_
          show own_Ends _ _ _ _ (T2.setTop (mkF m 99 #[.val (.ref r0), .val (.int x1), .val (.int x2), .val (.int j), .val (.int a), .val (.int (3 : Int32)), .val (.int (128 : Int32)), .val (.int (191 : Int32)), s8, s9] []))
          refine own_st (fun t_ => XS.iload (own_here Y3) hx rfl (hb hby own_d2_99) rfl) ?_
          show own_Ends _ _ _ _ (T2.setTop (mkF m 101 #[.val (.ref r0), .val (.int x1), .val (.int x2), .val (.int j), .val (.int a), .val (.int (3 : Int32)), .val (.int (128 : Int32)), .val (.int (191 : Int32)), s8, s9] [(.int a)]))
          refine own_st (fun t_ => XS.sipush (own_here Y3) hx rfl (hb hby own_d2_101) ) ?_
          show own_Ends _ _ _ _ (T2.setTop (mkF m 104 #[.val (.ref r0), .val (.int x1), .val (.int x2), .val (.int j), .val (.int a), .val (.int (3 : Int32)), .val (.int (128 : Int32)), .val (.int (191 : Int32)), s8, s9] [(.int (237 : Int32)), (.int a)]))
          by_cases c104_32 : a = (237 : Int32)
          ·
           refine own_st (fun t_ => XS.icmpNo (own_here Y3) hx rfl (hb hby own_d2_104) rfl (XT.ii_ne_f c104_32)) ?_
           show own_Ends _ _ _ _ (T2.setTop (mkF m 107 #[.val (.ref r0), .val (.int x1), .val (.int x2), .val (.int j), .val (.int a), .val (.int (3 : Int32)), .val (.int (128 : Int32)), .val (.int (191 : Int32)), s8, s9] []))
           refine own_st (fun t_ => XS.sipush (own_here Y3) hx rfl (hb hby own_d2_107) ) ?_
           show own_Ends _ _ _ _ (T2.setTop (mkF m 110 #[.val (.ref r0), .val (.int x1), .val (.int x2), .val (.int j), .val (.int a), .val (.int (3 : Int32)), .val (.int (128 : Int32)), .val (.int (191 : Int32)), s8, s9] [(.int (159 : Int32))]))
           refine own_st (fun t_ => XS.goto (own_here Y3) hx rfl (pc0 := 110) (pc' := 115) rfl (hb hby own_d2_110) (by decide) (by decide)) ?_
           show own_Ends _ _ _ _ (T2.setTop (mkF m 115 #[.val (.ref r0), .val (.int x1), .val (.int x2), .val (.int j), .val (.int a), .val (.int (3 : Int32)), .val (.int (128 : Int32)), .val (.int (191 : Int32)), s8, s9] [(.int (159 : Int32))]))
           refine own_st (fun t_ => XS.istore (own_here Y3) hx rfl (hb hby own_d2_115) rfl (l' := #[.val (.ref r0), .val (.int x1), .val (.int x2), .val (.int j), .val (.int a), .val (.int (3 : Int32)), .val (.int (128 : Int32)), .val (.int (159 : Int32)), s8, s9]) rfl) ?_
           show own_Ends _ _ _ _ (T2.setTop (mkF m 117 #[.val (.ref r0), .val (.int x1), .val (.int x2), .val (.int j), .val (.int a), .val (.int (3 : Int32)), .val (.int (128 : Int32)), .val (.int (159 : Int32)), s8, s9] []))
           refine own_st (fun t_ => XS.goto (own_here Y3) hx rfl (pc0 := 117) (pc' := 180) rfl (hb hby own_d2_117) (by decide) (by decide)) ?_
           show own_Ends _ _ _ _ (T2.setTop (mkF m 180 #[.val (.ref r0), .val (.int x1), .val (.int x2), .val (.int j), .val (.int a), .val (.int (3 : Int32)), .val (.int (128 : Int32)), .val (.int (159 : Int32)), s8, s9] []))
           refine own_st (fun t_ => XS.iloadN (own_here Y3) hx rfl (hb hby own_d2_180) rfl) ?_
           show own_Ends _ _ _ _ (T2.setTop (mkF m 181 #[.val (.ref r0), .val (.int x1), .val (.int x2), .val (.int j), .val (.int a), .val (.int (3 : Int32)), .val (.int (128 : Int32)), .val (.int (159 : Int32)), s8, s9] [(.int x2)]))
           refine own_st (fun t_ => XS.iloadN (own_here Y3) hx rfl (hb hby own_d2_181) rfl) ?_
           show own_Ends _ _ _ _ (T2.setTop (mkF m 182 #[.val (.ref r0), .val (.int x1), .val (.int x2), .val (.int j), .val (.int a), .val (.int (3 : Int32)), .val (.int (128 : Int32)), .val (.int (159 : Int32)), s8, s9] [(.int j), (.int x2)]))
           refine own_st (fun t_ => XS.isub (own_here Y3) hx rfl (hb hby own_d2_182) rfl) ?_
           show own_Ends _ _ _ _ (T2.setTop (mkF m 183 #[.val (.ref r0), .val (.int x1), .val (.int x2), .val (.int j), .val (.int a), .val (.int (3 : Int32)), .val (.int (128 : Int32)), .val (.int (159 : Int32)), s8, s9] [(.int (x2 - j))]))
           refine own_st (fun t_ => XS.iload (own_here Y3) hx rfl (hb hby own_d2_183) rfl) ?_
           show own_Ends _ _ _ _ (T2.setTop (mkF m 185 #[.val (.ref r0), .val (.int x1), .val (.int x2), .val (.int j), .val (.int a), .val (.int (3 : Int32)), .val (.int (128 : Int32)), .val (.int (159 : Int32)), s8, s9] [(.int (3 : Int32)), (.int (x2 - j))]))
           by_cases c185_33 : (x2 - j) < (3 : Int32)
           ·
            refine own_st (fun t_ => XS.icmpNo (own_here Y3) hx rfl (hb hby own_d2_185) rfl (XT.ii_ge_f c185_33)) ?_
            show own_Ends _ _ _ _ (T2.setTop (mkF m 188 #[.val (.ref r0), .val (.int x1), .val (.int x2), .val (.int j), .val (.int a), .val (.int (3 : Int32)), .val (.int (128 : Int32)), .val (.int (159 : Int32)), s8, s9] []))
            refine own_st (fun t_ => XS.iconst (own_here Y3) hx rfl (hb hby own_d2_188) ) ?_
            show own_Ends _ _ _ _ (T2.setTop (mkF m 189 #[.val (.ref r0), .val (.int x1), .val (.int x2), .val (.int j), .val (.int a), .val (.int (3 : Int32)), .val (.int (128 : Int32)), .val (.int (159 : Int32)), s8, s9] [(.int (0 : Int32))]))
            have hroom : ¬ i + 3 ≤ t := by have := c185_33; rw [own_lt, own_sub ht hj] at this; have e : (3 : Int32).toInt = 3 := rfl; omega
            have c21_5t := c21_5; simp only [own_lt] at c21_5t
            have c45_6t := c45_6; simp only [own_lt] at c45_6t
            have c53_7t := c53_7; simp only [own_lt] at c53_7t
            have c75_8t := c75_8; simp only [own_lt] at c75_8t
            have c86_27t := c86_27; simp only [own_eq] at c86_27t
            have c104_32t := c104_32; simp only [own_eq] at c104_32t
            have ra := own_u_rng xs i; rw [ua] at ra
            have f1 : (own_A1 (own_u xs i)) = false := by simp only [own_A1, ua, decide_eq_false_iff_not]; omega
            have f2 : (decide (i + 2 ≤ t) && own_A2 (own_u xs i) (own_u xs (i + 1))) = false := by simp only [own_A2, ua, Bool.and_eq_false_iff, decide_eq_false_iff_not]; omega
            have f3 : (decide (i + 3 ≤ t) && own_A3 (own_u xs i) (own_u xs (i + 1)) (own_u xs (i + 2))) = false := by simp only [own_A3, ua, Bool.and_eq_false_iff, decide_eq_false_iff_not]; omega
            have f4 : (decide (i + 4 ≤ t) && own_A4 (own_u xs i) (own_u xs (i + 1)) (own_u xs (i + 2)) (own_u xs (i + 3))) = false := by simp only [own_A4, ua, Bool.and_eq_false_iff, decide_eq_false_iff_not]; omega
            refine own_retN Y3 hx hlk (t := .boolean) hret (by simp) (hb hby own_d2_189) (by decide) (by decide) ?_
            refine ⟨?_, rfl⟩
            have : own_V (own_u xs) t (t - f) f = false := by
              rw [hR0, ← hR]; obtain ⟨k', rfl⟩ : ∃ k', k = k' + 1 := ⟨k - 1, by omega⟩
              have hti : decide (t ≤ i) = false := by simp only [decide_eq_false_iff_not]; omega
              simp only [own_V, hti, f1, f2, f3, f4, Bool.false_and, Bool.or_false, Bool.false_or]
            rw [this]; rfl
           ·
            refine own_st (fun t_ => XS.icmpYes (own_here Y3) hx rfl (pc0 := 185) (pc' := 190) rfl (hb hby own_d2_185) rfl (XT.ii_ge_t c185_33) (by decide) (by decide)) ?_
            show own_Ends _ _ _ _ (T2.setTop (mkF m 190 #[.val (.ref r0), .val (.int x1), .val (.int x2), .val (.int j), .val (.int a), .val (.int (3 : Int32)), .val (.int (128 : Int32)), .val (.int (159 : Int32)), s8, s9] []))
            have hroom : i + 3 ≤ t := by have := c185_33; rw [own_lt, own_sub ht hj] at this; have e : (3 : Int32).toInt = 3 := rfl; omega
            have n1 := own_add hj own_l1 (by omega)
            obtain ⟨n10, n11⟩ := own_nat n1
            have n2 := own_add hj own_l2 (by omega)
            obtain ⟨n20, n21⟩ := own_nat n2
            refine own_st (fun t_ => XS.aloadN (own_here Y3) hx rfl (hb hby own_d2_190) rfl rfl) ?_
            show own_Ends _ _ _ _ (T2.setTop (mkF m 191 #[.val (.ref r0), .val (.int x1), .val (.int x2), .val (.int j), .val (.int a), .val (.int (3 : Int32)), .val (.int (128 : Int32)), .val (.int (159 : Int32)), s8, s9] [(.ref r0)]))
            refine own_st (fun t_ => XS.iloadN (own_here Y3) hx rfl (hb hby own_d2_191) rfl) ?_
            show own_Ends _ _ _ _ (T2.setTop (mkF m 192 #[.val (.ref r0), .val (.int x1), .val (.int x2), .val (.int j), .val (.int a), .val (.int (3 : Int32)), .val (.int (128 : Int32)), .val (.int (159 : Int32)), s8, s9] [(.int j), (.ref r0)]))
            refine own_st (fun t_ => XS.iconst (own_here Y3) hx rfl (hb hby own_d2_192) ) ?_
            show own_Ends _ _ _ _ (T2.setTop (mkF m 193 #[.val (.ref r0), .val (.int x1), .val (.int x2), .val (.int j), .val (.int a), .val (.int (3 : Int32)), .val (.int (128 : Int32)), .val (.int (159 : Int32)), s8, s9] [(.int (1 : Int32)), (.int j), (.ref r0)]))
            refine own_st (fun t_ => XS.iadd (own_here Y3) hx rfl (hb hby own_d2_193) rfl) ?_
            show own_Ends _ _ _ _ (T2.setTop (mkF m 194 #[.val (.ref r0), .val (.int x1), .val (.int x2), .val (.int j), .val (.int a), .val (.int (3 : Int32)), .val (.int (128 : Int32)), .val (.int (159 : Int32)), s8, s9] [(.int (j + (1 : Int32))), (.ref r0)]))
            refine own_ldB Y3 hx hZ A (i := (i + 1)) n10 n11 (own_mlen (by omega)) (v := (.int (own_g xs (i + 1)))) (own_mget (own_mlen (by omega))) rfl rfl (hb hby own_d2_194) ?_
            show own_Ends _ _ _ _ (T2.setTop (mkF m 195 #[.val (.ref r0), .val (.int x1), .val (.int x2), .val (.int j), .val (.int a), .val (.int (3 : Int32)), .val (.int (128 : Int32)), .val (.int (159 : Int32)), s8, s9] [(.int (own_g xs (i + 1)))]))
            refine own_st (fun t_ => XS.sipush (own_here Y3) hx rfl (hb hby own_d2_195) ) ?_
            show own_Ends _ _ _ _ (T2.setTop (mkF m 198 #[.val (.ref r0), .val (.int x1), .val (.int x2), .val (.int j), .val (.int a), .val (.int (3 : Int32)), .val (.int (128 : Int32)), .val (.int (159 : Int32)), s8, s9] [(.int (255 : Int32)), (.int (own_g xs (i + 1)))]))
            refine own_st (fun t_ => XS.iand (own_here Y3) hx rfl (hb hby own_d2_198) rfl) ?_
            show own_Ends _ _ _ _ (T2.setTop (mkF m 199 #[.val (.ref r0), .val (.int x1), .val (.int x2), .val (.int j), .val (.int a), .val (.int (3 : Int32)), .val (.int (128 : Int32)), .val (.int (159 : Int32)), s8, s9] [(.int ((own_g xs (i + 1)) &&& (255 : Int32)))]))
            refine own_st (fun t_ => XS.istoreS (own_here Y3) hx rfl (hb hby own_d2_199) rfl rfl hs8) ?_
            show own_Ends _ _ _ _ (T2.setTop (mkF m 201 #[.val (.ref r0), .val (.int x1), .val (.int x2), .val (.int j), .val (.int a), .val (.int (3 : Int32)), .val (.int (128 : Int32)), .val (.int (159 : Int32)), .val (.int ((own_g xs (i + 1)) &&& (255 : Int32))), s9] []))
            generalize hb_ : ((own_g xs (i + 1)) &&& (255 : Int32)) = b
            have u1 : own_u xs (i + 1) = b.toInt := by rw [own_u, hb_]
            refine own_st (fun t_ => XS.iload (own_here Y3) hx rfl (hb hby own_d2_201) rfl) ?_
            show own_Ends _ _ _ _ (T2.setTop (mkF m 203 #[.val (.ref r0), .val (.int x1), .val (.int x2), .val (.int j), .val (.int a), .val (.int (3 : Int32)), .val (.int (128 : Int32)), .val (.int (159 : Int32)), .val (.int b), s9] [(.int b)]))
            refine own_st (fun t_ => XS.iload (own_here Y3) hx rfl (hb hby own_d2_203) rfl) ?_
            show own_Ends _ _ _ _ (T2.setTop (mkF m 205 #[.val (.ref r0), .val (.int x1), .val (.int x2), .val (.int j), .val (.int a), .val (.int (3 : Int32)), .val (.int (128 : Int32)), .val (.int (159 : Int32)), .val (.int b), s9] [(.int (128 : Int32)), (.int b)]))
            by_cases c205_34 : b < (128 : Int32)
            ·
             refine own_st (fun t_ => XS.icmpYes (own_here Y3) hx rfl (pc0 := 205) (pc' := 215) rfl (hb hby own_d2_205) rfl (XT.ii_lt_t c205_34) (by decide) (by decide)) ?_
             show own_Ends _ _ _ _ (T2.setTop (mkF m 215 #[.val (.ref r0), .val (.int x1), .val (.int x2), .val (.int j), .val (.int a), .val (.int (3 : Int32)), .val (.int (128 : Int32)), .val (.int (159 : Int32)), .val (.int b), s9] []))
             refine own_st (fun t_ => XS.iconst (own_here Y3) hx rfl (hb hby own_d2_215) ) ?_
             show own_Ends _ _ _ _ (T2.setTop (mkF m 216 #[.val (.ref r0), .val (.int x1), .val (.int x2), .val (.int j), .val (.int a), .val (.int (3 : Int32)), .val (.int (128 : Int32)), .val (.int (159 : Int32)), .val (.int b), s9] [(.int (0 : Int32))]))
             have c21_5t := c21_5; simp only [own_lt] at c21_5t
             have c45_6t := c45_6; simp only [own_lt] at c45_6t
             have c53_7t := c53_7; simp only [own_lt] at c53_7t
             have c75_8t := c75_8; simp only [own_lt] at c75_8t
             have c86_27t := c86_27; simp only [own_eq] at c86_27t
             have c104_32t := c104_32; simp only [own_eq] at c104_32t
             have c205_34t := c205_34; simp only [own_lt] at c205_34t
             have ra := own_u_rng xs i; rw [ua] at ra
             have f1 : (own_A1 (own_u xs i)) = false := by simp only [own_A1, ua, decide_eq_false_iff_not]; omega
             have f2 : (decide (i + 2 ≤ t) && own_A2 (own_u xs i) (own_u xs (i + 1))) = false := by simp only [own_A2, ua, u1, Bool.and_eq_false_iff, decide_eq_false_iff_not]; omega
             have f3 : (decide (i + 3 ≤ t) && own_A3 (own_u xs i) (own_u xs (i + 1)) (own_u xs (i + 2))) = false := by simp only [own_A3, ua, u1, Bool.and_eq_false_iff, decide_eq_false_iff_not]; omega
             have f4 : (decide (i + 4 ≤ t) && own_A4 (own_u xs i) (own_u xs (i + 1)) (own_u xs (i + 2)) (own_u xs (i + 3))) = false := by simp only [own_A4, ua, u1, Bool.and_eq_false_iff, decide_eq_false_iff_not]; omega
             refine own_retN Y3 hx hlk (t := .boolean) hret (by simp) (hb hby own_d2_216) (by decide) (by decide) ?_
             refine ⟨?_, rfl⟩
             have : own_V (own_u xs) t (t - f) f = false := by
               rw [hR0, ← hR]; obtain ⟨k', rfl⟩ : ∃ k', k = k' + 1 := ⟨k - 1, by omega⟩
               have hti : decide (t ≤ i) = false := by simp only [decide_eq_false_iff_not]; omega
               simp only [own_V, hti, f1, f2, f3, f4, Bool.false_and, Bool.or_false, Bool.false_or]
             rw [this]; rfl
            ·
             refine own_st (fun t_ => XS.icmpNo (own_here Y3) hx rfl (hb hby own_d2_205) rfl (XT.ii_lt_f c205_34)) ?_
             show own_Ends _ _ _ _ (T2.setTop (mkF m 208 #[.val (.ref r0), .val (.int x1), .val (.int x2), .val (.int j), .val (.int a), .val (.int (3 : Int32)), .val (.int (128 : Int32)), .val (.int (159 : Int32)), .val (.int b), s9] []))
             refine own_st (fun t_ => XS.iload (own_here Y3) hx rfl (hb hby own_d2_208) rfl) ?_
             show own_Ends _ _ _ _ (T2.setTop (mkF m 210 #[.val (.ref r0), .val (.int x1), .val (.int x2), .val (.int j), .val (.int a), .val (.int (3 : Int32)), .val (.int (128 : Int32)), .val (.int (159 : Int32)), .val (.int b), s9] [(.int b)]))
             refine own_st (fun t_ => XS.iload (own_here Y3) hx rfl (hb hby own_d2_210) rfl) ?_
             show own_Ends _ _ _ _ (T2.setTop (mkF m 212 #[.val (.ref r0), .val (.int x1), .val (.int x2), .val (.int j), .val (.int a), .val (.int (3 : Int32)), .val (.int (128 : Int32)), .val (.int (159 : Int32)), .val (.int b), s9] [(.int (159 : Int32)), (.int b)]))
             by_cases c212_35 : (159 : Int32) < b
             ·
              refine own_st (fun t_ => XS.icmpNo (own_here Y3) hx rfl (hb hby own_d2_212) rfl (XT.ii_le_f c212_35)) ?_
              show own_Ends _ _ _ _ (T2.setTop (mkF m 215 #[.val (.ref r0), .val (.int x1), .val (.int x2), .val (.int j), .val (.int a), .val (.int (3 : Int32)), .val (.int (128 : Int32)), .val (.int (159 : Int32)), .val (.int b), s9] []))
              refine own_st (fun t_ => XS.iconst (own_here Y3) hx rfl (hb hby own_d2_215) ) ?_
              show own_Ends _ _ _ _ (T2.setTop (mkF m 216 #[.val (.ref r0), .val (.int x1), .val (.int x2), .val (.int j), .val (.int a), .val (.int (3 : Int32)), .val (.int (128 : Int32)), .val (.int (159 : Int32)), .val (.int b), s9] [(.int (0 : Int32))]))
              have c21_5t := c21_5; simp only [own_lt] at c21_5t
              have c45_6t := c45_6; simp only [own_lt] at c45_6t
              have c53_7t := c53_7; simp only [own_lt] at c53_7t
              have c75_8t := c75_8; simp only [own_lt] at c75_8t
              have c86_27t := c86_27; simp only [own_eq] at c86_27t
              have c104_32t := c104_32; simp only [own_eq] at c104_32t
              have c205_34t := c205_34; simp only [own_lt] at c205_34t
              have c212_35t := c212_35; simp only [own_lt] at c212_35t
              have ra := own_u_rng xs i; rw [ua] at ra
              have f1 : (own_A1 (own_u xs i)) = false := by simp only [own_A1, ua, decide_eq_false_iff_not]; omega
              have f2 : (decide (i + 2 ≤ t) && own_A2 (own_u xs i) (own_u xs (i + 1))) = false := by simp only [own_A2, ua, u1, Bool.and_eq_false_iff, decide_eq_false_iff_not]; omega
              have f3 : (decide (i + 3 ≤ t) && own_A3 (own_u xs i) (own_u xs (i + 1)) (own_u xs (i + 2))) = false := by simp only [own_A3, ua, u1, Bool.and_eq_false_iff, decide_eq_false_iff_not]; omega
              have f4 : (decide (i + 4 ≤ t) && own_A4 (own_u xs i) (own_u xs (i + 1)) (own_u xs (i + 2)) (own_u xs (i + 3))) = false := by simp only [own_A4, ua, u1, Bool.and_eq_false_iff, decide_eq_false_iff_not]; omega
              refine own_retN Y3 hx hlk (t := .boolean) hret (by simp) (hb hby own_d2_216) (by decide) (by decide) ?_
              refine ⟨?_, rfl⟩
              have : own_V (own_u xs) t (t - f) f = false := by
                rw [hR0, ← hR]; obtain ⟨k', rfl⟩ : ∃ k', k = k' + 1 := ⟨k - 1, by omega⟩
                have hti : decide (t ≤ i) = false := by simp only [decide_eq_false_iff_not]; omega
                simp only [own_V, hti, f1, f2, f3, f4, Bool.false_and, Bool.or_false, Bool.false_or]
              rw [this]; rfl
             ·
              refine own_st (fun t_ => XS.icmpYes (own_here Y3) hx rfl (pc0 := 212) (pc' := 217) rfl (hb hby own_d2_212) rfl (XT.ii_le_t c212_35) (by decide) (by decide)) ?_
              show own_Ends _ _ _ _ (T2.setTop (mkF m 217 #[.val (.ref r0), .val (.int x1), .val (.int x2), .val (.int j), .val (.int a), .val (.int (3 : Int32)), .val (.int (128 : Int32)), .val (.int (159 : Int32)), .val (.int b), s9] []))
              refine own_st (fun t_ => XS.iloadN (own_here Y3) hx rfl (hb hby own_d2_217) rfl) ?_
              show own_Ends _ _ _ _ (T2.setTop (mkF m 218 #[.val (.ref r0), .val (.int x1), .val (.int x2), .val (.int j), .val (.int a), .val (.int (3 : Int32)), .val (.int (128 : Int32)), .val (.int (159 : Int32)), .val (.int b), s9] [(.int j)]))
              refine own_st (fun t_ => XS.iconst (own_here Y3) hx rfl (hb hby own_d2_218) ) ?_
              show own_Ends _ _ _ _ (T2.setTop (mkF m 219 #[.val (.ref r0), .val (.int x1), .val (.int x2), .val (.int j), .val (.int a), .val (.int (3 : Int32)), .val (.int (128 : Int32)), .val (.int (159 : Int32)), .val (.int b), s9] [(.int (2 : Int32)), (.int j)]))
              refine own_st (fun t_ => XS.iadd (own_here Y3) hx rfl (hb hby own_d2_219) rfl) ?_
              show own_Ends _ _ _ _ (T2.setTop (mkF m 220 #[.val (.ref r0), .val (.int x1), .val (.int x2), .val (.int j), .val (.int a), .val (.int (3 : Int32)), .val (.int (128 : Int32)), .val (.int (159 : Int32)), .val (.int b), s9] [(.int (j + (2 : Int32)))]))
              refine own_st (fun t_ => XS.istoreS (own_here Y3) hx rfl (hb hby own_d2_220) rfl rfl hs9) ?_
              show own_Ends _ _ _ _ (T2.setTop (mkF m 222 #[.val (.ref r0), .val (.int x1), .val (.int x2), .val (.int j), .val (.int a), .val (.int (3 : Int32)), .val (.int (128 : Int32)), .val (.int (159 : Int32)), .val (.int b), .val (.int (j + (2 : Int32)))] []))
              refine own_st (fun t_ => XS.iload (own_here Y3) hx rfl (hb hby own_d2_222) rfl) ?_
              show own_Ends _ _ _ _ (T2.setTop (mkF m 224 #[.val (.ref r0), .val (.int x1), .val (.int x2), .val (.int j), .val (.int a), .val (.int (3 : Int32)), .val (.int (128 : Int32)), .val (.int (159 : Int32)), .val (.int b), .val (.int (j + (2 : Int32)))] [(.int (j + (2 : Int32)))]))
              refine own_st (fun t_ => XS.iloadN (own_here Y3) hx rfl (hb hby own_d2_224) rfl) ?_
              show own_Ends _ _ _ _ (T2.setTop (mkF m 225 #[.val (.ref r0), .val (.int x1), .val (.int x2), .val (.int j), .val (.int a), .val (.int (3 : Int32)), .val (.int (128 : Int32)), .val (.int (159 : Int32)), .val (.int b), .val (.int (j + (2 : Int32)))] [(.int j), (.int (j + (2 : Int32)))]))
              refine own_st (fun t_ => XS.iload (own_here Y3) hx rfl (hb hby own_d2_225) rfl) ?_
              show own_Ends _ _ _ _ (T2.setTop (mkF m 227 #[.val (.ref r0), .val (.int x1), .val (.int x2), .val (.int j), .val (.int a), .val (.int (3 : Int32)), .val (.int (128 : Int32)), .val (.int (159 : Int32)), .val (.int b), .val (.int (j + (2 : Int32)))] [(.int (3 : Int32)), (.int j), (.int (j + (2 : Int32)))]))
              refine own_st (fun t_ => XS.iadd (own_here Y3) hx rfl (hb hby own_d2_227) rfl) ?_
              show own_Ends _ _ _ _ (T2.setTop (mkF m 228 #[.val (.ref r0), .val (.int x1), .val (.int x2), .val (.int j), .val (.int a), .val (.int (3 : Int32)), .val (.int (128 : Int32)), .val (.int (159 : Int32)), .val (.int b), .val (.int (j + (2 : Int32)))] [(.int (j + (3 : Int32))), (.int (j + (2 : Int32)))]))
              have ee0 := own_add hj own_l3 (by omega)
              refine own_st (fun t_ => XS.icmpNo (own_here Y3) hx rfl (hb hby own_d2_228) rfl (XT.ii_ge_f (by rw [own_lt, n2, ee0]; omega))) ?_
              show own_Ends _ _ _ _ (T2.setTop (mkF m 231 #[.val (.ref r0), .val (.int x1), .val (.int x2), .val (.int j), .val (.int a), .val (.int (3 : Int32)), .val (.int (128 : Int32)), .val (.int (159 : Int32)), .val (.int b), .val (.int (j + (2 : Int32)))] []))
              refine own_st (fun t_ => XS.aloadN (own_here Y3) hx rfl (hb hby own_d2_231) rfl rfl) ?_
              show own_Ends _ _ _ _ (T2.setTop (mkF m 232 #[.val (.ref r0), .val (.int x1), .val (.int x2), .val (.int j), .val (.int a), .val (.int (3 : Int32)), .val (.int (128 : Int32)), .val (.int (159 : Int32)), .val (.int b), .val (.int (j + (2 : Int32)))] [(.ref r0)]))
              refine own_st (fun t_ => XS.iload (own_here Y3) hx rfl (hb hby own_d2_232) rfl) ?_
              show own_Ends _ _ _ _ (T2.setTop (mkF m 234 #[.val (.ref r0), .val (.int x1), .val (.int x2), .val (.int j), .val (.int a), .val (.int (3 : Int32)), .val (.int (128 : Int32)), .val (.int (159 : Int32)), .val (.int b), .val (.int (j + (2 : Int32)))] [(.int (j + (2 : Int32))), (.ref r0)]))
              refine own_ldB Y3 hx hZ A (i := (i + 2)) n20 n21 (own_mlen (by omega)) (v := (.int (own_g xs (i + 2)))) (own_mget (own_mlen (by omega))) rfl rfl (hb hby own_d2_234) ?_
              show own_Ends _ _ _ _ (T2.setTop (mkF m 235 #[.val (.ref r0), .val (.int x1), .val (.int x2), .val (.int j), .val (.int a), .val (.int (3 : Int32)), .val (.int (128 : Int32)), .val (.int (159 : Int32)), .val (.int b), .val (.int (j + (2 : Int32)))] [(.int (own_g xs (i + 2)))]))
              refine own_st (fun t_ => XS.sipush (own_here Y3) hx rfl (hb hby own_d2_235) ) ?_
              show own_Ends _ _ _ _ (T2.setTop (mkF m 238 #[.val (.ref r0), .val (.int x1), .val (.int x2), .val (.int j), .val (.int a), .val (.int (3 : Int32)), .val (.int (128 : Int32)), .val (.int (159 : Int32)), .val (.int b), .val (.int (j + (2 : Int32)))] [(.int (192 : Int32)), (.int (own_g xs (i + 2)))]))
              refine own_st (fun t_ => XS.iand (own_here Y3) hx rfl (hb hby own_d2_238) rfl) ?_
              show own_Ends _ _ _ _ (T2.setTop (mkF m 239 #[.val (.ref r0), .val (.int x1), .val (.int x2), .val (.int j), .val (.int a), .val (.int (3 : Int32)), .val (.int (128 : Int32)), .val (.int (159 : Int32)), .val (.int b), .val (.int (j + (2 : Int32)))] [(.int ((own_g xs (i + 2)) &&& (192 : Int32)))]))
              refine own_st (fun t_ => XS.sipush (own_here Y3) hx rfl (hb hby own_d2_239) ) ?_
              show own_Ends _ _ _ _ (T2.setTop (mkF m 242 #[.val (.ref r0), .val (.int x1), .val (.int x2), .val (.int j), .val (.int a), .val (.int (3 : Int32)), .val (.int (128 : Int32)), .val (.int (159 : Int32)), .val (.int b), .val (.int (j + (2 : Int32)))] [(.int (128 : Int32)), (.int ((own_g xs (i + 2)) &&& (192 : Int32)))]))
              by_cases c242_36 : ((own_g xs (i + 2)) &&& (192 : Int32)) = (128 : Int32)
              ·
               refine own_st (fun t_ => XS.icmpYes (own_here Y3) hx rfl (pc0 := 242) (pc' := 247) rfl (hb hby own_d2_242) rfl (XT.ii_eq_t c242_36) (by decide) (by decide)) ?_
               show own_Ends _ _ _ _ (T2.setTop (mkF m 247 #[.val (.ref r0), .val (.int x1), .val (.int x2), .val (.int j), .val (.int a), .val (.int (3 : Int32)), .val (.int (128 : Int32)), .val (.int (159 : Int32)), .val (.int b), .val (.int (j + (2 : Int32)))] []))
               refine own_st (fun t_ => XS.iinc (own_here Y3) hx rfl (hb hby own_d2_247) rfl (l' := #[.val (.ref r0), .val (.int x1), .val (.int x2), .val (.int j), .val (.int a), .val (.int (3 : Int32)), .val (.int (128 : Int32)), .val (.int (159 : Int32)), .val (.int b), .val (.int ((j + (2 : Int32)) + (1 : Int32)))]) rfl) ?_
               show own_Ends _ _ _ _ (T2.setTop (mkF m 250 #[.val (.ref r0), .val (.int x1), .val (.int x2), .val (.int j), .val (.int a), .val (.int (3 : Int32)), .val (.int (128 : Int32)), .val (.int (159 : Int32)), .val (.int b), .val (.int ((j + (2 : Int32)) + (1 : Int32)))] []))
               refine own_st (fun t_ => XS.goto (own_here Y3) hx rfl (pc0 := 250) (pc' := 222) rfl (hb hby own_d2_250) (by decide) (by decide)) ?_
               show own_Ends _ _ _ _ (T2.setTop (mkF m 222 #[.val (.ref r0), .val (.int x1), .val (.int x2), .val (.int j), .val (.int a), .val (.int (3 : Int32)), .val (.int (128 : Int32)), .val (.int (159 : Int32)), .val (.int b), .val (.int ((j + (2 : Int32)) + (1 : Int32)))] []))
               refine own_st (fun t_ => XS.iload (own_here Y3) hx rfl (hb hby own_d2_222) rfl) ?_
               show own_Ends _ _ _ _ (T2.setTop (mkF m 224 #[.val (.ref r0), .val (.int x1), .val (.int x2), .val (.int j), .val (.int a), .val (.int (3 : Int32)), .val (.int (128 : Int32)), .val (.int (159 : Int32)), .val (.int b), .val (.int ((j + (2 : Int32)) + (1 : Int32)))] [(.int ((j + (2 : Int32)) + (1 : Int32)))]))
               refine own_st (fun t_ => XS.iloadN (own_here Y3) hx rfl (hb hby own_d2_224) rfl) ?_
               show own_Ends _ _ _ _ (T2.setTop (mkF m 225 #[.val (.ref r0), .val (.int x1), .val (.int x2), .val (.int j), .val (.int a), .val (.int (3 : Int32)), .val (.int (128 : Int32)), .val (.int (159 : Int32)), .val (.int b), .val (.int ((j + (2 : Int32)) + (1 : Int32)))] [(.int j), (.int ((j + (2 : Int32)) + (1 : Int32)))]))
               refine own_st (fun t_ => XS.iload (own_here Y3) hx rfl (hb hby own_d2_225) rfl) ?_
               show own_Ends _ _ _ _ (T2.setTop (mkF m 227 #[.val (.ref r0), .val (.int x1), .val (.int x2), .val (.int j), .val (.int a), .val (.int (3 : Int32)), .val (.int (128 : Int32)), .val (.int (159 : Int32)), .val (.int b), .val (.int ((j + (2 : Int32)) + (1 : Int32)))] [(.int (3 : Int32)), (.int j), (.int ((j + (2 : Int32)) + (1 : Int32)))]))
               refine own_st (fun t_ => XS.iadd (own_here Y3) hx rfl (hb hby own_d2_227) rfl) ?_
               show own_Ends _ _ _ _ (T2.setTop (mkF m 228 #[.val (.ref r0), .val (.int x1), .val (.int x2), .val (.int j), .val (.int a), .val (.int (3 : Int32)), .val (.int (128 : Int32)), .val (.int (159 : Int32)), .val (.int b), .val (.int ((j + (2 : Int32)) + (1 : Int32)))] [(.int (j + (3 : Int32))), (.int ((j + (2 : Int32)) + (1 : Int32)))]))
               have ee1 := own_add hj own_l3 (by omega)
               refine own_st (fun t_ => XS.icmpYes (own_here Y3) hx rfl (pc0 := 228) (pc' := 253) rfl (hb hby own_d2_228) rfl (XT.ii_ge_t (by rw [own_lt, (own_add n2 own_l1 (by omega)), ee1]; omega)) (by decide) (by decide)) ?_
               show own_Ends _ _ _ _ (T2.setTop (mkF m 253 #[.val (.ref r0), .val (.int x1), .val (.int x2), .val (.int j), .val (.int a), .val (.int (3 : Int32)), .val (.int (128 : Int32)), .val (.int (159 : Int32)), .val (.int b), .val (.int ((j + (2 : Int32)) + (1 : Int32)))] []))
               refine own_st (fun t_ => XS.iloadN (own_here Y3) hx rfl (hb hby own_d2_253) rfl) ?_
               show own_Ends _ _ _ _ (T2.setTop (mkF m 254 #[.val (.ref r0), .val (.int x1), .val (.int x2), .val (.int j), .val (.int a), .val (.int (3 : Int32)), .val (.int (128 : Int32)), .val (.int (159 : Int32)), .val (.int b), .val (.int ((j + (2 : Int32)) + (1 : Int32)))] [(.int j)]))
               refine own_st (fun t_ => XS.iload (own_here Y3) hx rfl (hb hby own_d2_254) rfl) ?_
               show own_Ends _ _ _ _ (T2.setTop (mkF m 256 #[.val (.ref r0), .val (.int x1), .val (.int x2), .val (.int j), .val (.int a), .val (.int (3 : Int32)), .val (.int (128 : Int32)), .val (.int (159 : Int32)), .val (.int b), .val (.int ((j + (2 : Int32)) + (1 : Int32)))] [(.int (3 : Int32)), (.int j)]))
               refine own_st (fun t_ => XS.iadd (own_here Y3) hx rfl (hb hby own_d2_256) rfl) ?_
               show own_Ends _ _ _ _ (T2.setTop (mkF m 257 #[.val (.ref r0), .val (.int x1), .val (.int x2), .val (.int j), .val (.int a), .val (.int (3 : Int32)), .val (.int (128 : Int32)), .val (.int (159 : Int32)), .val (.int b), .val (.int ((j + (2 : Int32)) + (1 : Int32)))] [(.int (j + (3 : Int32)))]))
               refine own_st (fun t_ => XS.istoreN (own_here Y3) hx rfl (hb hby own_d2_257) rfl (l' := #[.val (.ref r0), .val (.int x1), .val (.int x2), .val (.int (j + (3 : Int32))), .val (.int a), .val (.int (3 : Int32)), .val (.int (128 : Int32)), .val (.int (159 : Int32)), .val (.int b), .val (.int ((j + (2 : Int32)) + (1 : Int32)))]) rfl) ?_
               show own_Ends _ _ _ _ (T2.setTop (mkF m 258 #[.val (.ref r0), .val (.int x1), .val (.int x2), .val (.int (j + (3 : Int32))), .val (.int a), .val (.int (3 : Int32)), .val (.int (128 : Int32)), .val (.int (159 : Int32)), .val (.int b), .val (.int ((j + (2 : Int32)) + (1 : Int32)))] []))
               refine own_st (fun t_ => XS.goto (own_here Y3) hx rfl (pc0 := 258) (pc' := 2) rfl (hb hby own_d2_258) (by decide) (by decide)) ?_
               show own_Ends _ _ _ _ (T2.setTop (mkF m 2 #[.val (.ref r0), .val (.int x1), .val (.int x2), .val (.int (j + (3 : Int32))), .val (.int a), .val (.int (3 : Int32)), .val (.int (128 : Int32)), .val (.int (159 : Int32)), .val (.int b), .val (.int ((j + (2 : Int32)) + (1 : Int32)))] []))
               have g2 := (own_cont (hB (i + 2))).mp c242_36; have g2' : 128 ≤ own_u xs (i + 2) ∧ own_u xs (i + 2) ≤ 191 := g2
               have c21_5t := c21_5; simp only [own_lt] at c21_5t
               have c45_6t := c45_6; simp only [own_lt] at c45_6t
               have c53_7t := c53_7; simp only [own_lt] at c53_7t
               have c75_8t := c75_8; simp only [own_lt] at c75_8t
               have c86_27t := c86_27; simp only [own_eq] at c86_27t
               have c104_32t := c104_32; simp only [own_eq] at c104_32t
               have c205_34t := c205_34; simp only [own_lt] at c205_34t
               have c212_35t := c212_35; simp only [own_lt] at c212_35t
               have ra := own_u_rng xs i; rw [ua] at ra
               have f1 : (own_A1 (own_u xs i)) = false := by simp only [own_A1, ua, decide_eq_false_iff_not]; omega
               have f2 : (decide (i + 2 ≤ t) && own_A2 (own_u xs i) (own_u xs (i + 1))) = false := by simp only [own_A2, ua, u1, Bool.and_eq_false_iff, decide_eq_false_iff_not]; omega
               have f3 : (decide (i + 3 ≤ t) && own_A3 (own_u xs i) (own_u xs (i + 1)) (own_u xs (i + 2))) = true := by simp only [own_A3, ua, u1, Bool.and_eq_true, decide_eq_true_eq]; omega
               have f4 : (decide (i + 4 ≤ t) && own_A4 (own_u xs i) (own_u xs (i + 1)) (own_u xs (i + 2)) (own_u xs (i + 3))) = false := by simp only [own_A4, ua, u1, Bool.and_eq_false_iff, decide_eq_false_iff_not]; omega
               have hR2 : own_V (own_u xs) t (k - 1) (i + 3) = R := by
                 rw [← hR]; obtain ⟨k', rfl⟩ : ∃ k', k = k' + 1 := ⟨k - 1, by omega⟩
                 have hti : decide (t ≤ i) = false := by simp only [decide_eq_false_iff_not]; omega
                 simp only [own_V, Nat.add_sub_cancel, hti, f1, f2, f3, f4, Bool.false_and, Bool.true_and, Bool.or_false, Bool.false_or]
               exact ih (k - 1) (by omega) T2  (i + 3) ((j + (3 : Int32))) (.val (.int a)) (.val (.int (3 : Int32))) (.val (.int (128 : Int32))) (.val (.int (159 : Int32))) (.val (.int b)) (.val (.int ((j + (2 : Int32)) + (1 : Int32)))) Y3  (own_add hj own_l3 (by omega)) (by omega) (by omega) hR2 (One.val rfl) (One.val rfl) (One.val rfl) (One.val rfl) (One.val rfl) (One.val rfl)
              ·
               refine own_st (fun t_ => XS.icmpNo (own_here Y3) hx rfl (hb hby own_d2_242) rfl (XT.ii_eq_f c242_36)) ?_
               show own_Ends _ _ _ _ (T2.setTop (mkF m 245 #[.val (.ref r0), .val (.int x1), .val (.int x2), .val (.int j), .val (.int a), .val (.int (3 : Int32)), .val (.int (128 : Int32)), .val (.int (159 : Int32)), .val (.int b), .val (.int (j + (2 : Int32)))] []))
               refine own_st (fun t_ => XS.iconst (own_here Y3) hx rfl (hb hby own_d2_245) ) ?_
               show own_Ends _ _ _ _ (T2.setTop (mkF m 246 #[.val (.ref r0), .val (.int x1), .val (.int x2), .val (.int j), .val (.int a), .val (.int (3 : Int32)), .val (.int (128 : Int32)), .val (.int (159 : Int32)), .val (.int b), .val (.int (j + (2 : Int32)))] [(.int (0 : Int32))]))
               have hc := mt (own_cont (hB (i + 2))).mpr c242_36; have hc' : ¬ (128 ≤ own_u xs (i + 2) ∧ own_u xs (i + 2) ≤ 191) := hc
               have c21_5t := c21_5; simp only [own_lt] at c21_5t
               have c45_6t := c45_6; simp only [own_lt] at c45_6t
               have c53_7t := c53_7; simp only [own_lt] at c53_7t
               have c75_8t := c75_8; simp only [own_lt] at c75_8t
               have c86_27t := c86_27; simp only [own_eq] at c86_27t
               have c104_32t := c104_32; simp only [own_eq] at c104_32t
               have c205_34t := c205_34; simp only [own_lt] at c205_34t
               have c212_35t := c212_35; simp only [own_lt] at c212_35t
               have ra := own_u_rng xs i; rw [ua] at ra
               have f1 : (own_A1 (own_u xs i)) = false := by simp only [own_A1, ua, decide_eq_false_iff_not]; omega
               have f2 : (decide (i + 2 ≤ t) && own_A2 (own_u xs i) (own_u xs (i + 1))) = false := by simp only [own_A2, ua, u1, Bool.and_eq_false_iff, decide_eq_false_iff_not]; omega
               have f3 : (decide (i + 3 ≤ t) && own_A3 (own_u xs i) (own_u xs (i + 1)) (own_u xs (i + 2))) = false := by simp only [own_A3, ua, u1, Bool.and_eq_false_iff, decide_eq_false_iff_not]; omega
               have f4 : (decide (i + 4 ≤ t) && own_A4 (own_u xs i) (own_u xs (i + 1)) (own_u xs (i + 2)) (own_u xs (i + 3))) = false := by simp only [own_A4, ua, u1, Bool.and_eq_false_iff, decide_eq_false_iff_not]; omega
               refine own_retN Y3 hx hlk (t := .boolean) hret (by simp) (hb hby own_d2_246) (by decide) (by decide) ?_
               refine ⟨?_, rfl⟩
               have : own_V (own_u xs) t (t - f) f = false := by
                 rw [hR0, ← hR]; obtain ⟨k', rfl⟩ : ∃ k', k = k' + 1 := ⟨k - 1, by omega⟩
                 have hti : decide (t ≤ i) = false := by simp only [decide_eq_false_iff_not]; omega
                 simp only [own_V, hti, f1, f2, f3, f4, Bool.false_and, Bool.or_false, Bool.false_or]
               rw [this]; rfl
          ·
           refine own_st (fun t_ => XS.icmpYes (own_here Y3) hx rfl (pc0 := 104) (pc' := 113) rfl (hb hby own_d2_104) rfl (XT.ii_ne_t c104_32) (by decide) (by decide)) ?_
           show own_Ends _ _ _ _ (T2.setTop (mkF m 113 #[.val (.ref r0), .val (.int x1), .val (.int x2), .val (.int j), .val (.int a), .val (.int (3 : Int32)), .val (.int (128 : Int32)), .val (.int (191 : Int32)), s8, s9] []))
           refine own_st (fun t_ => XS.iload (own_here Y3) hx rfl (hb hby own_d2_113) rfl) ?_
           show own_Ends _ _ _ _ (T2.setTop (mkF m 115 #[.val (.ref r0), .val (.int x1), .val (.int x2), .val (.int j), .val (.int a), .val (.int (3 : Int32)), .val (.int (128 : Int32)), .val (.int (191 : Int32)), s8, s9] [(.int (191 : Int32))]))
           refine own_st (fun t_ => XS.istore (own_here Y3) hx rfl (hb hby own_d2_115) rfl (l' := #[.val (.ref r0), .val (.int x1), .val (.int x2), .val (.int j), .val (.int a), .val (.int (3 : Int32)), .val (.int (128 : Int32)), .val (.int (191 : Int32)), s8, s9]) rfl) ?_
           show own_Ends _ _ _ _ (T2.setTop (mkF m 117 #[.val (.ref r0), .val (.int x1), .val (.int x2), .val (.int j), .val (.int a), .val (.int (3 : Int32)), .val (.int (128 : Int32)), .val (.int (191 : Int32)), s8, s9] []))
           refine own_st (fun t_ => XS.goto (own_here Y3) hx rfl (pc0 := 117) (pc' := 180) rfl (hb hby own_d2_117) (by decide) (by decide)) ?_
           show own_Ends _ _ _ _ (T2.setTop (mkF m 180 #[.val (.ref r0), .val (.int x1), .val (.int x2), .val (.int j), .val (.int a), .val (.int (3 : Int32)), .val (.int (128 : Int32)), .val (.int (191 : Int32)), s8, s9] []))
           refine own_st (fun t_ => XS.iloadN (own_here Y3) hx rfl (hb hby own_d2_180) rfl) ?_
           show own_Ends _ _ _ _ (T2.setTop (mkF m 181 #[.val (.ref r0), .val (.int x1), .val (.int x2), .val (.int j), .val (.int a), .val (.int (3 : Int32)), .val (.int (128 : Int32)), .val (.int (191 : Int32)), s8, s9] [(.int x2)]))
           refine own_st (fun t_ => XS.iloadN (own_here Y3) hx rfl (hb hby own_d2_181) rfl) ?_
           show own_Ends _ _ _ _ (T2.setTop (mkF m 182 #[.val (.ref r0), .val (.int x1), .val (.int x2), .val (.int j), .val (.int a), .val (.int (3 : Int32)), .val (.int (128 : Int32)), .val (.int (191 : Int32)), s8, s9] [(.int j), (.int x2)]))
           refine own_st (fun t_ => XS.isub (own_here Y3) hx rfl (hb hby own_d2_182) rfl) ?_
           show own_Ends _ _ _ _ (T2.setTop (mkF m 183 #[.val (.ref r0), .val (.int x1), .val (.int x2), .val (.int j), .val (.int a), .val (.int (3 : Int32)), .val (.int (128 : Int32)), .val (.int (191 : Int32)), s8, s9] [(.int (x2 - j))]))
           refine own_st (fun t_ => XS.iload (own_here Y3) hx rfl (hb hby own_d2_183) rfl) ?_
           show own_Ends _ _ _ _ (T2.setTop (mkF m 185 #[.val (.ref r0), .val (.int x1), .val (.int x2), .val (.int j), .val (.int a), .val (.int (3 : Int32)), .val (.int (128 : Int32)), .val (.int (191 : Int32)), s8, s9] [(.int (3 : Int32)), (.int (x2 - j))]))
           by_cases c185_37 : (x2 - j) < (3 : Int32)
           ·
            refine own_st (fun t_ => XS.icmpNo (own_here Y3) hx rfl (hb hby own_d2_185) rfl (XT.ii_ge_f c185_37)) ?_
            show own_Ends _ _ _ _ (T2.setTop (mkF m 188 #[.val (.ref r0), .val (.int x1), .val (.int x2), .val (.int j), .val (.int a), .val (.int (3 : Int32)), .val (.int (128 : Int32)), .val (.int (191 : Int32)), s8, s9] []))
            refine own_st (fun t_ => XS.iconst (own_here Y3) hx rfl (hb hby own_d2_188) ) ?_
            show own_Ends _ _ _ _ (T2.setTop (mkF m 189 #[.val (.ref r0), .val (.int x1), .val (.int x2), .val (.int j), .val (.int a), .val (.int (3 : Int32)), .val (.int (128 : Int32)), .val (.int (191 : Int32)), s8, s9] [(.int (0 : Int32))]))
            have hroom : ¬ i + 3 ≤ t := by have := c185_37; rw [own_lt, own_sub ht hj] at this; have e : (3 : Int32).toInt = 3 := rfl; omega
            have c21_5t := c21_5; simp only [own_lt] at c21_5t
            have c45_6t := c45_6; simp only [own_lt] at c45_6t
            have c53_7t := c53_7; simp only [own_lt] at c53_7t
            have c75_8t := c75_8; simp only [own_lt] at c75_8t
            have c86_27t := c86_27; simp only [own_eq] at c86_27t
            have c104_32t := c104_32; simp only [own_eq] at c104_32t
            have ra := own_u_rng xs i; rw [ua] at ra
            have f1 : (own_A1 (own_u xs i)) = false := by simp only [own_A1, ua, decide_eq_false_iff_not]; omega
            have f2 : (decide (i + 2 ≤ t) && own_A2 (own_u xs i) (own_u xs (i + 1))) = false := by simp only [own_A2, ua, Bool.and_eq_false_iff, decide_eq_false_iff_not]; omega
            have f3 : (decide (i + 3 ≤ t) && own_A3 (own_u xs i) (own_u xs (i + 1)) (own_u xs (i + 2))) = false := by simp only [own_A3, ua, Bool.and_eq_false_iff, decide_eq_false_iff_not]; omega
            have f4 : (decide (i + 4 ≤ t) && own_A4 (own_u xs i) (own_u xs (i + 1)) (own_u xs (i + 2)) (own_u xs (i + 3))) = false := by simp only [own_A4, ua, Bool.and_eq_false_iff, decide_eq_false_iff_not]; omega
            refine own_retN Y3 hx hlk (t := .boolean) hret (by simp) (hb hby own_d2_189) (by decide) (by decide) ?_
            refine ⟨?_, rfl⟩
            have : own_V (own_u xs) t (t - f) f = false := by
              rw [hR0, ← hR]; obtain ⟨k', rfl⟩ : ∃ k', k = k' + 1 := ⟨k - 1, by omega⟩
              have hti : decide (t ≤ i) = false := by simp only [decide_eq_false_iff_not]; omega
              simp only [own_V, hti, f1, f2, f3, f4, Bool.false_and, Bool.or_false, Bool.false_or]
            rw [this]; rfl
           ·
            refine own_st (fun t_ => XS.icmpYes (own_here Y3) hx rfl (pc0 := 185) (pc' := 190) rfl (hb hby own_d2_185) rfl (XT.ii_ge_t c185_37) (by decide) (by decide)) ?_
            show own_Ends _ _ _ _ (T2.setTop (mkF m 190 #[.val (.ref r0), .val (.int x1), .val (.int x2), .val (.int j), .val (.int a), .val (.int (3 : Int32)), .val (.int (128 : Int32)), .val (.int (191 : Int32)), s8, s9] []))
            have hroom : i + 3 ≤ t := by have := c185_37; rw [own_lt, own_sub ht hj] at this; have e : (3 : Int32).toInt = 3 := rfl; omega
            have n1 := own_add hj own_l1 (by omega)
            obtain ⟨n10, n11⟩ := own_nat n1
            have n2 := own_add hj own_l2 (by omega)
            obtain ⟨n20, n21⟩ := own_nat n2
            refine own_st (fun t_ => XS.aloadN (own_here Y3) hx rfl (hb hby own_d2_190) rfl rfl) ?_
            show own_Ends _ _ _ _ (T2.setTop (mkF m 191 #[.val (.ref r0), .val (.int x1), .val (.int x2), .val (.int j), .val (.int a), .val (.int (3 : Int32)), .val (.int (128 : Int32)), .val (.int (191 : Int32)), s8, s9] [(.ref r0)]))
            refine own_st (fun t_ => XS.iloadN (own_here Y3) hx rfl (hb hby own_d2_191) rfl) ?_
            show own_Ends _ _ _ _ (T2.setTop (mkF m 192 #[.val (.ref r0), .val (.int x1), .val (.int x2), .val (.int j), .val (.int a), .val (.int (3 : Int32)), .val (.int (128 : Int32)), .val (.int (191 : Int32)), s8, s9] [(.int j), (.ref r0)]))
            refine own_st (fun t_ => XS.iconst (own_here Y3) hx rfl (hb hby own_d2_192) ) ?_
            show own_Ends _ _ _ _ (T2.setTop (mkF m 193 #[.val (.ref r0), .val (.int x1), .val (.int x2), .val (.int j), .val (.int a), .val (.int (3 : Int32)), .val (.int (128 : Int32)), .val (.int (191 : Int32)), s8, s9] [(.int (1 : Int32)), (.int j), (.ref r0)]))
            refine own_st (fun t_ => XS.iadd (own_here Y3) hx rfl (hb hby own_d2_193) rfl) ?_
            show own_Ends _ _ _ _ (T2.setTop (mkF m 194 #[.val (.ref r0), .val (.int x1), .val (.int x2), .val (.int j), .val (.int a), .val (.int (3 : Int32)), .val (.int (128 : Int32)), .val (.int (191 : Int32)), s8, s9] [(.int (j + (1 : Int32))), (.ref r0)]))
            refine own_ldB Y3 hx hZ A (i := (i + 1)) n10 n11 (own_mlen (by omega)) (v := (.int (own_g xs (i + 1)))) (own_mget (own_mlen (by omega))) rfl rfl (hb hby own_d2_194) ?_
            show own_Ends _ _ _ _ (T2.setTop (mkF m 195 #[.val (.ref r0), .val (.int x1), .val (.int x2), .val (.int j), .val (.int a), .val (.int (3 : Int32)), .val (.int (128 : Int32)), .val (.int (191 : Int32)), s8, s9] [(.int (own_g xs (i + 1)))]))
            refine own_st (fun t_ => XS.sipush (own_here Y3) hx rfl (hb hby own_d2_195) ) ?_
            show own_Ends _ _ _ _ (T2.setTop (mkF m 198 #[.val (.ref r0), .val (.int x1), .val (.int x2), .val (.int j), .val (.int a), .val (.int (3 : Int32)), .val (.int (128 : Int32)), .val (.int (191 : Int32)), s8, s9] [(.int (255 : Int32)), (.int (own_g xs (i + 1)))]))
            refine own_st (fun t_ => XS.iand (own_here Y3) hx rfl (hb hby own_d2_198) rfl) ?_
            show own_Ends _ _ _ _ (T2.setTop (mkF m 199 #[.val (.ref r0), .val (.int x1), .val (.int x2), .val (.int j), .val (.int a), .val (.int (3 : Int32)), .val (.int (128 : Int32)), .val (.int (191 : Int32)), s8, s9] [(.int ((own_g xs (i + 1)) &&& (255 : Int32)))]))
            refine own_st (fun t_ => XS.istoreS (own_here Y3) hx rfl (hb hby own_d2_199) rfl rfl hs8) ?_
            show own_Ends _ _ _ _ (T2.setTop (mkF m 201 #[.val (.ref r0), .val (.int x1), .val (.int x2), .val (.int j), .val (.int a), .val (.int (3 : Int32)), .val (.int (128 : Int32)), .val (.int (191 : Int32)), .val (.int ((own_g xs (i + 1)) &&& (255 : Int32))), s9] []))
            generalize hb_ : ((own_g xs (i + 1)) &&& (255 : Int32)) = b
            have u1 : own_u xs (i + 1) = b.toInt := by rw [own_u, hb_]
            refine own_st (fun t_ => XS.iload (own_here Y3) hx rfl (hb hby own_d2_201) rfl) ?_
            show own_Ends _ _ _ _ (T2.setTop (mkF m 203 #[.val (.ref r0), .val (.int x1), .val (.int x2), .val (.int j), .val (.int a), .val (.int (3 : Int32)), .val (.int (128 : Int32)), .val (.int (191 : Int32)), .val (.int b), s9] [(.int b)]))
            refine own_st (fun t_ => XS.iload (own_here Y3) hx rfl (hb hby own_d2_203) rfl) ?_
            show own_Ends _ _ _ _ (T2.setTop (mkF m 205 #[.val (.ref r0), .val (.int x1), .val (.int x2), .val (.int j), .val (.int a), .val (.int (3 : Int32)), .val (.int (128 : Int32)), .val (.int (191 : Int32)), .val (.int b), s9] [(.int (128 : Int32)), (.int b)]))
            by_cases c205_38 : b < (128 : Int32)
            ·
             refine own_st (fun t_ => XS.icmpYes (own_here Y3) hx rfl (pc0 := 205) (pc' := 215) rfl (hb hby own_d2_205) rfl (XT.ii_lt_t c205_38) (by decide) (by decide)) ?_
             show own_Ends _ _ _ _ (T2.setTop (mkF m 215 #[.val (.ref r0), .val (.int x1), .val (.int x2), .val (.int j), .val (.int a), .val (.int (3 : Int32)), .val (.int (128 : Int32)), .val (.int (191 : Int32)), .val (.int b), s9] []))
             refine own_st (fun t_ => XS.iconst (own_here Y3) hx rfl (hb hby own_d2_215) ) ?_
             show own_Ends _ _ _ _ (T2.setTop (mkF m 216 #[.val (.ref r0), .val (.int x1), .val (.int x2), .val (.int j), .val (.int a), .val (.int (3 : Int32)), .val (.int (128 : Int32)), .val (.int (191 : Int32)), .val (.int b), s9] [(.int (0 : Int32))]))
             have c21_5t := c21_5; simp only [own_lt] at c21_5t
             have c45_6t := c45_6; simp only [own_lt] at c45_6t
             have c53_7t := c53_7; simp only [own_lt] at c53_7t
             have c75_8t := c75_8; simp only [own_lt] at c75_8t
             have c86_27t := c86_27; simp only [own_eq] at c86_27t
             have c104_32t := c104_32; simp only [own_eq] at c104_32t
             have c205_38t := c205_38; simp only [own_lt] at c205_38t
             have ra := own_u_rng xs i; rw [ua] at ra
             have f1 : (own_A1 (own_u xs i)) = false := by simp only [own_A1, ua, decide_eq_false_iff_not]; omega
             have f2 : (decide (i + 2 ≤ t) && own_A2 (own_u xs i) (own_u xs (i + 1))) = false := by simp only [own_A2, ua, u1, Bool.and_eq_false_iff, decide_eq_false_iff_not]; omega
             have f3 : (decide (i + 3 ≤ t) && own_A3 (own_u xs i) (own_u xs (i + 1)) (own_u xs (i + 2))) = false := by simp only [own_A3, ua, u1, Bool.and_eq_false_iff, decide_eq_false_iff_not]; omega
             have f4 : (decide (i + 4 ≤ t) && own_A4 (own_u xs i) (own_u xs (i + 1)) (own_u xs (i + 2)) (own_u xs (i + 3))) = false := by simp only [own_A4, ua, u1, Bool.and_eq_false_iff, decide_eq_false_iff_not]; omega
             refine own_retN Y3 hx hlk (t := .boolean) hret (by simp) (hb hby own_d2_216) (by decide) (by decide) ?_
             refine ⟨?_, rfl⟩
             have : own_V (own_u xs) t (t - f) f = false := by
               rw [hR0, ← hR]; obtain ⟨k', rfl⟩ : ∃ k', k = k' + 1 := ⟨k - 1, by omega⟩
               have hti : decide (t ≤ i) = false := by simp only [decide_eq_false_iff_not]; omega
               simp only [own_V, hti, f1, f2, f3, f4, Bool.false_and, Bool.or_false, Bool.false_or]
             rw [this]; rfl
            ·
             refine own_st (fun t_ => XS.icmpNo (own_here Y3) hx rfl (hb hby own_d2_205) rfl (XT.ii_lt_f c205_38)) ?_
             show own_Ends _ _ _ _ (T2.setTop (mkF m 208 #[.val (.ref r0), .val (.int x1), .val (.int x2), .val (.int j), .val (.int a), .val (.int (3 : Int32)), .val (.int (128 : Int32)), .val (.int (191 : Int32)), .val (.int b), s9] []))
             refine own_st (fun t_ => XS.iload (own_here Y3) hx rfl (hb hby own_d2_208) rfl) ?_
             show own_Ends _ _ _ _ (T2.setTop (mkF m 210 #[.val (.ref r0), .val (.int x1), .val (.int x2), .val (.int j), .val (.int a), .val (.int (3 : Int32)), .val (.int (128 : Int32)), .val (.int (191 : Int32)), .val (.int b), s9] [(.int b)]))
             refine own_st (fun t_ => XS.iload (own_here Y3) hx rfl (hb hby own_d2_210) rfl) ?_
             show own_Ends _ _ _ _ (T2.setTop (mkF m 212 #[.val (.ref r0), .val (.int x1), .val (.int x2), .val (.int j), .val (.int a), .val (.int (3 : Int32)), .val (.int (128 : Int32)), .val (.int (191 : Int32)), .val (.int b), s9] [(.int (191 : Int32)), (.int b)]))
             by_cases c212_39 : (191 : Int32) < b
             ·
              refine own_st (fun t_ => XS.icmpNo (own_here Y3) hx rfl (hb hby own_d2_212) rfl (XT.ii_le_f c212_39)) ?_
              show own_Ends _ _ _ _ (T2.setTop (mkF m 215 #[.val (.ref r0), .val (.int x1), .val (.int x2), .val (.int j), .val (.int a), .val (.int (3 : Int32)), .val (.int (128 : Int32)), .val (.int (191 : Int32)), .val (.int b), s9] []))
              refine own_st (fun t_ => XS.iconst (own_here Y3) hx rfl (hb hby own_d2_215) ) ?_
              show own_Ends _ _ _ _ (T2.setTop (mkF m 216 #[.val (.ref r0), .val (.int x1), .val (.int x2), .val (.int j), .val (.int a), .val (.int (3 : Int32)), .val (.int (128 : Int32)), .val (.int (191 : Int32)), .val (.int b), s9] [(.int (0 : Int32))]))
              have c21_5t := c21_5; simp only [own_lt] at c21_5t
              have c45_6t := c45_6; simp only [own_lt] at c45_6t
              have c53_7t := c53_7; simp only [own_lt] at c53_7t
              have c75_8t := c75_8; simp only [own_lt] at c75_8t
              have c86_27t := c86_27; simp only [own_eq] at c86_27t
              have c104_32t := c104_32; simp only [own_eq] at c104_32t
              have c205_38t := c205_38; simp only [own_lt] at c205_38t
              have c212_39t := c212_39; simp only [own_lt] at c212_39t
              have ra := own_u_rng xs i; rw [ua] at ra
              have f1 : (own_A1 (own_u xs i)) = false := by simp only [own_A1, ua, decide_eq_false_iff_not]; omega
              have f2 : (decide (i + 2 ≤ t) && own_A2 (own_u xs i) (own_u xs (i + 1))) = false := by simp only [own_A2, ua, u1, Bool.and_eq_false_iff, decide_eq_false_iff_not]; omega
              have f3 : (decide (i + 3 ≤ t) && own_A3 (own_u xs i) (own_u xs (i + 1)) (own_u xs (i + 2))) = false := by simp only [own_A3, ua, u1, Bool.and_eq_false_iff, decide_eq_false_iff_not]; omega
              have f4 : (decide (i + 4 ≤ t) && own_A4 (own_u xs i) (own_u xs (i + 1)) (own_u xs (i + 2)) (own_u xs (i + 3))) = false := by simp only [own_A4, ua, u1, Bool.and_eq_false_iff, decide_eq_false_iff_not]; omega
              refine own_retN Y3 hx hlk (t := .boolean) hret (by simp) (hb hby own_d2_216) (by decide) (by decide) ?_
              refine ⟨?_, rfl⟩
              have : own_V (own_u xs) t (t - f) f = false := by
                rw [hR0, ← hR]; obtain ⟨k', rfl⟩ : ∃ k', k = k' + 1 := ⟨k - 1, by omega⟩
                have hti : decide (t ≤ i) = false := by simp only [decide_eq_false_iff_not]; omega
                simp only [own_V, hti, f1, f2, f3, f4, Bool.false_and, Bool.or_false, Bool.false_or]
              rw [this]; rfl
             ·
              refine own_st (fun t_ => XS.icmpYes (own_here Y3) hx rfl (pc0 := 212) (pc' := 217) rfl (hb hby own_d2_212) rfl (XT.ii_le_t c212_39) (by decide) (by decide)) ?_
              show own_Ends _ _ _ _ (T2.setTop (mkF m 217 #[.val (.ref r0), .val (.int x1), .val (.int x2), .val (.int j), .val (.int a), .val (.int (3 : Int32)), .val (.int (128 : Int32)), .val (.int (191 : Int32)), .val (.int b), s9] []))
              refine own_st (fun t_ => XS.iloadN (own_here Y3) hx rfl (hb hby own_d2_217) rfl) ?_
              show own_Ends _ _ _ _ (T2.setTop (mkF m 218 #[.val (.ref r0), .val (.int x1), .val (.int x2), .val (.int j), .val (.int a), .val (.int (3 : Int32)), .val (.int (128 : Int32)), .val (.int (191 : Int32)), .val (.int b), s9] [(.int j)]))
              refine own_st (fun t_ => XS.iconst (own_here Y3) hx rfl (hb hby own_d2_218) ) ?_
              show own_Ends _ _ _ _ (T2.setTop (mkF m 219 #[.val (.ref r0), .val (.int x1), .val (.int x2), .val (.int j), .val (.int a), .val (.int (3 : Int32)), .val (.int (128 : Int32)), .val (.int (191 : Int32)), .val (.int b), s9] [(.int (2 : Int32)), (.int j)]))
              refine own_st (fun t_ => XS.iadd (own_here Y3) hx rfl (hb hby own_d2_219) rfl) ?_
              show own_Ends _ _ _ _ (T2.setTop (mkF m 220 #[.val (.ref r0), .val (.int x1), .val (.int x2), .val (.int j), .val (.int a), .val (.int (3 : Int32)), .val (.int (128 : Int32)), .val (.int (191 : Int32)), .val (.int b), s9] [(.int (j + (2 : Int32)))]))
              refine own_st (fun t_ => XS.istoreS (own_here Y3) hx rfl (hb hby own_d2_220) rfl rfl hs9) ?_
              show own_Ends _ _ _ _ (T2.setTop (mkF m 222 #[.val (.ref r0), .val (.int x1), .val (.int x2), .val (.int j), .val (.int a), .val (.int (3 : Int32)), .val (.int (128 : Int32)), .val (.int (191 : Int32)), .val (.int b), .val (.int (j + (2 : Int32)))] []))
              refine own_st (fun t_ => XS.iload (own_here Y3) hx rfl (hb hby own_d2_222) rfl) ?_
              show own_Ends _ _ _ _ (T2.setTop (mkF m 224 #[.val (.ref r0), .val (.int x1), .val (.int x2), .val (.int j), .val (.int a), .val (.int (3 : Int32)), .val (.int (128 : Int32)), .val (.int (191 : Int32)), .val (.int b), .val (.int (j + (2 : Int32)))] [(.int (j + (2 : Int32)))]))
              refine own_st (fun t_ => XS.iloadN (own_here Y3) hx rfl (hb hby own_d2_224) rfl) ?_
              show own_Ends _ _ _ _ (T2.setTop (mkF m 225 #[.val (.ref r0), .val (.int x1), .val (.int x2), .val (.int j), .val (.int a), .val (.int (3 : Int32)), .val (.int (128 : Int32)), .val (.int (191 : Int32)), .val (.int b), .val (.int (j + (2 : Int32)))] [(.int j), (.int (j + (2 : Int32)))]))
              refine own_st (fun t_ => XS.iload (own_here Y3) hx rfl (hb hby own_d2_225) rfl) ?_
              show own_Ends _ _ _ _ (T2.setTop (mkF m 227 #[.val (.ref r0), .val (.int x1), .val (.int x2), .val (.int j), .val (.int a), .val (.int (3 : Int32)), .val (.int (128 : Int32)), .val (.int (191 : Int32)), .val (.int b), .val (.int (j + (2 : Int32)))] [(.int (3 : Int32)), (.int j), (.int (j + (2 : Int32)))]))
              refine own_st (fun t_ => XS.iadd (own_here Y3) hx rfl (hb hby own_d2_227) rfl) ?_
              show own_Ends _ _ _ _ (T2.setTop (mkF m 228 #[.val (.ref r0), .val (.int x1), .val (.int x2), .val (.int j), .val (.int a), .val (.int (3 : Int32)), .val (.int (128 : Int32)), .val (.int (191 : Int32)), .val (.int b), .val (.int (j + (2 : Int32)))] [(.int (j + (3 : Int32))), (.int (j + (2 : Int32)))]))
              have ee0 := own_add hj own_l3 (by omega)
              refine own_st (fun t_ => XS.icmpNo (own_here Y3) hx rfl (hb hby own_d2_228) rfl (XT.ii_ge_f (by rw [own_lt, n2, ee0]; omega))) ?_
              show own_Ends _ _ _ _ (T2.setTop (mkF m 231 #[.val (.ref r0), .val (.int x1), .val (.int x2), .val (.int j), .val (.int a), .val (.int (3 : Int32)), .val (.int (128 : Int32)), .val (.int (191 : Int32)), .val (.int b), .val (.int (j + (2 : Int32)))] []))
              refine own_st (fun t_ => XS.aloadN (own_here Y3) hx rfl (hb hby own_d2_231) rfl rfl) ?_
              show own_Ends _ _ _ _ (T2.setTop (mkF m 232 #[.val (.ref r0), .val (.int x1), .val (.int x2), .val (.int j), .val (.int a), .val (.int (3 : Int32)), .val (.int (128 : Int32)), .val (.int (191 : Int32)), .val (.int b), .val (.int (j + (2 : Int32)))] [(.ref r0)]))
              refine own_st (fun t_ => XS.iload (own_here Y3) hx rfl (hb hby own_d2_232) rfl) ?_
              show own_Ends _ _ _ _ (T2.setTop (mkF m 234 #[.val (.ref r0), .val (.int x1), .val (.int x2), .val (.int j), .val (.int a), .val (.int (3 : Int32)), .val (.int (128 : Int32)), .val (.int (191 : Int32)), .val (.int b), .val (.int (j + (2 : Int32)))] [(.int (j + (2 : Int32))), (.ref r0)]))
              refine own_ldB Y3 hx hZ A (i := (i + 2)) n20 n21 (own_mlen (by omega)) (v := (.int (own_g xs (i + 2)))) (own_mget (own_mlen (by omega))) rfl rfl (hb hby own_d2_234) ?_
              show own_Ends _ _ _ _ (T2.setTop (mkF m 235 #[.val (.ref r0), .val (.int x1), .val (.int x2), .val (.int j), .val (.int a), .val (.int (3 : Int32)), .val (.int (128 : Int32)), .val (.int (191 : Int32)), .val (.int b), .val (.int (j + (2 : Int32)))] [(.int (own_g xs (i + 2)))]))
              refine own_st (fun t_ => XS.sipush (own_here Y3) hx rfl (hb hby own_d2_235) ) ?_
              show own_Ends _ _ _ _ (T2.setTop (mkF m 238 #[.val (.ref r0), .val (.int x1), .val (.int x2), .val (.int j), .val (.int a), .val (.int (3 : Int32)), .val (.int (128 : Int32)), .val (.int (191 : Int32)), .val (.int b), .val (.int (j + (2 : Int32)))] [(.int (192 : Int32)), (.int (own_g xs (i + 2)))]))
              refine own_st (fun t_ => XS.iand (own_here Y3) hx rfl (hb hby own_d2_238) rfl) ?_
              show own_Ends _ _ _ _ (T2.setTop (mkF m 239 #[.val (.ref r0), .val (.int x1), .val (.int x2), .val (.int j), .val (.int a), .val (.int (3 : Int32)), .val (.int (128 : Int32)), .val (.int (191 : Int32)), .val (.int b), .val (.int (j + (2 : Int32)))] [(.int ((own_g xs (i + 2)) &&& (192 : Int32)))]))
              refine own_st (fun t_ => XS.sipush (own_here Y3) hx rfl (hb hby own_d2_239) ) ?_
              show own_Ends _ _ _ _ (T2.setTop (mkF m 242 #[.val (.ref r0), .val (.int x1), .val (.int x2), .val (.int j), .val (.int a), .val (.int (3 : Int32)), .val (.int (128 : Int32)), .val (.int (191 : Int32)), .val (.int b), .val (.int (j + (2 : Int32)))] [(.int (128 : Int32)), (.int ((own_g xs (i + 2)) &&& (192 : Int32)))]))
              by_cases c242_40 : ((own_g xs (i + 2)) &&& (192 : Int32)) = (128 : Int32)
              ·
               refine own_st (fun t_ => XS.icmpYes (own_here Y3) hx rfl (pc0 := 242) (pc' := 247) rfl (hb hby own_d2_242) rfl (XT.ii_eq_t c242_40) (by decide) (by decide)) ?_
               show own_Ends _ _ _ _ (T2.setTop (mkF m 247 #[.val (.ref r0), .val (.int x1), .val (.int x2), .val (.int j), .val (.int a), .val (.int (3 : Int32)), .val (.int (128 : Int32)), .val (.int (191 : Int32)), .val (.int b), .val (.int (j + (2 : Int32)))] []))
               refine own_st (fun t_ => XS.iinc (own_here Y3) hx rfl (hb hby own_d2_247) rfl (l' := #[.val (.ref r0), .val (.int x1), .val (.int x2), .val (.int j), .val (.int a), .val (.int (3 : Int32)), .val (.int (128 : Int32)), .val (.int (191 : Int32)), .val (.int b), .val (.int ((j + (2 : Int32)) + (1 : Int32)))]) rfl) ?_
               show own_Ends _ _ _ _ (T2.setTop (mkF m 250 #[.val (.ref r0), .val (.int x1), .val (.int x2), .val (.int j), .val (.int a), .val (.int (3 : Int32)), .val (.int (128 : Int32)), .val (.int (191 : Int32)), .val (.int b), .val (.int ((j + (2 : Int32)) + (1 : Int32)))] []))
               refine own_st (fun t_ => XS.goto (own_here Y3) hx rfl (pc0 := 250) (pc' := 222) rfl (hb hby own_d2_250) (by decide) (by decide)) ?_
               show own_Ends _ _ _ _ (T2.setTop (mkF m 222 #[.val (.ref r0), .val (.int x1), .val (.int x2), .val (.int j), .val (.int a), .val (.int (3 : Int32)), .val (.int (128 : Int32)), .val (.int (191 : Int32)), .val (.int b), .val (.int ((j + (2 : Int32)) + (1 : Int32)))] []))
               refine own_st (fun t_ => XS.iload (own_here Y3) hx rfl (hb hby own_d2_222) rfl) ?_
               show own_Ends _ _ _ _ (T2.setTop (mkF m 224 #[.val (.ref r0), .val (.int x1), .val (.int x2), .val (.int j), .val (.int a), .val (.int (3 : Int32)), .val (.int (128 : Int32)), .val (.int (191 : Int32)), .val (.int b), .val (.int ((j + (2 : Int32)) + (1 : Int32)))] [(.int ((j + (2 : Int32)) + (1 : Int32)))]))
               refine own_st (fun t_ => XS.iloadN (own_here Y3) hx rfl (hb hby own_d2_224) rfl) ?_
               show own_Ends _ _ _ _ (T2.setTop (mkF m 225 #[.val (.ref r0), .val (.int x1), .val (.int x2), .val (.int j), .val (.int a), .val (.int (3 : Int32)), .val (.int (128 : Int32)), .val (.int (191 : Int32)), .val (.int b), .val (.int ((j + (2 : Int32)) + (1 : Int32)))] [(.int j), (.int ((j + (2 : Int32)) + (1 : Int32)))]))
               refine own_st (fun t_ => XS.iload (own_here Y3) hx rfl (hb hby own_d2_225) rfl) ?_
               show own_Ends _ _ _ _ (T2.setTop (mkF m 227 #[.val (.ref r0), .val (.int x1), .val (.int x2), .val (.int j), .val (.int a), .val (.int (3 : Int32)), .val (.int (128 : Int32)), .val (.int (191 : Int32)), .val (.int b), .val (.int ((j + (2 : Int32)) + (1 : Int32)))] [(.int (3 : Int32)), (.int j), (.int ((j + (2 : Int32)) + (1 : Int32)))]))
               refine own_st (fun t_ => XS.iadd (own_here Y3) hx rfl (hb hby own_d2_227) rfl) ?_
               show own_Ends _ _ _ _ (T2.setTop (mkF m 228 #[.val (.ref r0), .val (.int x1), .val (.int x2), .val (.int j), .val (.int a), .val (.int (3 : Int32)), .val (.int (128 : Int32)), .val (.int (191 : Int32)), .val (.int b), .val (.int ((j + (2 : Int32)) + (1 : Int32)))] [(.int (j + (3 : Int32))), (.int ((j + (2 : Int32)) + (1 : Int32)))]))
               have ee1 := own_add hj own_l3 (by omega)
               refine own_st (fun t_ => XS.icmpYes (own_here Y3) hx rfl (pc0 := 228) (pc' := 253) rfl (hb hby own_d2_228) rfl (XT.ii_ge_t (by rw [own_lt, (own_add n2 own_l1 (by omega)), ee1]; omega)) (by decide) (by decide)) ?_
               show own_Ends _ _ _ _ (T2.setTop (mkF m 253 #[.val (.ref r0), .val (.int x1), .val (.int x2), .val (.int j), .val (.int a), .val (.int (3 : Int32)), .val (.int (128 : Int32)), .val (.int (191 : Int32)), .val (.int b), .val (.int ((j + (2 : Int32)) + (1 : Int32)))] []))
               refine own_st (fun t_ => XS.iloadN (own_here Y3) hx rfl (hb hby own_d2_253) rfl) ?_
               show own_Ends _ _ _ _ (T2.setTop (mkF m 254 #[.val (.ref r0), .val (.int x1), .val (.int x2), .val (.int j), .val (.int a), .val (.int (3 : Int32)), .val (.int (128 : Int32)), .val (.int (191 : Int32)), .val (.int b), .val (.int ((j + (2 : Int32)) + (1 : Int32)))] [(.int j)]))
               refine own_st (fun t_ => XS.iload (own_here Y3) hx rfl (hb hby own_d2_254) rfl) ?_
               show own_Ends _ _ _ _ (T2.setTop (mkF m 256 #[.val (.ref r0), .val (.int x1), .val (.int x2), .val (.int j), .val (.int a), .val (.int (3 : Int32)), .val (.int (128 : Int32)), .val (.int (191 : Int32)), .val (.int b), .val (.int ((j + (2 : Int32)) + (1 : Int32)))] [(.int (3 : Int32)), (.int j)]))
               refine own_st (fun t_ => XS.iadd (own_here Y3) hx rfl (hb hby own_d2_256) rfl) ?_
               show own_Ends _ _ _ _ (T2.setTop (mkF m 257 #[.val (.ref r0), .val (.int x1), .val (.int x2), .val (.int j), .val (.int a), .val (.int (3 : Int32)), .val (.int (128 : Int32)), .val (.int (191 : Int32)), .val (.int b), .val (.int ((j + (2 : Int32)) + (1 : Int32)))] [(.int (j + (3 : Int32)))]))
               refine own_st (fun t_ => XS.istoreN (own_here Y3) hx rfl (hb hby own_d2_257) rfl (l' := #[.val (.ref r0), .val (.int x1), .val (.int x2), .val (.int (j + (3 : Int32))), .val (.int a), .val (.int (3 : Int32)), .val (.int (128 : Int32)), .val (.int (191 : Int32)), .val (.int b), .val (.int ((j + (2 : Int32)) + (1 : Int32)))]) rfl) ?_
               show own_Ends _ _ _ _ (T2.setTop (mkF m 258 #[.val (.ref r0), .val (.int x1), .val (.int x2), .val (.int (j + (3 : Int32))), .val (.int a), .val (.int (3 : Int32)), .val (.int (128 : Int32)), .val (.int (191 : Int32)), .val (.int b), .val (.int ((j + (2 : Int32)) + (1 : Int32)))] []))
               refine own_st (fun t_ => XS.goto (own_here Y3) hx rfl (pc0 := 258) (pc' := 2) rfl (hb hby own_d2_258) (by decide) (by decide)) ?_
               show own_Ends _ _ _ _ (T2.setTop (mkF m 2 #[.val (.ref r0), .val (.int x1), .val (.int x2), .val (.int (j + (3 : Int32))), .val (.int a), .val (.int (3 : Int32)), .val (.int (128 : Int32)), .val (.int (191 : Int32)), .val (.int b), .val (.int ((j + (2 : Int32)) + (1 : Int32)))] []))
               have g2 := (own_cont (hB (i + 2))).mp c242_40; have g2' : 128 ≤ own_u xs (i + 2) ∧ own_u xs (i + 2) ≤ 191 := g2
               have c21_5t := c21_5; simp only [own_lt] at c21_5t
               have c45_6t := c45_6; simp only [own_lt] at c45_6t
               have c53_7t := c53_7; simp only [own_lt] at c53_7t
               have c75_8t := c75_8; simp only [own_lt] at c75_8t
               have c86_27t := c86_27; simp only [own_eq] at c86_27t
               have c104_32t := c104_32; simp only [own_eq] at c104_32t
               have c205_38t := c205_38; simp only [own_lt] at c205_38t
               have c212_39t := c212_39; simp only [own_lt] at c212_39t
               have ra := own_u_rng xs i; rw [ua] at ra
               have f1 : (own_A1 (own_u xs i)) = false := by simp only [own_A1, ua, decide_eq_false_iff_not]; omega
               have f2 : (decide (i + 2 ≤ t) && own_A2 (own_u xs i) (own_u xs (i + 1))) = false := by simp only [own_A2, ua, u1, Bool.and_eq_false_iff, decide_eq_false_iff_not]; omega
               have f3 : (decide (i + 3 ≤ t) && own_A3 (own_u xs i) (own_u xs (i + 1)) (own_u xs (i + 2))) = true := by simp only [own_A3, ua, u1, Bool.and_eq_true, decide_eq_true_eq]; omega
               have f4 : (decide (i + 4 ≤ t) && own_A4 (own_u xs i) (own_u xs (i + 1)) (own_u xs (i + 2)) (own_u xs (i + 3))) = false := by simp only [own_A4, ua, u1, Bool.and_eq_false_iff, decide_eq_false_iff_not]; omega
               have hR2 : own_V (own_u xs) t (k - 1) (i + 3) = R := by
                 rw [← hR]; obtain ⟨k', rfl⟩ : ∃ k', k = k' + 1 := ⟨k - 1, by omega⟩
                 have hti : decide (t ≤ i) = false := by simp only [decide_eq_false_iff_not]; omega
                 simp only [own_V, Nat.add_sub_cancel, hti, f1, f2, f3, f4, Bool.false_and, Bool.true_and, Bool.or_false, Bool.false_or]
               exact ih (k - 1) (by omega) T2  (i + 3) ((j + (3 : Int32))) (.val (.int a)) (.val (.int (3 : Int32))) (.val (.int (128 : Int32))) (.val (.int (191 : Int32))) (.val (.int b)) (.val (.int ((j + (2 : Int32)) + (1 : Int32)))) Y3  (own_add hj own_l3 (by omega)) (by omega) (by omega) hR2 (One.val rfl) (One.val rfl) (One.val rfl) (One.val rfl) (One.val rfl) (One.val rfl)
              ·
               refine own_st (fun t_ => XS.icmpNo (own_here Y3) hx rfl (hb hby own_d2_242) rfl (XT.ii_eq_f c242_40)) ?_
               show own_Ends _ _ _ _ (T2.setTop (mkF m 245 #[.val (.ref r0), .val (.int x1), .val (.int x2), .val (.int j), .val (.int a), .val (.int (3 : Int32)), .val (.int (128 : Int32)), .val (.int (191 : Int32)), .val (.int b), .val (.int (j + (2 : Int32)))] []))
               refine own_st (fun t_ => XS.iconst (own_here Y3) hx rfl (hb hby own_d2_245) ) ?_
               show own_Ends _ _ _ _ (T2.setTop (mkF m 246 #[.val (.ref r0), .val (.int x1), .val (.int x2), .val (.int j), .val (.int a), .val (.int (3 : Int32)), .val (.int (128 : Int32)), .val (.int (191 : Int32)), .val (.int b), .val (.int (j + (2 : Int32)))] [(.int (0 : Int32))]))
               have hc := mt (own_cont (hB (i + 2))).mpr c242_40; have hc' : ¬ (128 ≤ own_u xs (i + 2) ∧ own_u xs (i + 2) ≤ 191) := hc
               have c21_5t := c21_5; simp only [own_lt] at c21_5t
               have c45_6t := c45_6; simp only [own_lt] at c45_6t
               have c53_7t := c53_7; simp only [own_lt] at c53_7t
               have c75_8t := c75_8; simp only [own_lt] at c75_8t
               have c86_27t := c86_27; simp only [own_eq] at c86_27t
               have c104_32t := c104_32; simp only [own_eq] at c104_32t
               have c205_38t := c205_38; simp only [own_lt] at c205_38t
               have c212_39t := c212_39; simp only [own_lt] at c212_39t
               have ra := own_u_rng xs i; rw [ua] at ra
               have f1 : (own_A1 (own_u xs i)) = false := by simp only [own_A1, ua, decide_eq_false_iff_not]; omega
               have f2 : (decide (i + 2 ≤ t) && own_A2 (own_u xs i) (own_u xs (i + 1))) = false := by simp only [own_A2, ua, u1, Bool.and_eq_false_iff, decide_eq_false_iff_not]; omega
               have f3 : (decide (i + 3 ≤ t) && own_A3 (own_u xs i) (own_u xs (i + 1)) (own_u xs (i + 2))) = false := by simp only [own_A3, ua, u1, Bool.and_eq_false_iff, decide_eq_false_iff_not]; omega
               have f4 : (decide (i + 4 ≤ t) && own_A4 (own_u xs i) (own_u xs (i + 1)) (own_u xs (i + 2)) (own_u xs (i + 3))) = false := by simp only [own_A4, ua, u1, Bool.and_eq_false_iff, decide_eq_false_iff_not]; omega
               refine own_retN Y3 hx hlk (t := .boolean) hret (by simp) (hb hby own_d2_246) (by decide) (by decide) ?_
               refine ⟨?_, rfl⟩
               have : own_V (own_u xs) t (t - f) f = false := by
                 rw [hR0, ← hR]; obtain ⟨k', rfl⟩ : ∃ k', k = k' + 1 := ⟨k - 1, by omega⟩
                 have hti : decide (t ≤ i) = false := by simp only [decide_eq_false_iff_not]; omega
                 simp only [own_V, hti, f1, f2, f3, f4, Bool.false_and, Bool.or_false, Bool.false_or]
               rw [this]; rfl
       ·
        refine own_st (fun t_ => XS.icmpNo (own_here Y3) hx rfl (hb hby own_d2_53) rfl (XT.ii_gt_f c53_7)) ?_
        show own_Ends _ _ _ _ (T2.setTop (mkF m 56 #[.val (.ref r0), .val (.int x1), .val (.int x2), .val (.int j), .val (.int a), s5, .val (.int (128 : Int32)), .val (.int (191 : Int32)), s8, s9] []))
        refine own_st (fun t_ => XS.iconst (own_here Y3) hx rfl (hb hby own_d2_56) ) ?_
        show own_Ends _ _ _ _ (T2.setTop (mkF m 57 #[.val (.ref r0), .val (.int x1), .val (.int x2), .val (.int j), .val (.int a), s5, .val (.int (128 : Int32)), .val (.int (191 : Int32)), s8, s9] [(.int (2 : Int32))]))
        refine own_st (fun t_ => XS.istoreS (own_here Y3) hx rfl (hb hby own_d2_57) rfl rfl hs5) ?_
        show own_Ends _ _ _ _ (T2.setTop (mkF m 59 #[.val (.ref r0), .val (.int x1), .val (.int x2), .val (.int j), .val (.int a), .val (.int (2 : Int32)), .val (.int (128 : Int32)), .val (.int (191 : Int32)), s8, s9] []))
        refine own_st (fun t_ => XS.goto (own_here Y3) hx rfl (pc0 := 59) (pc' := 180) rfl (hb hby own_d2_59) (by decide) (by decide)) ?_
        show own_Ends _ _ _ _ (T2.setTop (mkF m 180 #[.val (.ref r0), .val (.int x1), .val (.int x2), .val (.int j), .val (.int a), .val (.int (2 : Int32)), .val (.int (128 : Int32)), .val (.int (191 : Int32)), s8, s9] []))
        refine own_st (fun t_ => XS.iloadN (own_here Y3) hx rfl (hb hby own_d2_180) rfl) ?_
        show own_Ends _ _ _ _ (T2.setTop (mkF m 181 #[.val (.ref r0), .val (.int x1), .val (.int x2), .val (.int j), .val (.int a), .val (.int (2 : Int32)), .val (.int (128 : Int32)), .val (.int (191 : Int32)), s8, s9] [(.int x2)]))
        refine own_st (fun t_ => XS.iloadN (own_here Y3) hx rfl (hb hby own_d2_181) rfl) ?_
        show own_Ends _ _ _ _ (T2.setTop (mkF m 182 #[.val (.ref r0), .val (.int x1), .val (.int x2), .val (.int j), .val (.int a), .val (.int (2 : Int32)), .val (.int (128 : Int32)), .val (.int (191 : Int32)), s8, s9] [(.int j), (.int x2)]))
        refine own_st (fun t_ => XS.isub (own_here Y3) hx rfl (hb hby own_d2_182) rfl) ?_
        show own_Ends _ _ _ _ (T2.setTop (mkF m 183 #[.val (.ref r0), .val (.int x1), .val (.int x2), .val (.int j), .val (.int a), .val (.int (2 : Int32)), .val (.int (128 : Int32)), .val (.int (191 : Int32)), s8, s9] [(.int (x2 - j))]))
        refine own_st (fun t_ => XS.iload (own_here Y3) hx rfl (hb hby own_d2_183) rfl) ?_
        show own_Ends _ _ _ _ (T2.setTop (mkF m 185 #[.val (.ref r0), .val (.int x1), .val (.int x2), .val (.int j), .val (.int a), .val (.int (2 : Int32)), .val (.int (128 : Int32)), .val (.int (191 : Int32)), s8, s9] [(.int (2 : Int32)), (.int (x2 - j))]))
        by_cases c185_41 : (x2 - j) < (2 : Int32)
        ·
         refine own_st (fun t_ => XS.icmpNo (own_here Y3) hx rfl (hb hby own_d2_185) rfl (XT.ii_ge_f c185_41)) ?_
         show own_Ends _ _ _ _ (T2.setTop (mkF m 188 #[.val (.ref r0), .val (.int x1), .val (.int x2), .val (.int j), .val (.int a), .val (.int (2 : Int32)), .val (.int (128 : Int32)), .val (.int (191 : Int32)), s8, s9] []))
         refine own_st (fun t_ => XS.iconst (own_here Y3) hx rfl (hb hby own_d2_188) ) ?_
         show own_Ends _ _ _ _ (T2.setTop (mkF m 189 #[.val (.ref r0), .val (.int x1), .val (.int x2), .val (.int j), .val (.int a), .val (.int (2 : Int32)), .val (.int (128 : Int32)), .val (.int (191 : Int32)), s8, s9] [(.int (0 : Int32))]))
         have hroom : ¬ i + 2 ≤ t := by have := c185_41; rw [own_lt, own_sub ht hj] at this; have e : (2 : Int32).toInt = 2 := rfl; omega
         have c21_5t := c21_5; simp only [own_lt] at c21_5t
         have c45_6t := c45_6; simp only [own_lt] at c45_6t
         have c53_7t := c53_7; simp only [own_lt] at c53_7t
         have ra := own_u_rng xs i; rw [ua] at ra
         have f1 : (own_A1 (own_u xs i)) = false := by simp only [own_A1, ua, decide_eq_false_iff_not]; omega
         have f2 : (decide (i + 2 ≤ t) && own_A2 (own_u xs i) (own_u xs (i + 1))) = false := by simp only [own_A2, ua, Bool.and_eq_false_iff, decide_eq_false_iff_not]; omega
         have f3 : (decide (i + 3 ≤ t) && own_A3 (own_u xs i) (own_u xs (i + 1)) (own_u xs (i + 2))) = false := by simp only [own_A3, ua, Bool.and_eq_false_iff, decide_eq_false_iff_not]; omega
         have f4 : (decide (i + 4 ≤ t) && own_A4 (own_u xs i) (own_u xs (i + 1)) (own_u xs (i + 2)) (own_u xs (i + 3))) = false := by simp only [own_A4, ua, Bool.and_eq_false_iff, decide_eq_false_iff_not]; omega
         refine own_retN Y3 hx hlk (t := .boolean) hret (by simp) (hb hby own_d2_189) (by decide) (by decide) ?_
         refine ⟨?_, rfl⟩
         have : own_V (own_u xs) t (t - f) f = false := by
           rw [hR0, ← hR]; obtain ⟨k', rfl⟩ : ∃ k', k = k' + 1 := ⟨k - 1, by omega⟩
           have hti : decide (t ≤ i) = false := by simp only [decide_eq_false_iff_not]; omega
           simp only [own_V, hti, f1, f2, f3, f4, Bool.false_and, Bool.or_false, Bool.false_or]
         rw [this]; rfl
        ·
         refine own_st (fun t_ => XS.icmpYes (own_here Y3) hx rfl (pc0 := 185) (pc' := 190) rfl (hb hby own_d2_185) rfl (XT.ii_ge_t c185_41) (by decide) (by decide)) ?_
         show own_Ends _ _ _ _ (T2.setTop (mkF m 190 #[.val (.ref r0), .val (.int x1), .val (.int x2), .val (.int j), .val (.int a), .val (.int (2 : Int32)), .val (.int (128 : Int32)), .val (.int (191 : Int32)), s8, s9] []))
         have hroom : i + 2 ≤ t := by have := c185_41; rw [own_lt, own_sub ht hj] at this; have e : (2 : Int32).toInt = 2 := rfl; omega
         have n1 := own_add hj own_l1 (by omega)
         obtain ⟨n10, n11⟩ := own_nat n1
         refine own_st (fun t_ => XS.aloadN (own_here Y3) hx rfl (hb hby own_d2_190) rfl rfl) ?_
         show own_Ends _ _ _ _ (T2.setTop (mkF m 191 #[.val (.ref r0), .val (.int x1), .val (.int x2), .val (.int j), .val (.int a), .val (.int (2 : Int32)), .val (.int (128 : Int32)), .val (.int (191 : Int32)), s8, s9] [(.ref r0)]))
         refine own_st (fun t_ => XS.iloadN (own_here Y3) hx rfl (hb hby own_d2_191) rfl) ?_
         show own_Ends _ _ _ _ (T2.setTop (mkF m 192 #[.val (.ref r0), .val (.int x1), .val (.int x2), .val (.int j), .val (.int a), .val (.int (2 : Int32)), .val (.int (128 : Int32)), .val (.int (191 : Int32)), s8, s9] [(.int j), (.ref r0)]))
         refine own_st (fun t_ => XS.iconst (own_here Y3) hx rfl (hb hby own_d2_192) ) ?_
         show own_Ends _ _ _ _ (T2.setTop (mkF m 193 #[.val (.ref r0), .val (.int x1), .val (.int x2), .val (.int j), .val (.int a), .val (.int (2 : Int32)), .val (.int (128 : Int32)), .val (.int (191 : Int32)), s8, s9] [(.int (1 : Int32)), (.int j), (.ref r0)]))
         refine own_st (fun t_ => XS.iadd (own_here Y3) hx rfl (hb hby own_d2_193) rfl) ?_
         show own_Ends _ _ _ _ (T2.setTop (mkF m 194 #[.val (.ref r0), .val (.int x1), .val (.int x2), .val (.int j), .val (.int a), .val (.int (2 : Int32)), .val (.int (128 : Int32)), .val (.int (191 : Int32)), s8, s9] [(.int (j + (1 : Int32))), (.ref r0)]))
         refine own_ldB Y3 hx hZ A (i := (i + 1)) n10 n11 (own_mlen (by omega)) (v := (.int (own_g xs (i + 1)))) (own_mget (own_mlen (by omega))) rfl rfl (hb hby own_d2_194) ?_
         show own_Ends _ _ _ _ (T2.setTop (mkF m 195 #[.val (.ref r0), .val (.int x1), .val (.int x2), .val (.int j), .val (.int a), .val (.int (2 : Int32)), .val (.int (128 : Int32)), .val (.int (191 : Int32)), s8, s9] [(.int (own_g xs (i + 1)))]))
         refine own_st (fun t_ => XS.sipush (own_here Y3) hx rfl (hb hby own_d2_195) ) ?_
         show own_Ends _ _ _ _ (T2.setTop (mkF m 198 #[.val (.ref r0), .val (.int x1), .val (.int x2), .val (.int j), .val (.int a), .val (.int (2 : Int32)), .val (.int (128 : Int32)), .val (.int (191 : Int32)), s8, s9] [(.int (255 : Int32)), (.int (own_g xs (i + 1)))]))
         refine own_st (fun t_ => XS.iand (own_here Y3) hx rfl (hb hby own_d2_198) rfl) ?_
         show own_Ends _ _ _ _ (T2.setTop (mkF m 199 #[.val (.ref r0), .val (.int x1), .val (.int x2), .val (.int j), .val (.int a), .val (.int (2 : Int32)), .val (.int (128 : Int32)), .val (.int (191 : Int32)), s8, s9] [(.int ((own_g xs (i + 1)) &&& (255 : Int32)))]))
         refine own_st (fun t_ => XS.istoreS (own_here Y3) hx rfl (hb hby own_d2_199) rfl rfl hs8) ?_
         show own_Ends _ _ _ _ (T2.setTop (mkF m 201 #[.val (.ref r0), .val (.int x1), .val (.int x2), .val (.int j), .val (.int a), .val (.int (2 : Int32)), .val (.int (128 : Int32)), .val (.int (191 : Int32)), .val (.int ((own_g xs (i + 1)) &&& (255 : Int32))), s9] []))
         generalize hb_ : ((own_g xs (i + 1)) &&& (255 : Int32)) = b
         have u1 : own_u xs (i + 1) = b.toInt := by rw [own_u, hb_]
         refine own_st (fun t_ => XS.iload (own_here Y3) hx rfl (hb hby own_d2_201) rfl) ?_
         show own_Ends _ _ _ _ (T2.setTop (mkF m 203 #[.val (.ref r0), .val (.int x1), .val (.int x2), .val (.int j), .val (.int a), .val (.int (2 : Int32)), .val (.int (128 : Int32)), .val (.int (191 : Int32)), .val (.int b), s9] [(.int b)]))
         refine own_st (fun t_ => XS.iload (own_here Y3) hx rfl (hb hby own_d2_203) rfl) ?_
         show own_Ends _ _ _ _ (T2.setTop (mkF m 205 #[.val (.ref r0), .val (.int x1), .val (.int x2), .val (.int j), .val (.int a), .val (.int (2 : Int32)), .val (.int (128 : Int32)), .val (.int (191 : Int32)), .val (.int b), s9] [(.int (128 : Int32)), (.int b)]))
         by_cases c205_42 : b < (128 : Int32)
         ·
          refine own_st (fun t_ => XS.icmpYes (own_here Y3) hx rfl (pc0 := 205) (pc' := 215) rfl (hb hby own_d2_205) rfl (XT.ii_lt_t c205_42) (by decide) (by decide)) ?_
          show own_Ends _ _ _ _ (T2.setTop (mkF m 215 #[.val (.ref r0), .val (.int x1), .val (.int x2), .val (.int j), .val (.int a), .val (.int (2 : Int32)), .val (.int (128 : Int32)), .val (.int (191 : Int32)), .val (.int b), s9] []))
          refine own_st (fun t_ => XS.iconst (own_here Y3) hx rfl (hb hby own_d2_215) ) ?_
          show own_Ends _ _ _ _ (T2.setTop (mkF m 216 #[.val (.ref r0), .val (.int x1), .val (.int x2), .val (.int j), .val (.int a), .val (.int (2 : Int32)), .val (.int (128 : Int32)), .val (.int (191 : Int32)), .val (.int b), s9] [(.int (0 : Int32))]))
          have c21_5t := c21_5; simp only [own_lt] at c21_5t
          have c45_6t := c45_6; simp only [own_lt] at c45_6t
          have c53_7t := c53_7; simp only [own_lt] at c53_7t
          have c205_42t := c205_42; simp only [own_lt] at c205_42t
          have ra := own_u_rng xs i; rw [ua] at ra
          have f1 : (own_A1 (own_u xs i)) = false := by simp only [own_A1, ua, decide_eq_false_iff_not]; omega
          have f2 : (decide (i + 2 ≤ t) && own_A2 (own_u xs i) (own_u xs (i + 1))) = false := by simp only [own_A2, ua, u1, Bool.and_eq_false_iff, decide_eq_false_iff_not]; omega
          have f3 : (decide (i + 3 ≤ t) && own_A3 (own_u xs i) (own_u xs (i + 1)) (own_u xs (i + 2))) = false := by simp only [own_A3, ua, u1, Bool.and_eq_false_iff, decide_eq_false_iff_not]; omega
          have f4 : (decide (i + 4 ≤ t) && own_A4 (own_u xs i) (own_u xs (i + 1)) (own_u xs (i + 2)) (own_u xs (i + 3))) = false := by simp only [own_A4, ua, u1, Bool.and_eq_false_iff, decide_eq_false_iff_not]; omega
          refine own_retN Y3 hx hlk (t := .boolean) hret (by simp) (hb hby own_d2_216) (by decide) (by decide) ?_
          refine ⟨?_, rfl⟩
          have : own_V (own_u xs) t (t - f) f = false := by
            rw [hR0, ← hR]; obtain ⟨k', rfl⟩ : ∃ k', k = k' + 1 := ⟨k - 1, by omega⟩
            have hti : decide (t ≤ i) = false := by simp only [decide_eq_false_iff_not]; omega
            simp only [own_V, hti, f1, f2, f3, f4, Bool.false_and, Bool.or_false, Bool.false_or]
          rw [this]; rfl
         ·
          refine own_st (fun t_ => XS.icmpNo (own_here Y3) hx rfl (hb hby own_d2_205) rfl (XT.ii_lt_f c205_42)) ?_
          show own_Ends _ _ _ _ (T2.setTop (mkF m 208 #[.val (.ref r0), .val (.int x1), .val (.int x2), .val (.int j), .val (.int a), .val (.int (2 : Int32)), .val (.int (128 : Int32)), .val (.int (191 : Int32)), .val (.int b), s9] []))
          refine own_st (fun t_ => XS.iload (own_here Y3) hx rfl (hb hby own_d2_208) rfl) ?_
          show own_Ends _ _ _ _ (T2.setTop (mkF m 210 #[.val (.ref r0), .val (.int x1), .val (.int x2), .val (.int j), .val (.int a), .val (.int (2 : Int32)), .val (.int (128 : Int32)), .val (.int (191 : Int32)), .val (.int b), s9] [(.int b)]))
          refine own_st (fun t_ => XS.iload (own_here Y3) hx rfl (hb hby own_d2_210) rfl) ?_
          show own_Ends _ _ _ _ (T2.setTop (mkF m 212 #[.val (.ref r0), .val (.int x1), .val (.int x2), .val (.int j), .val (.int a), .val (.int (2 : Int32)), .val (.int (128 : Int32)), .val (.int (191 : Int32)), .val (.int b), s9] [(.int (191 : Int32)), (.int b)]))
          by_cases c212_43 : (191 : Int32) < b
          ·
           refine own_st (fun t_ => XS.icmpNo (own_here Y3) hx rfl (hb hby own_d2_212) rfl (XT.ii_le_f c212_43)) ?_
           show own_Ends _ _ _ _ (T2.setTop (mkF m 215 #[.val (.ref r0), .val (.int x1), .val (.int x2), .val (.int j), .val (.int a), .val (.int (2 : Int32)), .val (.int (128 : Int32)), .val (.int (191 : Int32)), .val (.int b), s9] []))
           refine own_st (fun t_ => XS.iconst (own_here Y3) hx rfl (hb hby own_d2_215) ) ?_
           show own_Ends _ _ _ _ (T2.setTop (mkF m 216 #[.val (.ref r0), .val (.int x1), .val (.int x2), .val (.int j), .val (.int a), .val (.int (2 : Int32)), .val (.int (128 : Int32)), .val (.int (191 : Int32)), .val (.int b), s9] [(.int (0 : Int32))]))
           have c21_5t := c21_5; simp only [own_lt] at c21_5t
           have c45_6t := c45_6; simp only [own_lt] at c45_6t
           have c53_7t := c53_7; simp only [own_lt] at c53_7t
           have c205_42t := c205_42; simp only [own_lt] at c205_42t
           have c212_43t := c212_43; simp only [own_lt] at c212_43t
           have ra := own_u_rng xs i; rw [ua] at ra
           have f1 : (own_A1 (own_u xs i)) = false := by simp only [own_A1, ua, decide_eq_false_iff_not]; omega
           have f2 : (decide (i + 2 ≤ t) && own_A2 (own_u xs i) (own_u xs (i + 1))) = false := by simp only [own_A2, ua, u1, Bool.and_eq_false_iff, decide_eq_false_iff_not]; omega
           have f3 : (decide (i + 3 ≤ t) && own_A3 (own_u xs i) (own_u xs (i + 1)) (own_u xs (i + 2))) = false := by simp only [own_A3, ua, u1, Bool.and_eq_false_iff, decide_eq_false_iff_not]; omega
           have f4 : (decide (i + 4 ≤ t) && own_A4 (own_u xs i) (own_u xs (i + 1)) (own_u xs (i + 2)) (own_u xs (i + 3))) = false := by simp only [own_A4, ua, u1, Bool.and_eq_false_iff, decide_eq_false_iff_not]; omega
           refine own_retN Y3 hx hlk (t := .boolean) hret (by simp) (hb hby own_d2_216) (by decide) (by decide) ?_
           refine ⟨?_, rfl⟩
           have : own_V (own_u xs) t (t - f) f = false := by
             rw [hR0, ← hR]; obtain ⟨k', rfl⟩ : ∃ k', k = k' + 1 := ⟨k - 1, by omega⟩
             have hti : decide (t ≤ i) = false := by simp only [decide_eq_false_iff_not]; omega
             simp only [own_V, hti, f1, f2, f3, f4, Bool.false_and, Bool.or_false, Bool.false_or]
           rw [this]; rfl
          ·
           refine own_st (fun t_ => XS.icmpYes (own_here Y3) hx rfl (pc0 := 212) (pc' := 217) rfl (hb hby own_d2_212) rfl (XT.ii_le_t c212_43) (by decide) (by decide)) ?_
           show own_Ends _ _ _ _ (T2.setTop (mkF m 217 #[.val (.ref r0), .val (.int x1), .val (.int x2), .val (.int j), .val (.int a), .val (.int (2 : Int32)), .val (.int (128 : Int32)), .val (.int (191 : Int32)), .val (.int b), s9] []))
           refine own_st (fun t_ => XS.iloadN (own_here Y3) hx rfl (hb hby own_d2_217) rfl) ?_
           show own_Ends _ _ _ _ (T2.setTop (mkF m 218 #[.val (.ref r0), .val (.int x1), .val (.int x2), .val (.int j), .val (.int a), .val (.int (2 : Int32)), .val (.int (128 : Int32)), .val (.int (191 : Int32)), .val (.int b), s9] [(.int j)]))
           refine own_st (fun t_ => XS.iconst (own_here Y3) hx rfl (hb hby own_d2_218) ) ?_
           show own_Ends _ _ _ _ (T2.setTop (mkF m 219 #[.val (.ref r0), .val (.int x1), .val (.int x2), .val (.int j), .val (.int a), .val (.int (2 : Int32)), .val (.int (128 : Int32)), .val (.int (191 : Int32)), .val (.int b), s9] [(.int (2 : Int32)), (.int j)]))
           refine own_st (fun t_ => XS.iadd (own_here Y3) hx rfl (hb hby own_d2_219) rfl) ?_
           show own_Ends _ _ _ _ (T2.setTop (mkF m 220 #[.val (.ref r0), .val (.int x1), .val (.int x2), .val (.int j), .val (.int a), .val (.int (2 : Int32)), .val (.int (128 : Int32)), .val (.int (191 : Int32)), .val (.int b), s9] [(.int (j + (2 : Int32)))]))
           refine own_st (fun t_ => XS.istoreS (own_here Y3) hx rfl (hb hby own_d2_220) rfl rfl hs9) ?_
           show own_Ends _ _ _ _ (T2.setTop (mkF m 222 #[.val (.ref r0), .val (.int x1), .val (.int x2), .val (.int j), .val (.int a), .val (.int (2 : Int32)), .val (.int (128 : Int32)), .val (.int (191 : Int32)), .val (.int b), .val (.int (j + (2 : Int32)))] []))
           refine own_st (fun t_ => XS.iload (own_here Y3) hx rfl (hb hby own_d2_222) rfl) ?_
           show own_Ends _ _ _ _ (T2.setTop (mkF m 224 #[.val (.ref r0), .val (.int x1), .val (.int x2), .val (.int j), .val (.int a), .val (.int (2 : Int32)), .val (.int (128 : Int32)), .val (.int (191 : Int32)), .val (.int b), .val (.int (j + (2 : Int32)))] [(.int (j + (2 : Int32)))]))
           refine own_st (fun t_ => XS.iloadN (own_here Y3) hx rfl (hb hby own_d2_224) rfl) ?_
           show own_Ends _ _ _ _ (T2.setTop (mkF m 225 #[.val (.ref r0), .val (.int x1), .val (.int x2), .val (.int j), .val (.int a), .val (.int (2 : Int32)), .val (.int (128 : Int32)), .val (.int (191 : Int32)), .val (.int b), .val (.int (j + (2 : Int32)))] [(.int j), (.int (j + (2 : Int32)))]))
           refine own_st (fun t_ => XS.iload (own_here Y3) hx rfl (hb hby own_d2_225) rfl) ?_
           show own_Ends _ _ _ _ (T2.setTop (mkF m 227 #[.val (.ref r0), .val (.int x1), .val (.int x2), .val (.int j), .val (.int a), .val (.int (2 : Int32)), .val (.int (128 : Int32)), .val (.int (191 : Int32)), .val (.int b), .val (.int (j + (2 : Int32)))] [(.int (2 : Int32)), (.int j), (.int (j + (2 : Int32)))]))
           refine own_st (fun t_ => XS.iadd (own_here Y3) hx rfl (hb hby own_d2_227) rfl) ?_
           show own_Ends _ _ _ _ (T2.setTop (mkF m 228 #[.val (.ref r0), .val (.int x1), .val (.int x2), .val (.int j), .val (.int a), .val (.int (2 : Int32)), .val (.int (128 : Int32)), .val (.int (191 : Int32)), .val (.int b), .val (.int (j + (2 : Int32)))] [(.int (j + (2 : Int32))), (.int (j + (2 : Int32)))]))
           have ee0 := own_add hj own_l2 (by omega)
           refine own_st (fun t_ => XS.icmpYes (own_here Y3) hx rfl (pc0 := 228) (pc' := 253) rfl (hb hby own_d2_228) rfl (XT.ii_ge_t (by rw [own_lt]; omega)) (by decide) (by decide)) ?_
           show own_Ends _ _ _ _ (T2.setTop (mkF m 253 #[.val (.ref r0), .val (.int x1), .val (.int x2), .val (.int j), .val (.int a), .val (.int (2 : Int32)), .val (.int (128 : Int32)), .val (.int (191 : Int32)), .val (.int b), .val (.int (j + (2 : Int32)))] []))
           refine own_st (fun t_ => XS.iloadN (own_here Y3) hx rfl (hb hby own_d2_253) rfl) ?_
           show own_Ends _ _ _ _ (T2.setTop (mkF m 254 #[.val (.ref r0), .val (.int x1), .val (.int x2), .val (.int j), .val (.int a), .val (.int (2 : Int32)), .val (.int (128 : Int32)), .val (.int (191 : Int32)), .val (.int b), .val (.int (j + (2 : Int32)))] [(.int j)]))
           refine own_st (fun t_ => XS.iload (own_here Y3) hx rfl (hb hby own_d2_254) rfl) ?_
           show own_Ends _ _ _ _ (T2.setTop (mkF m 256 #[.val (.ref r0), .val (.int x1), .val (.int x2), .val (.int j), .val (.int a), .val (.int (2 : Int32)), .val (.int (128 : Int32)), .val (.int (191 : Int32)), .val (.int b), .val (.int (j + (2 : Int32)))] [(.int (2 : Int32)), (.int j)]))
           refine own_st (fun t_ => XS.iadd (own_here Y3) hx rfl (hb hby own_d2_256) rfl) ?_
           show own_Ends _ _ _ _ (T2.setTop (mkF m 257 #[.val (.ref r0), .val (.int x1), .val (.int x2), .val (.int j), .val (.int a), .val (.int (2 : Int32)), .val (.int (128 : Int32)), .val (.int (191 : Int32)), .val (.int b), .val (.int (j + (2 : Int32)))] [(.int (j + (2 : Int32)))]))
           refine own_st (fun t_ => XS.istoreN (own_here Y3) hx rfl (hb hby own_d2_257) rfl (l' := #[.val (.ref r0), .val (.int x1), .val (.int x2), .val (.int (j + (2 : Int32))), .val (.int a), .val (.int (2 : Int32)), .val (.int (128 : Int32)), .val (.int (191 : Int32)), .val (.int b), .val (.int (j + (2 : Int32)))]) rfl) ?_
           show own_Ends _ _ _ _ (T2.setTop (mkF m 258 #[.val (.ref r0), .val (.int x1), .val (.int x2), .val (.int (j + (2 : Int32))), .val (.int a), .val (.int (2 : Int32)), .val (.int (128 : Int32)), .val (.int (191 : Int32)), .val (.int b), .val (.int (j + (2 : Int32)))] []))
           refine own_st (fun t_ => XS.goto (own_here Y3) hx rfl (pc0 := 258) (pc' := 2) rfl (hb hby own_d2_258) (by decide) (by decide)) ?_
           show own_Ends _ _ _ _ (T2.setTop (mkF m 2 #[.val (.ref r0), .val (.int x1), .val (.int x2), .val (.int (j + (2 : Int32))), .val (.int a), .val (.int (2 : Int32)), .val (.int (128 : Int32)), .val (.int (191 : Int32)), .val (.int b), .val (.int (j + (2 : Int32)))] []))
           have c21_5t := c21_5; simp only [own_lt] at c21_5t
           have c45_6t := c45_6; simp only [own_lt] at c45_6t
           have c53_7t := c53_7; simp only [own_lt] at c53_7t
           have c205_42t := c205_42; simp only [own_lt] at c205_42t
           have c212_43t := c212_43; simp only [own_lt] at c212_43t
           have ra := own_u_rng xs i; rw [ua] at ra
           have f1 : (own_A1 (own_u xs i)) = false := by simp only [own_A1, ua, decide_eq_false_iff_not]; omega
           have f2 : (decide (i + 2 ≤ t) && own_A2 (own_u xs i) (own_u xs (i + 1))) = true := by simp only [own_A2, ua, u1, Bool.and_eq_true, decide_eq_true_eq]; omega
           have f3 : (decide (i + 3 ≤ t) && own_A3 (own_u xs i) (own_u xs (i + 1)) (own_u xs (i + 2))) = false := by simp only [own_A3, ua, u1, Bool.and_eq_false_iff, decide_eq_false_iff_not]; omega
           have f4 : (decide (i + 4 ≤ t) && own_A4 (own_u xs i) (own_u xs (i + 1)) (own_u xs (i + 2)) (own_u xs (i + 3))) = false := by simp only [own_A4, ua, u1, Bool.and_eq_false_iff, decide_eq_false_iff_not]; omega
           have hR2 : own_V (own_u xs) t (k - 1) (i + 2) = R := by
             rw [← hR]; obtain ⟨k', rfl⟩ : ∃ k', k = k' + 1 := ⟨k - 1, by omega⟩
             have hti : decide (t ≤ i) = false := by simp only [decide_eq_false_iff_not]; omega
             simp only [own_V, Nat.add_sub_cancel, hti, f1, f2, f3, f4, Bool.false_and, Bool.true_and, Bool.or_false, Bool.false_or]
           exact ih (k - 1) (by omega) T2  (i + 2) ((j + (2 : Int32))) (.val (.int a)) (.val (.int (2 : Int32))) (.val (.int (128 : Int32))) (.val (.int (191 : Int32))) (.val (.int b)) (.val (.int (j + (2 : Int32)))) Y3  (own_add hj own_l2 (by omega)) (by omega) (by omega) hR2 (One.val rfl) (One.val rfl) (One.val rfl) (One.val rfl) (One.val rfl) (One.val rfl)
    ·
     refine own_st (fun t_ => XS.icmpYes (own_here Y3) hx rfl (pc0 := 4) (pc' := 261) rfl (hb hby own_d2_4) rfl (XT.ii_ge_t c4_4) (by decide) (by decide)) ?_
     show own_Ends _ _ _ _ (T2.setTop (mkF m 261 #[.val (.ref r0), .val (.int x1), .val (.int x2), .val (.int j), s4, s5, s6, s7, s8, s9] []))
     refine own_st (fun t_ => XS.iconst (own_here Y3) hx rfl (hb hby own_d2_261) ) ?_
     show own_Ends _ _ _ _ (T2.setTop (mkF m 262 #[.val (.ref r0), .val (.int x1), .val (.int x2), .val (.int j), s4, s5, s6, s7, s8, s9] [(.int (1 : Int32))]))
     refine own_retN Y3 hx hlk (t := .boolean) hret (by simp) (hb hby own_d2_262) (by decide) (by decide) ?_
     refine ⟨?_, rfl⟩
     have hti : t ≤ i := by have := c4_4; rw [own_lt, hj, ht] at this; omega
     have : own_V (own_u xs) t (t - f) f = true := by rw [hR0, ← hR]; cases k <;> simp [own_V, hti]
     rw [this]; rfl
  exact hL1 (t - f) T0  (f) (x1) (.unset) (.unset) (.unset) (.unset) (.unset) (.unset) Y0  hf hft (by omega) hR0 One.u One.u One.u One.u One.u One.u
theorem own_cp2 (a b : Int32) : (((a &&& 31) <<< ((6 : Int32) &&& 31)) ||| (b &&& 63)).toInt = (a.toInt % 32) * 64 + b.toInt % 64 := by
  have h1 := c_mask a 31 5 (by decide) (by decide)
  have h2 := c_mask b 63 6 (by decide) (by decide)
  have h3 := c_ishl (a &&& 31) 6 6 (by decide)
  have h5 := rng32 ((a &&& 31) <<< ((6 : Int32) &&& 31))
  have p1 : ((2 ^ 5 : Nat) : Int) = 32 := by decide
  have p2 : ((2 ^ 6 : Nat) : Int) = 64 := by decide
  rw [p1] at h1; rw [p2] at h2 h3
  have h4 := c_or ((a &&& 31) <<< ((6 : Int32) &&& 31)) (b &&& 63) 6 (by decide) 64 (by decide) (by omega) (by omega) (by omega)
  have h6 := rng32 (((a &&& 31) <<< ((6 : Int32) &&& 31)) ||| (b &&& 63))
  omega
theorem own_cp3 (a b c : Int32) : ((((a &&& 15) <<< ((12 : Int32) &&& 31)) ||| ((b &&& 63) <<< ((6 : Int32) &&& 31))) ||| (c &&& 63)).toInt = (a.toInt % 16) * 4096 + (b.toInt % 64) * 64 + c.toInt % 64 := by
  have h1 := c_mask a 15 4 (by decide) (by decide)
  have h2 := c_mask b 63 6 (by decide) (by decide)
  have h2' := c_mask c 63 6 (by decide) (by decide)
  have h3 := c_ishl (a &&& 15) 12 12 (by decide)
  have h3' := c_ishl (b &&& 63) 6 6 (by decide)
  have p1 : ((2 ^ 4 : Nat) : Int) = 16 := by decide
  have p2 : ((2 ^ 6 : Nat) : Int) = 64 := by decide
  have p3 : ((2 ^ 12 : Nat) : Int) = 4096 := by decide
  rw [p1] at h1; rw [p2] at h2 h2' h3'; rw [p3] at h3
  have h5 := rng32 ((a &&& 15) <<< ((12 : Int32) &&& 31))
  have h5' := rng32 ((b &&& 63) <<< ((6 : Int32) &&& 31))
  have h4 := c_or ((a &&& 15) <<< ((12 : Int32) &&& 31)) ((b &&& 63) <<< ((6 : Int32) &&& 31)) 12 (by decide) 4096 (by decide) (by omega) (by omega) (by omega)
  have h6 := rng32 (((a &&& 15) <<< ((12 : Int32) &&& 31)) ||| ((b &&& 63) <<< ((6 : Int32) &&& 31)))
  have h7 := c_or (((a &&& 15) <<< ((12 : Int32) &&& 31)) ||| ((b &&& 63) <<< ((6 : Int32) &&& 31))) (c &&& 63) 6 (by decide) 64 (by decide) (by omega) (by omega) (by omega)
  have h8 := rng32 ((((a &&& 15) <<< ((12 : Int32) &&& 31)) ||| ((b &&& 63) <<< ((6 : Int32) &&& 31))) ||| (c &&& 63))
  omega
theorem own_cp4 (a b c d : Int32) : (((((a &&& 7) <<< ((18 : Int32) &&& 31)) ||| ((b &&& 63) <<< ((12 : Int32) &&& 31))) ||| ((c &&& 63) <<< ((6 : Int32) &&& 31))) ||| (d &&& 63)).toInt = (a.toInt % 8) * 262144 + (b.toInt % 64) * 4096 + (c.toInt % 64) * 64 + d.toInt % 64 := by
  have h1 := c_mask a 7 3 (by decide) (by decide)
  have h2 := c_mask b 63 6 (by decide) (by decide)
  have h2' := c_mask c 63 6 (by decide) (by decide)
  have h2'' := c_mask d 63 6 (by decide) (by decide)
  have h3 := c_ishl (a &&& 7) 18 18 (by decide)
  have h3' := c_ishl (b &&& 63) 12 12 (by decide)
  have h3'' := c_ishl (c &&& 63) 6 6 (by decide)
  have p1 : ((2 ^ 3 : Nat) : Int) = 8 := by decide
  have p2 : ((2 ^ 6 : Nat) : Int) = 64 := by decide
  have p3 : ((2 ^ 12 : Nat) : Int) = 4096 := by decide
  have p4 : ((2 ^ 18 : Nat) : Int) = 262144 := by decide
  rw [p1] at h1; rw [p2] at h2 h2' h2'' h3''; rw [p3] at h3'; rw [p4] at h3
  have h5 := rng32 ((a &&& 7) <<< ((18 : Int32) &&& 31))
  have h5' := rng32 ((b &&& 63) <<< ((12 : Int32) &&& 31))
  have h5'' := rng32 ((c &&& 63) <<< ((6 : Int32) &&& 31))
  have h4 := c_or ((a &&& 7) <<< ((18 : Int32) &&& 31)) ((b &&& 63) <<< ((12 : Int32) &&& 31)) 18 (by decide) 262144 (by decide) (by omega) (by omega) (by omega)
  have h6 := rng32 (((a &&& 7) <<< ((18 : Int32) &&& 31)) ||| ((b &&& 63) <<< ((12 : Int32) &&& 31)))
  have h7 := c_or (((a &&& 7) <<< ((18 : Int32) &&& 31)) ||| ((b &&& 63) <<< ((12 : Int32) &&& 31))) ((c &&& 63) <<< ((6 : Int32) &&& 31)) 12 (by decide) 4096 (by decide) (by omega) (by omega) (by omega)
  have h8 := rng32 ((((a &&& 7) <<< ((18 : Int32) &&& 31)) ||| ((b &&& 63) <<< ((12 : Int32) &&& 31))) ||| ((c &&& 63) <<< ((6 : Int32) &&& 31)))
  have h9 := c_or ((((a &&& 7) <<< ((18 : Int32) &&& 31)) ||| ((b &&& 63) <<< ((12 : Int32) &&& 31))) ||| ((c &&& 63) <<< ((6 : Int32) &&& 31))) (d &&& 63) 6 (by decide) 64 (by decide) (by omega) (by omega) (by omega)
  have h10 := rng32 (((((a &&& 7) <<< ((18 : Int32) &&& 31)) ||| ((b &&& 63) <<< ((12 : Int32) &&& 31))) ||| ((c &&& 63) <<< ((6 : Int32) &&& 31))) ||| (d &&& 63))
  omega
def own_ct (x : Int) : Bool := decide (128 ≤ x ∧ x ≤ 191)
theorem own_same {y : Int32} (hy : 0 ≤ y.toInt ∧ y.toInt ≤ 255) : (((y.toInt8.toInt32).toInt8.toInt32) &&& 255).toInt = y.toInt := by
  have e : (y.toInt8.toInt32).toInt8.toInt32 = y.toInt8.toInt32 := by simp
  rw [e]
  have h := c_i2b y
  have h2 := c_mask (y.toInt8.toInt32) 255 8 (by decide) (by decide)
  have p : ((2 ^ 8 : Nat) : Int) = 256 := by decide
  rw [p] at h2
  omega
theorem own_bools : ∀ a01 a02 a03 a04 a11 a12 a13 a21 a22 a31 : Bool,
    ((a01 && (a11 && (a21 && a31 || a22) || a12 && a31 || a13) || a02 && (a21 && a31 || a22) || a03 && a31 || a04) = ((((a01 && a11 || a02) && a21 || (a01 && a12) || a03) && a31) || ((a01 && a11 || a02) && a22) || (a01 && a13) || a04)) := by decide +kernel
theorem own_bools3 : ∀ a01 a02 a03 a11 a12 a21 : Bool, ((a01 && (a11 && a21 || a12) || a02 && a21 || a03) = (((a01 && a11 || a02) && a21) || (a01 && a12) || a03)) := by decide +kernel
theorem own_pn1 : plainName "kombos/graph/Utf8IsValidPinLaw" = true := by first | (simp [plainName, overriddenIn]; done) | decide +kernel
theorem own_d3_0 : decode method_2_code 0 = .ok (.iload_n 0, 1) := by decide +kernel
theorem own_d3_1 : decode method_2_code 1 = .ok (.sipush 128, 3) := by decide +kernel
theorem own_d3_4 : decode method_2_code 4 = .ok (.if_icmp .lt 14, 3) := by decide +kernel
theorem own_d3_18 : decode method_2_code 18 = .ok (.iconst 0, 1) := by decide +kernel
theorem own_d3_19 : decode method_2_code 19 = .ok (.ireturn, 1) := by decide +kernel
theorem own_d3_7 : decode method_2_code 7 = .ok (.iload_n 0, 1) := by decide +kernel
theorem own_d3_8 : decode method_2_code 8 = .ok (.sipush 191, 3) := by decide +kernel
theorem own_d3_11 : decode method_2_code 11 = .ok (.if_icmp .gt 7, 3) := by decide +kernel
theorem own_d3_14 : decode method_2_code 14 = .ok (.iconst 1, 1) := by decide +kernel
theorem own_d3_15 : decode method_2_code 15 = .ok (.goto 4, 3) := by decide +kernel
theorem own_ef_own_rm3 (m : MethodId) (x0 : Int32) : entryFrame m #[(.int x0)] 1 = mkF m 0 #[.val (.int x0)] [] := by first | (simp [entryFrame, mkF, argsToLocals, Value.category]; done) | rfl
def own_Q_own_rm3 (Z : State) (x0 : Int32) (h0 : Heap) (n0 : Nat) (v : Option Value) (h : Heap) : Prop := v = some (.int (own_b (own_ct x0.toInt))) ∧ h0 = h
set_option maxRecDepth 65536 in
set_option maxHeartbeats 40000000 in
theorem own_rm3 (l : Launch) (Z : State) (a0 : Array Value) (hw : ∀ d ∈ tables_1, d.before a0 Z = true) (ws : List Jvm.Cond) (x0 : Int32)  (h0 : Heap) (n0 : Nat)   :
    own_Con l Z (⟨"kombos/graph/Utf8IsValidPinLaw", "cont", "(I)Z"⟩ : MethodName) method_2_code 1 (some .boolean) ws ({ frames := 0, cells := 0, slots := 0, locals := 0 } : Room) #[(.int x0)] h0 n0 (own_Q_own_rm3 Z x0 h0 n0) := by
  refine own_body (plainFor_of_name own_pn1) ?_
  intro p e s m below meth c T0 hx hZ hby hml hown hnm hret hlk Y0
  replace hown : s.vm.findClass "kombos/graph/Utf8IsValidPinLaw" = some m.cls := hown
  replace hnm : meth.name = "cont" := hnm
  rw [own_ef_own_rm3 m x0]
  show own_Ends _ _ _ _ (T0.setTop (mkF m 0 #[.val (.int x0)] []))
  refine own_st (fun t_ => XS.iloadN (own_here Y0) hx rfl (hb hby own_d3_0) rfl) ?_
  show own_Ends _ _ _ _ (T0.setTop (mkF m 1 #[.val (.int x0)] [(.int x0)]))
  refine own_st (fun t_ => XS.sipush (own_here Y0) hx rfl (hb hby own_d3_1) ) ?_
  show own_Ends _ _ _ _ (T0.setTop (mkF m 4 #[.val (.int x0)] [(.int (128 : Int32)), (.int x0)]))
  by_cases c4_44 : x0 < (128 : Int32)
  ·
   refine own_st (fun t_ => XS.icmpYes (own_here Y0) hx rfl (pc0 := 4) (pc' := 18) rfl (hb hby own_d3_4) rfl (XT.ii_lt_t c4_44) (by decide) (by decide)) ?_
   show own_Ends _ _ _ _ (T0.setTop (mkF m 18 #[.val (.int x0)] []))
   refine own_st (fun t_ => XS.iconst (own_here Y0) hx rfl (hb hby own_d3_18) ) ?_
   show own_Ends _ _ _ _ (T0.setTop (mkF m 19 #[.val (.int x0)] [(.int (0 : Int32))]))
   refine own_retN Y0 hx hlk (t := .boolean) hret (by simp) (hb hby own_d3_19) (by decide) (by decide) ?_
   refine ⟨?_, rfl⟩
   have e128 : (128 : Int32).toInt = 128 := rfl; have e191 : (191 : Int32).toInt = 191 := rfl
   simp only [own_lt] at c4_44
   have : own_ct x0.toInt = false := by simp only [own_ct, decide_eq_false_iff_not]; omega
   rw [this]; rfl
  ·
   refine own_st (fun t_ => XS.icmpNo (own_here Y0) hx rfl (hb hby own_d3_4) rfl (XT.ii_lt_f c4_44)) ?_
   show own_Ends _ _ _ _ (T0.setTop (mkF m 7 #[.val (.int x0)] []))
   refine own_st (fun t_ => XS.iloadN (own_here Y0) hx rfl (hb hby own_d3_7) rfl) ?_
   show own_Ends _ _ _ _ (T0.setTop (mkF m 8 #[.val (.int x0)] [(.int x0)]))
   refine own_st (fun t_ => XS.sipush (own_here Y0) hx rfl (hb hby own_d3_8) ) ?_
   show own_Ends _ _ _ _ (T0.setTop (mkF m 11 #[.val (.int x0)] [(.int (191 : Int32)), (.int x0)]))
   by_cases c11_45 : (191 : Int32) < x0
   ·
    refine own_st (fun t_ => XS.icmpYes (own_here Y0) hx rfl (pc0 := 11) (pc' := 18) rfl (hb hby own_d3_11) rfl (XT.ii_gt_t c11_45) (by decide) (by decide)) ?_
    show own_Ends _ _ _ _ (T0.setTop (mkF m 18 #[.val (.int x0)] []))
    refine own_st (fun t_ => XS.iconst (own_here Y0) hx rfl (hb hby own_d3_18) ) ?_
    show own_Ends _ _ _ _ (T0.setTop (mkF m 19 #[.val (.int x0)] [(.int (0 : Int32))]))
    refine own_retN Y0 hx hlk (t := .boolean) hret (by simp) (hb hby own_d3_19) (by decide) (by decide) ?_
    refine ⟨?_, rfl⟩
    have e128 : (128 : Int32).toInt = 128 := rfl; have e191 : (191 : Int32).toInt = 191 := rfl
    simp only [own_lt] at c4_44 c11_45
    have : own_ct x0.toInt = false := by simp only [own_ct, decide_eq_false_iff_not]; omega
    rw [this]; rfl
   ·
    refine own_st (fun t_ => XS.icmpNo (own_here Y0) hx rfl (hb hby own_d3_11) rfl (XT.ii_gt_f c11_45)) ?_
    show own_Ends _ _ _ _ (T0.setTop (mkF m 14 #[.val (.int x0)] []))
    refine own_st (fun t_ => XS.iconst (own_here Y0) hx rfl (hb hby own_d3_14) ) ?_
    show own_Ends _ _ _ _ (T0.setTop (mkF m 15 #[.val (.int x0)] [(.int (1 : Int32))]))
    refine own_st (fun t_ => XS.goto (own_here Y0) hx rfl (pc0 := 15) (pc' := 19) rfl (hb hby own_d3_15) (by decide) (by decide)) ?_
    show own_Ends _ _ _ _ (T0.setTop (mkF m 19 #[.val (.int x0)] [(.int (1 : Int32))]))
    refine own_retN Y0 hx hlk (t := .boolean) hret (by simp) (hb hby own_d3_19) (by decide) (by decide) ?_
    refine ⟨?_, rfl⟩
    have e128 : (128 : Int32).toInt = 128 := rfl; have e191 : (191 : Int32).toInt = 191 := rfl
    simp only [own_lt] at c4_44 c11_45
    have : own_ct x0.toInt = true := by simp only [own_ct, decide_eq_true_eq]; omega
    rw [this]; rfl
theorem own_d1_0 : decode method_3_code 0 = .ok (.aload_n 0, 1) := by decide +kernel
theorem own_d1_1 : decode method_3_code 1 = .ok (.iload_n 1, 1) := by decide +kernel
theorem own_d1_2 : decode method_3_code 2 = .ok (.iaload, 1) := by decide +kernel
theorem own_d1_3 : decode method_3_code 3 = .ok (.istore_n 3, 1) := by decide +kernel
theorem own_d1_4 : decode method_3_code 4 = .ok (.iload_n 2, 1) := by decide +kernel
theorem own_d1_5 : decode method_3_code 5 = .ok (.iconst 1, 1) := by decide +kernel
theorem own_d1_6 : decode method_3_code 6 = .ok (.if_icmp .ne 16, 3) := by decide +kernel
theorem own_d1_9 : decode method_3_code 9 = .ok (.iload_n 3, 1) := by decide +kernel
theorem own_d1_10 : decode method_3_code 10 = .ok (.sipush 128, 3) := by decide +kernel
theorem own_d1_13 : decode method_3_code 13 = .ok (.if_icmp .ge 7, 3) := by decide +kernel
theorem own_d1_16 : decode method_3_code 16 = .ok (.iconst 1, 1) := by decide +kernel
theorem own_d1_17 : decode method_3_code 17 = .ok (.goto 4, 3) := by decide +kernel
theorem own_d1_21 : decode method_3_code 21 = .ok (.ireturn, 1) := by decide +kernel
theorem own_d1_20 : decode method_3_code 20 = .ok (.iconst 0, 1) := by decide +kernel
theorem own_ef_own_rm1_0_1 (m : MethodId) (r0 : Addr) : entryFrame m #[(.ref r0), (.int (0 : Int32)), (.int (1 : Int32))] 5 = mkF m 0 #[.val (.ref r0), .val (.int (0 : Int32)), .val (.int (1 : Int32)), .unset, .unset] [] := by first | (simp [entryFrame, mkF, argsToLocals, Value.category]; done) | rfl
def own_Q_own_rm1_0_1 (Z : State) (y0 y1 y2 y3 : Int32) (h0 : Heap) (n0 : Nat) (v : Option Value) (h : Heap) : Prop := v = some (.int (own_b (own_A1 y0.toInt))) ∧ h0 = h
set_option maxRecDepth 65536 in
set_option maxHeartbeats 40000000 in
theorem own_rm1_0_1 (l : Launch) (Z : State) (a0 : Array Value) (hw : ∀ d ∈ tables_1, d.before a0 Z = true) (ws : List Jvm.Cond) (r0 : Addr) (y0 y1 y2 y3 : Int32) (h0 : Heap) (n0 : Nat)  (A : own_A Z h0 r0 .int [(.int y0), (.int y1), (.int y2), (.int y3)]) (g0 : 0 ≤ y0.toInt ∧ y0.toInt ≤ 255) (g1 : 0 ≤ y1.toInt ∧ y1.toInt ≤ 255) (g2 : 0 ≤ y2.toInt ∧ y2.toInt ≤ 255) (g3 : 0 ≤ y3.toInt ∧ y3.toInt ≤ 255) :
    own_Con l Z (⟨"kombos/graph/Utf8IsValidPinLaw", "ok", "([III)Z"⟩ : MethodName) method_3_code 5 (some .boolean) ws ({ frames := 0, cells := 0, slots := 0, locals := 0 } : Room) #[(.ref r0), (.int (0 : Int32)), (.int (1 : Int32))] h0 n0 (own_Q_own_rm1_0_1 Z y0 y1 y2 y3 h0 n0) := by
  refine own_body (plainFor_of_name own_pn1) ?_
  intro p e s m below meth c T0 hx hZ hby hml hown hnm hret hlk Y0
  replace hown : s.vm.findClass "kombos/graph/Utf8IsValidPinLaw" = some m.cls := hown
  replace hnm : meth.name = "ok" := hnm
  rw [own_ef_own_rm1_0_1 m r0]
  show own_Ends _ _ _ _ (T0.setTop (mkF m 0 #[.val (.ref r0), .val (.int (0 : Int32)), .val (.int (1 : Int32)), .unset, .unset] []))
  refine own_st (fun t_ => XS.aloadN (own_here Y0) hx rfl (hb hby own_d1_0) rfl rfl) ?_
  show own_Ends _ _ _ _ (T0.setTop (mkF m 1 #[.val (.ref r0), .val (.int (0 : Int32)), .val (.int (1 : Int32)), .unset, .unset] [(.ref r0)]))
  refine own_st (fun t_ => XS.iloadN (own_here Y0) hx rfl (hb hby own_d1_1) rfl) ?_
  show own_Ends _ _ _ _ (T0.setTop (mkF m 2 #[.val (.ref r0), .val (.int (0 : Int32)), .val (.int (1 : Int32)), .unset, .unset] [(.int (0 : Int32)), (.ref r0)]))
  refine own_ldI Y0 hx hZ A (i := 0) (by decide) (by decide) (Nat.le_of_ble_eq_true rfl) (v := (.int y0)) rfl rfl rfl (hb hby own_d1_2) ?_
  show own_Ends _ _ _ _ (T0.setTop (mkF m 3 #[.val (.ref r0), .val (.int (0 : Int32)), .val (.int (1 : Int32)), .unset, .unset] [(.int y0)]))
  refine own_st (fun t_ => XS.istoreN (own_here Y0) hx rfl (hb hby own_d1_3) rfl (l' := #[.val (.ref r0), .val (.int (0 : Int32)), .val (.int (1 : Int32)), .val (.int y0), .unset]) rfl) ?_
  show own_Ends _ _ _ _ (T0.setTop (mkF m 4 #[.val (.ref r0), .val (.int (0 : Int32)), .val (.int (1 : Int32)), .val (.int y0), .unset] []))
  refine own_st (fun t_ => XS.iloadN (own_here Y0) hx rfl (hb hby own_d1_4) rfl) ?_
  show own_Ends _ _ _ _ (T0.setTop (mkF m 5 #[.val (.ref r0), .val (.int (0 : Int32)), .val (.int (1 : Int32)), .val (.int y0), .unset] [(.int (1 : Int32))]))
  refine own_st (fun t_ => XS.iconst (own_here Y0) hx rfl (hb hby own_d1_5) ) ?_
  show own_Ends _ _ _ _ (T0.setTop (mkF m 6 #[.val (.ref r0), .val (.int (0 : Int32)), .val (.int (1 : Int32)), .val (.int y0), .unset] [(.int (1 : Int32)), (.int (1 : Int32))]))
  refine own_st (fun t_ => XS.icmpNo (own_here Y0) hx rfl (hb hby own_d1_6) rfl (XT.ii_ne_f (by decide))) ?_
  show own_Ends _ _ _ _ (T0.setTop (mkF m 9 #[.val (.ref r0), .val (.int (0 : Int32)), .val (.int (1 : Int32)), .val (.int y0), .unset] []))
  refine own_st (fun t_ => XS.iloadN (own_here Y0) hx rfl (hb hby own_d1_9) rfl) ?_
  show own_Ends _ _ _ _ (T0.setTop (mkF m 10 #[.val (.ref r0), .val (.int (0 : Int32)), .val (.int (1 : Int32)), .val (.int y0), .unset] [(.int y0)]))
  refine own_st (fun t_ => XS.sipush (own_here Y0) hx rfl (hb hby own_d1_10) ) ?_
  show own_Ends _ _ _ _ (T0.setTop (mkF m 13 #[.val (.ref r0), .val (.int (0 : Int32)), .val (.int (1 : Int32)), .val (.int y0), .unset] [(.int (128 : Int32)), (.int y0)]))
  by_cases c13_46 : y0 < (128 : Int32)
  ·
   refine own_st (fun t_ => XS.icmpNo (own_here Y0) hx rfl (hb hby own_d1_13) rfl (XT.ii_ge_f c13_46)) ?_
   show own_Ends _ _ _ _ (T0.setTop (mkF m 16 #[.val (.ref r0), .val (.int (0 : Int32)), .val (.int (1 : Int32)), .val (.int y0), .unset] []))
   refine own_st (fun t_ => XS.iconst (own_here Y0) hx rfl (hb hby own_d1_16) ) ?_
   show own_Ends _ _ _ _ (T0.setTop (mkF m 17 #[.val (.ref r0), .val (.int (0 : Int32)), .val (.int (1 : Int32)), .val (.int y0), .unset] [(.int (1 : Int32))]))
   refine own_st (fun t_ => XS.goto (own_here Y0) hx rfl (pc0 := 17) (pc' := 21) rfl (hb hby own_d1_17) (by decide) (by decide)) ?_
   show own_Ends _ _ _ _ (T0.setTop (mkF m 21 #[.val (.ref r0), .val (.int (0 : Int32)), .val (.int (1 : Int32)), .val (.int y0), .unset] [(.int (1 : Int32))]))
   refine own_retN Y0 hx hlk (t := .boolean) hret (by simp) (hb hby own_d1_21) (by decide) (by decide) ?_
   refine ⟨?_, rfl⟩
   have q0 := c13_46; simp only [own_lt] at q0
   have l128 : (128 : Int32).toInt = 128 := rfl
   have : (own_A1 y0.toInt) = true := by simp only [own_A1, decide_eq_true_eq]; omega
   rw [this]; rfl
  ·
   refine own_st (fun t_ => XS.icmpYes (own_here Y0) hx rfl (pc0 := 13) (pc' := 20) rfl (hb hby own_d1_13) rfl (XT.ii_ge_t c13_46) (by decide) (by decide)) ?_
   show own_Ends _ _ _ _ (T0.setTop (mkF m 20 #[.val (.ref r0), .val (.int (0 : Int32)), .val (.int (1 : Int32)), .val (.int y0), .unset] []))
   refine own_st (fun t_ => XS.iconst (own_here Y0) hx rfl (hb hby own_d1_20) ) ?_
   show own_Ends _ _ _ _ (T0.setTop (mkF m 21 #[.val (.ref r0), .val (.int (0 : Int32)), .val (.int (1 : Int32)), .val (.int y0), .unset] [(.int (0 : Int32))]))
   refine own_retN Y0 hx hlk (t := .boolean) hret (by simp) (hb hby own_d1_21) (by decide) (by decide) ?_
   refine ⟨?_, rfl⟩
   have q0 := c13_46; simp only [own_lt] at q0
   have l128 : (128 : Int32).toInt = 128 := rfl
   have : (own_A1 y0.toInt) = false := by simp only [own_A1, decide_eq_false_iff_not]; omega
   rw [this]; rfl
theorem own_ef_own_rm1_1_1 (m : MethodId) (r0 : Addr) : entryFrame m #[(.ref r0), (.int (1 : Int32)), (.int (1 : Int32))] 5 = mkF m 0 #[.val (.ref r0), .val (.int (1 : Int32)), .val (.int (1 : Int32)), .unset, .unset] [] := by first | (simp [entryFrame, mkF, argsToLocals, Value.category]; done) | rfl
def own_Q_own_rm1_1_1 (Z : State) (y0 y1 y2 y3 : Int32) (h0 : Heap) (n0 : Nat) (v : Option Value) (h : Heap) : Prop := v = some (.int (own_b (own_A1 y1.toInt))) ∧ h0 = h
set_option maxRecDepth 65536 in
set_option maxHeartbeats 40000000 in
theorem own_rm1_1_1 (l : Launch) (Z : State) (a0 : Array Value) (hw : ∀ d ∈ tables_1, d.before a0 Z = true) (ws : List Jvm.Cond) (r0 : Addr) (y0 y1 y2 y3 : Int32) (h0 : Heap) (n0 : Nat)  (A : own_A Z h0 r0 .int [(.int y0), (.int y1), (.int y2), (.int y3)]) (g0 : 0 ≤ y0.toInt ∧ y0.toInt ≤ 255) (g1 : 0 ≤ y1.toInt ∧ y1.toInt ≤ 255) (g2 : 0 ≤ y2.toInt ∧ y2.toInt ≤ 255) (g3 : 0 ≤ y3.toInt ∧ y3.toInt ≤ 255) :
    own_Con l Z (⟨"kombos/graph/Utf8IsValidPinLaw", "ok", "([III)Z"⟩ : MethodName) method_3_code 5 (some .boolean) ws ({ frames := 0, cells := 0, slots := 0, locals := 0 } : Room) #[(.ref r0), (.int (1 : Int32)), (.int (1 : Int32))] h0 n0 (own_Q_own_rm1_1_1 Z y0 y1 y2 y3 h0 n0) := by
  refine own_body (plainFor_of_name own_pn1) ?_
  intro p e s m below meth c T0 hx hZ hby hml hown hnm hret hlk Y0
  replace hown : s.vm.findClass "kombos/graph/Utf8IsValidPinLaw" = some m.cls := hown
  replace hnm : meth.name = "ok" := hnm
  rw [own_ef_own_rm1_1_1 m r0]
  show own_Ends _ _ _ _ (T0.setTop (mkF m 0 #[.val (.ref r0), .val (.int (1 : Int32)), .val (.int (1 : Int32)), .unset, .unset] []))
  refine own_st (fun t_ => XS.aloadN (own_here Y0) hx rfl (hb hby own_d1_0) rfl rfl) ?_
  show own_Ends _ _ _ _ (T0.setTop (mkF m 1 #[.val (.ref r0), .val (.int (1 : Int32)), .val (.int (1 : Int32)), .unset, .unset] [(.ref r0)]))
  refine own_st (fun t_ => XS.iloadN (own_here Y0) hx rfl (hb hby own_d1_1) rfl) ?_
  show own_Ends _ _ _ _ (T0.setTop (mkF m 2 #[.val (.ref r0), .val (.int (1 : Int32)), .val (.int (1 : Int32)), .unset, .unset] [(.int (1 : Int32)), (.ref r0)]))
  refine own_ldI Y0 hx hZ A (i := 1) (by decide) (by decide) (Nat.le_of_ble_eq_true rfl) (v := (.int y1)) rfl rfl rfl (hb hby own_d1_2) ?_
  show own_Ends _ _ _ _ (T0.setTop (mkF m 3 #[.val (.ref r0), .val (.int (1 : Int32)), .val (.int (1 : Int32)), .unset, .unset] [(.int y1)]))
  refine own_st (fun t_ => XS.istoreN (own_here Y0) hx rfl (hb hby own_d1_3) rfl (l' := #[.val (.ref r0), .val (.int (1 : Int32)), .val (.int (1 : Int32)), .val (.int y1), .unset]) rfl) ?_
  show own_Ends _ _ _ _ (T0.setTop (mkF m 4 #[.val (.ref r0), .val (.int (1 : Int32)), .val (.int (1 : Int32)), .val (.int y1), .unset] []))
  refine own_st (fun t_ => XS.iloadN (own_here Y0) hx rfl (hb hby own_d1_4) rfl) ?_
  show own_Ends _ _ _ _ (T0.setTop (mkF m 5 #[.val (.ref r0), .val (.int (1 : Int32)), .val (.int (1 : Int32)), .val (.int y1), .unset] [(.int (1 : Int32))]))
  refine own_st (fun t_ => XS.iconst (own_here Y0) hx rfl (hb hby own_d1_5) ) ?_
  show own_Ends _ _ _ _ (T0.setTop (mkF m 6 #[.val (.ref r0), .val (.int (1 : Int32)), .val (.int (1 : Int32)), .val (.int y1), .unset] [(.int (1 : Int32)), (.int (1 : Int32))]))
  refine own_st (fun t_ => XS.icmpNo (own_here Y0) hx rfl (hb hby own_d1_6) rfl (XT.ii_ne_f (by decide))) ?_
  show own_Ends _ _ _ _ (T0.setTop (mkF m 9 #[.val (.ref r0), .val (.int (1 : Int32)), .val (.int (1 : Int32)), .val (.int y1), .unset] []))
  refine own_st (fun t_ => XS.iloadN (own_here Y0) hx rfl (hb hby own_d1_9) rfl) ?_
  show own_Ends _ _ _ _ (T0.setTop (mkF m 10 #[.val (.ref r0), .val (.int (1 : Int32)), .val (.int (1 : Int32)), .val (.int y1), .unset] [(.int y1)]))
  refine own_st (fun t_ => XS.sipush (own_here Y0) hx rfl (hb hby own_d1_10) ) ?_
  show own_Ends _ _ _ _ (T0.setTop (mkF m 13 #[.val (.ref r0), .val (.int (1 : Int32)), .val (.int (1 : Int32)), .val (.int y1), .unset] [(.int (128 : Int32)), (.int y1)]))
  by_cases c13_47 : y1 < (128 : Int32)
  ·
   refine own_st (fun t_ => XS.icmpNo (own_here Y0) hx rfl (hb hby own_d1_13) rfl (XT.ii_ge_f c13_47)) ?_
   show own_Ends _ _ _ _ (T0.setTop (mkF m 16 #[.val (.ref r0), .val (.int (1 : Int32)), .val (.int (1 : Int32)), .val (.int y1), .unset] []))
   refine own_st (fun t_ => XS.iconst (own_here Y0) hx rfl (hb hby own_d1_16) ) ?_
   show own_Ends _ _ _ _ (T0.setTop (mkF m 17 #[.val (.ref r0), .val (.int (1 : Int32)), .val (.int (1 : Int32)), .val (.int y1), .unset] [(.int (1 : Int32))]))
   refine own_st (fun t_ => XS.goto (own_here Y0) hx rfl (pc0 := 17) (pc' := 21) rfl (hb hby own_d1_17) (by decide) (by decide)) ?_
   show own_Ends _ _ _ _ (T0.setTop (mkF m 21 #[.val (.ref r0), .val (.int (1 : Int32)), .val (.int (1 : Int32)), .val (.int y1), .unset] [(.int (1 : Int32))]))
   refine own_retN Y0 hx hlk (t := .boolean) hret (by simp) (hb hby own_d1_21) (by decide) (by decide) ?_
   refine ⟨?_, rfl⟩
   have q0 := c13_47; simp only [own_lt] at q0
   have l128 : (128 : Int32).toInt = 128 := rfl
   have : (own_A1 y1.toInt) = true := by simp only [own_A1, decide_eq_true_eq]; omega
   rw [this]; rfl
  ·
   refine own_st (fun t_ => XS.icmpYes (own_here Y0) hx rfl (pc0 := 13) (pc' := 20) rfl (hb hby own_d1_13) rfl (XT.ii_ge_t c13_47) (by decide) (by decide)) ?_
   show own_Ends _ _ _ _ (T0.setTop (mkF m 20 #[.val (.ref r0), .val (.int (1 : Int32)), .val (.int (1 : Int32)), .val (.int y1), .unset] []))
   refine own_st (fun t_ => XS.iconst (own_here Y0) hx rfl (hb hby own_d1_20) ) ?_
   show own_Ends _ _ _ _ (T0.setTop (mkF m 21 #[.val (.ref r0), .val (.int (1 : Int32)), .val (.int (1 : Int32)), .val (.int y1), .unset] [(.int (0 : Int32))]))
   refine own_retN Y0 hx hlk (t := .boolean) hret (by simp) (hb hby own_d1_21) (by decide) (by decide) ?_
   refine ⟨?_, rfl⟩
   have q0 := c13_47; simp only [own_lt] at q0
   have l128 : (128 : Int32).toInt = 128 := rfl
   have : (own_A1 y1.toInt) = false := by simp only [own_A1, decide_eq_false_iff_not]; omega
   rw [this]; rfl
theorem own_pd0 : parseMethodDescriptor "(I)Z" = some ⟨[.int], some .boolean⟩ := by decide +kernel
theorem own_d1_22 : decode method_3_code 22 = .ok (.iload_n 2, 1) := by decide +kernel
theorem own_d1_23 : decode method_3_code 23 = .ok (.iconst 2, 1) := by decide +kernel
theorem own_d1_24 : decode method_3_code 24 = .ok (.if_icmp .ne 62, 3) := by decide +kernel
theorem own_d1_27 : decode method_3_code 27 = .ok (.iload_n 3, 1) := by decide +kernel
theorem own_d1_28 : decode method_3_code 28 = .ok (.sipush 192, 3) := by decide +kernel
theorem own_d1_31 : decode method_3_code 31 = .ok (.if_icmp .lt 21, 3) := by decide +kernel
theorem own_d1_52 : decode method_3_code 52 = .ok (.iconst 0, 1) := by decide +kernel
theorem own_d1_53 : decode method_3_code 53 = .ok (.ireturn, 1) := by decide +kernel
theorem own_d1_34 : decode method_3_code 34 = .ok (.iload_n 3, 1) := by decide +kernel
theorem own_d1_35 : decode method_3_code 35 = .ok (.sipush 223, 3) := by decide +kernel
theorem own_d1_38 : decode method_3_code 38 = .ok (.if_icmp .gt 14, 3) := by decide +kernel
theorem own_d1_41 : decode method_3_code 41 = .ok (.aload_n 0, 1) := by decide +kernel
theorem own_d1_42 : decode method_3_code 42 = .ok (.iload_n 1, 1) := by decide +kernel
theorem own_d1_43 : decode method_3_code 43 = .ok (.iconst 1, 1) := by decide +kernel
theorem own_d1_44 : decode method_3_code 44 = .ok (.iadd, 1) := by decide +kernel
theorem own_d1_45 : decode method_3_code 45 = .ok (.iaload, 1) := by decide +kernel
theorem own_d1_46 : decode method_3_code 46 = .ok (.invokestatic 7, 3) := by decide +kernel
theorem own_d1_49 : decode method_3_code 49 = .ok (.ifCond .ne 5, 3) := by decide +kernel
theorem own_d1_54 : decode method_3_code 54 = .ok (.iload_n 3, 1) := by decide +kernel
theorem own_d1_55 : decode method_3_code 55 = .ok (.bipush 31, 2) := by decide +kernel
theorem own_d1_57 : decode method_3_code 57 = .ok (.iand, 1) := by decide +kernel
theorem own_d1_58 : decode method_3_code 58 = .ok (.bipush 6, 2) := by decide +kernel
theorem own_d1_60 : decode method_3_code 60 = .ok (.ishl, 1) := by decide +kernel
theorem own_d1_61 : decode method_3_code 61 = .ok (.aload_n 0, 1) := by decide +kernel
theorem own_d1_62 : decode method_3_code 62 = .ok (.iload_n 1, 1) := by decide +kernel
theorem own_d1_63 : decode method_3_code 63 = .ok (.iconst 1, 1) := by decide +kernel
theorem own_d1_64 : decode method_3_code 64 = .ok (.iadd, 1) := by decide +kernel
theorem own_d1_65 : decode method_3_code 65 = .ok (.iaload, 1) := by decide +kernel
theorem own_d1_66 : decode method_3_code 66 = .ok (.bipush 63, 2) := by decide +kernel
theorem own_d1_68 : decode method_3_code 68 = .ok (.iand, 1) := by decide +kernel
theorem own_d1_69 : decode method_3_code 69 = .ok (.ior, 1) := by decide +kernel
theorem own_d1_70 : decode method_3_code 70 = .ok (.istore 4, 2) := by decide +kernel
theorem own_d1_72 : decode method_3_code 72 = .ok (.iload 4, 2) := by decide +kernel
theorem own_d1_74 : decode method_3_code 74 = .ok (.sipush 128, 3) := by decide +kernel
theorem own_d1_77 : decode method_3_code 77 = .ok (.if_icmp .lt 7, 3) := by decide +kernel
theorem own_d1_84 : decode method_3_code 84 = .ok (.iconst 0, 1) := by decide +kernel
theorem own_d1_85 : decode method_3_code 85 = .ok (.ireturn, 1) := by decide +kernel
theorem own_d1_80 : decode method_3_code 80 = .ok (.iconst 1, 1) := by decide +kernel
theorem own_d1_81 : decode method_3_code 81 = .ok (.goto 4, 3) := by decide +kernel
theorem own_ef_own_rm1_0_2 (m : MethodId) (r0 : Addr) : entryFrame m #[(.ref r0), (.int (0 : Int32)), (.int (2 : Int32))] 5 = mkF m 0 #[.val (.ref r0), .val (.int (0 : Int32)), .val (.int (2 : Int32)), .unset, .unset] [] := by first | (simp [entryFrame, mkF, argsToLocals, Value.category]; done) | rfl
def own_Q_own_rm1_0_2 (Z : State) (y0 y1 y2 y3 : Int32) (h0 : Heap) (n0 : Nat) (v : Option Value) (h : Heap) : Prop := v = some (.int (own_b (own_A2 y0.toInt y1.toInt))) ∧ h0 = h
set_option maxRecDepth 65536 in
set_option maxHeartbeats 40000000 in
theorem own_rm1_0_2 (l : Launch) (Z : State) (a0 : Array Value) (hw : ∀ d ∈ tables_1, d.before a0 Z = true) (ws : List Jvm.Cond) (r0 : Addr) (y0 y1 y2 y3 : Int32) (h0 : Heap) (n0 : Nat)  (A : own_A Z h0 r0 .int [(.int y0), (.int y1), (.int y2), (.int y3)]) (g0 : 0 ≤ y0.toInt ∧ y0.toInt ≤ 255) (g1 : 0 ≤ y1.toInt ∧ y1.toInt ≤ 255) (g2 : 0 ≤ y2.toInt ∧ y2.toInt ≤ 255) (g3 : 0 ≤ y3.toInt ∧ y3.toInt ≤ 255) :
    own_Con l Z (⟨"kombos/graph/Utf8IsValidPinLaw", "ok", "([III)Z"⟩ : MethodName) method_3_code 5 (some .boolean) ws ({ frames := 1, cells := 0, slots := 0, locals := 12 } : Room) #[(.ref r0), (.int (0 : Int32)), (.int (2 : Int32))] h0 n0 (own_Q_own_rm1_0_2 Z y0 y1 y2 y3 h0 n0) := by
  refine own_body (plainFor_of_name own_pn1) ?_
  intro p e s m below meth c T0 hx hZ hby hml hown hnm hret hlk Y0
  replace hown : s.vm.findClass "kombos/graph/Utf8IsValidPinLaw" = some m.cls := hown
  replace hnm : meth.name = "ok" := hnm
  rw [own_ef_own_rm1_0_2 m r0]
  show own_Ends _ _ _ _ (T0.setTop (mkF m 0 #[.val (.ref r0), .val (.int (0 : Int32)), .val (.int (2 : Int32)), .unset, .unset] []))
  refine own_st (fun t_ => XS.aloadN (own_here Y0) hx rfl (hb hby own_d1_0) rfl rfl) ?_
  show own_Ends _ _ _ _ (T0.setTop (mkF m 1 #[.val (.ref r0), .val (.int (0 : Int32)), .val (.int (2 : Int32)), .unset, .unset] [(.ref r0)]))
  refine own_st (fun t_ => XS.iloadN (own_here Y0) hx rfl (hb hby own_d1_1) rfl) ?_
  show own_Ends _ _ _ _ (T0.setTop (mkF m 2 #[.val (.ref r0), .val (.int (0 : Int32)), .val (.int (2 : Int32)), .unset, .unset] [(.int (0 : Int32)), (.ref r0)]))
  refine own_ldI Y0 hx hZ A (i := 0) (by decide) (by decide) (Nat.le_of_ble_eq_true rfl) (v := (.int y0)) rfl rfl rfl (hb hby own_d1_2) ?_
  show own_Ends _ _ _ _ (T0.setTop (mkF m 3 #[.val (.ref r0), .val (.int (0 : Int32)), .val (.int (2 : Int32)), .unset, .unset] [(.int y0)]))
  refine own_st (fun t_ => XS.istoreN (own_here Y0) hx rfl (hb hby own_d1_3) rfl (l' := #[.val (.ref r0), .val (.int (0 : Int32)), .val (.int (2 : Int32)), .val (.int y0), .unset]) rfl) ?_
  show own_Ends _ _ _ _ (T0.setTop (mkF m 4 #[.val (.ref r0), .val (.int (0 : Int32)), .val (.int (2 : Int32)), .val (.int y0), .unset] []))
  refine own_st (fun t_ => XS.iloadN (own_here Y0) hx rfl (hb hby own_d1_4) rfl) ?_
  show own_Ends _ _ _ _ (T0.setTop (mkF m 5 #[.val (.ref r0), .val (.int (0 : Int32)), .val (.int (2 : Int32)), .val (.int y0), .unset] [(.int (2 : Int32))]))
  refine own_st (fun t_ => XS.iconst (own_here Y0) hx rfl (hb hby own_d1_5) ) ?_
  show own_Ends _ _ _ _ (T0.setTop (mkF m 6 #[.val (.ref r0), .val (.int (0 : Int32)), .val (.int (2 : Int32)), .val (.int y0), .unset] [(.int (1 : Int32)), (.int (2 : Int32))]))
  refine own_st (fun t_ => XS.icmpYes (own_here Y0) hx rfl (pc0 := 6) (pc' := 22) rfl (hb hby own_d1_6) rfl (XT.ii_ne_t (by decide)) (by decide) (by decide)) ?_
  show own_Ends _ _ _ _ (T0.setTop (mkF m 22 #[.val (.ref r0), .val (.int (0 : Int32)), .val (.int (2 : Int32)), .val (.int y0), .unset] []))
  refine own_st (fun t_ => XS.iloadN (own_here Y0) hx rfl (hb hby own_d1_22) rfl) ?_
  show own_Ends _ _ _ _ (T0.setTop (mkF m 23 #[.val (.ref r0), .val (.int (0 : Int32)), .val (.int (2 : Int32)), .val (.int y0), .unset] [(.int (2 : Int32))]))
  refine own_st (fun t_ => XS.iconst (own_here Y0) hx rfl (hb hby own_d1_23) ) ?_
  show own_Ends _ _ _ _ (T0.setTop (mkF m 24 #[.val (.ref r0), .val (.int (0 : Int32)), .val (.int (2 : Int32)), .val (.int y0), .unset] [(.int (2 : Int32)), (.int (2 : Int32))]))
  refine own_st (fun t_ => XS.icmpNo (own_here Y0) hx rfl (hb hby own_d1_24) rfl (XT.ii_ne_f (by decide))) ?_
  show own_Ends _ _ _ _ (T0.setTop (mkF m 27 #[.val (.ref r0), .val (.int (0 : Int32)), .val (.int (2 : Int32)), .val (.int y0), .unset] []))
  refine own_st (fun t_ => XS.iloadN (own_here Y0) hx rfl (hb hby own_d1_27) rfl) ?_
  show own_Ends _ _ _ _ (T0.setTop (mkF m 28 #[.val (.ref r0), .val (.int (0 : Int32)), .val (.int (2 : Int32)), .val (.int y0), .unset] [(.int y0)]))
  refine own_st (fun t_ => XS.sipush (own_here Y0) hx rfl (hb hby own_d1_28) ) ?_
  show own_Ends _ _ _ _ (T0.setTop (mkF m 31 #[.val (.ref r0), .val (.int (0 : Int32)), .val (.int (2 : Int32)), .val (.int y0), .unset] [(.int (192 : Int32)), (.int y0)]))
  by_cases c31_48 : y0 < (192 : Int32)
  ·
   refine own_st (fun t_ => XS.icmpYes (own_here Y0) hx rfl (pc0 := 31) (pc' := 52) rfl (hb hby own_d1_31) rfl (XT.ii_lt_t c31_48) (by decide) (by decide)) ?_
   show own_Ends _ _ _ _ (T0.setTop (mkF m 52 #[.val (.ref r0), .val (.int (0 : Int32)), .val (.int (2 : Int32)), .val (.int y0), .unset] []))
   refine own_st (fun t_ => XS.iconst (own_here Y0) hx rfl (hb hby own_d1_52) ) ?_
   show own_Ends _ _ _ _ (T0.setTop (mkF m 53 #[.val (.ref r0), .val (.int (0 : Int32)), .val (.int (2 : Int32)), .val (.int y0), .unset] [(.int (0 : Int32))]))
   refine own_retN Y0 hx hlk (t := .boolean) hret (by simp) (hb hby own_d1_53) (by decide) (by decide) ?_
   refine ⟨?_, rfl⟩
   have q0 := c31_48; simp only [own_lt] at q0
   have l192 : (192 : Int32).toInt = 192 := rfl
   have : (own_A2 y0.toInt y1.toInt) = false := by simp only [own_A2, decide_eq_false_iff_not]; omega
   rw [this]; rfl
  ·
   refine own_st (fun t_ => XS.icmpNo (own_here Y0) hx rfl (hb hby own_d1_31) rfl (XT.ii_lt_f c31_48)) ?_
   show own_Ends _ _ _ _ (T0.setTop (mkF m 34 #[.val (.ref r0), .val (.int (0 : Int32)), .val (.int (2 : Int32)), .val (.int y0), .unset] []))
   refine own_st (fun t_ => XS.iloadN (own_here Y0) hx rfl (hb hby own_d1_34) rfl) ?_
   show own_Ends _ _ _ _ (T0.setTop (mkF m 35 #[.val (.ref r0), .val (.int (0 : Int32)), .val (.int (2 : Int32)), .val (.int y0), .unset] [(.int y0)]))
   refine own_st (fun t_ => XS.sipush (own_here Y0) hx rfl (hb hby own_d1_35) ) ?_
   show own_Ends _ _ _ _ (T0.setTop (mkF m 38 #[.val (.ref r0), .val (.int (0 : Int32)), .val (.int (2 : Int32)), .val (.int y0), .unset] [(.int (223 : Int32)), (.int y0)]))
   by_cases c38_49 : (223 : Int32) < y0
   ·
    refine own_st (fun t_ => XS.icmpYes (own_here Y0) hx rfl (pc0 := 38) (pc' := 52) rfl (hb hby own_d1_38) rfl (XT.ii_gt_t c38_49) (by decide) (by decide)) ?_
    show own_Ends _ _ _ _ (T0.setTop (mkF m 52 #[.val (.ref r0), .val (.int (0 : Int32)), .val (.int (2 : Int32)), .val (.int y0), .unset] []))
    refine own_st (fun t_ => XS.iconst (own_here Y0) hx rfl (hb hby own_d1_52) ) ?_
    show own_Ends _ _ _ _ (T0.setTop (mkF m 53 #[.val (.ref r0), .val (.int (0 : Int32)), .val (.int (2 : Int32)), .val (.int y0), .unset] [(.int (0 : Int32))]))
    refine own_retN Y0 hx hlk (t := .boolean) hret (by simp) (hb hby own_d1_53) (by decide) (by decide) ?_
    refine ⟨?_, rfl⟩
    have q0 := c31_48; simp only [own_lt] at q0
    have q1 := c38_49; simp only [own_lt] at q1
    have l192 : (192 : Int32).toInt = 192 := rfl
    have l223 : (223 : Int32).toInt = 223 := rfl
    have : (own_A2 y0.toInt y1.toInt) = false := by simp only [own_A2, decide_eq_false_iff_not]; omega
    rw [this]; rfl
   ·
    refine own_st (fun t_ => XS.icmpNo (own_here Y0) hx rfl (hb hby own_d1_38) rfl (XT.ii_gt_f c38_49)) ?_
    show own_Ends _ _ _ _ (T0.setTop (mkF m 41 #[.val (.ref r0), .val (.int (0 : Int32)), .val (.int (2 : Int32)), .val (.int y0), .unset] []))
    refine own_st (fun t_ => XS.aloadN (own_here Y0) hx rfl (hb hby own_d1_41) rfl rfl) ?_
    show own_Ends _ _ _ _ (T0.setTop (mkF m 42 #[.val (.ref r0), .val (.int (0 : Int32)), .val (.int (2 : Int32)), .val (.int y0), .unset] [(.ref r0)]))
    refine own_st (fun t_ => XS.iloadN (own_here Y0) hx rfl (hb hby own_d1_42) rfl) ?_
    show own_Ends _ _ _ _ (T0.setTop (mkF m 43 #[.val (.ref r0), .val (.int (0 : Int32)), .val (.int (2 : Int32)), .val (.int y0), .unset] [(.int (0 : Int32)), (.ref r0)]))
    refine own_st (fun t_ => XS.iconst (own_here Y0) hx rfl (hb hby own_d1_43) ) ?_
    show own_Ends _ _ _ _ (T0.setTop (mkF m 44 #[.val (.ref r0), .val (.int (0 : Int32)), .val (.int (2 : Int32)), .val (.int y0), .unset] [(.int (1 : Int32)), (.int (0 : Int32)), (.ref r0)]))
    refine own_st (fun t_ => XS.iadd (own_here Y0) hx rfl (hb hby own_d1_44) rfl) ?_
    show own_Ends _ _ _ _ (T0.setTop (mkF m 45 #[.val (.ref r0), .val (.int (0 : Int32)), .val (.int (2 : Int32)), .val (.int y0), .unset] [(.int (1 : Int32)), (.ref r0)]))
    refine own_ldI Y0 hx hZ A (i := 1) (by decide) (by decide) (Nat.le_of_ble_eq_true rfl) (v := (.int y1)) rfl rfl rfl (hb hby own_d1_45) ?_
    show own_Ends _ _ _ _ (T0.setTop (mkF m 46 #[.val (.ref r0), .val (.int (0 : Int32)), .val (.int (2 : Int32)), .val (.int y0), .unset] [(.int y1)]))
    refine own_callS Y0 hx hZ (y := (⟨"kombos/graph/Utf8IsValidPinLaw", "cont", "(I)Z"⟩ : MethodName)) hown (hw _ (List.mem_of_getElem? (i := 11) rfl)) (hw _ (List.mem_of_getElem? (i := 12) rfl)) (hw _ (List.mem_of_getElem? (i := 5) rfl)) (hw _ (List.mem_of_getElem? (i := 13) rfl)) (by decide) (argsL := [(.int y1)]) (rest := []) (own_rm3 l Z a0 hw [] y1  h0 n0  ) (W := 0) (by decide) (by decide) (by decide) (by decide) rfl (by rw [hml]; rfl) (lenOf own_pd0 rfl) rfl (by show 2 * 0 + _ ≤ _; exact Nat.le_of_eq rfl) (hb hby own_d1_46) (fun T50 h52 v53 Y51 q54 => ?_)
    obtain ⟨rfl, rfl⟩ := q54
    show own_Ends _ _ _ _ (T50.setTop (mkF m 49 #[.val (.ref r0), .val (.int (0 : Int32)), .val (.int (2 : Int32)), .val (.int y0), .unset] [(.int (own_b (own_ct y1.toInt)))]))
    by_cases c49_55 : (own_b (own_ct y1.toInt)) = (0 : Int32)
    ·
     refine own_st (fun t_ => XS.ifNo (own_here Y51) hx rfl (hb hby own_d1_49) rfl (XT.i0_ne_f c49_55)) ?_
     show own_Ends _ _ _ _ (T50.setTop (mkF m 52 #[.val (.ref r0), .val (.int (0 : Int32)), .val (.int (2 : Int32)), .val (.int y0), .unset] []))
     refine own_st (fun t_ => XS.iconst (own_here Y51) hx rfl (hb hby own_d1_52) ) ?_
     show own_Ends _ _ _ _ (T50.setTop (mkF m 53 #[.val (.ref r0), .val (.int (0 : Int32)), .val (.int (2 : Int32)), .val (.int y0), .unset] [(.int (0 : Int32))]))
     refine own_retN Y51 hx hlk (t := .boolean) hret (by simp) (hb hby own_d1_53) (by decide) (by decide) ?_
     refine ⟨?_, rfl⟩
     have q0 := c31_48; simp only [own_lt] at q0
     have q1 := c38_49; simp only [own_lt] at q1
     have q2 := c49_55; simp only [own_b_0, own_ct, decide_eq_false_iff_not] at q2
     have l192 : (192 : Int32).toInt = 192 := rfl
     have l223 : (223 : Int32).toInt = 223 := rfl
     have : (own_A2 y0.toInt y1.toInt) = false := by simp only [own_A2, decide_eq_false_iff_not]; omega
     rw [this]; rfl
    ·
     refine own_st (fun t_ => XS.ifYes (own_here Y51) hx rfl (pc0 := 49) (pc' := 54) rfl (hb hby own_d1_49) rfl (XT.i0_ne_t c49_55) (by decide) (by decide)) ?_
     show own_Ends _ _ _ _ (T50.setTop (mkF m 54 #[.val (.ref r0), .val (.int (0 : Int32)), .val (.int (2 : Int32)), .val (.int y0), .unset] []))
     refine own_st (fun t_ => XS.iloadN (own_here Y51) hx rfl (hb hby own_d1_54) rfl) ?_
     show own_Ends _ _ _ _ (T50.setTop (mkF m 55 #[.val (.ref r0), .val (.int (0 : Int32)), .val (.int (2 : Int32)), .val (.int y0), .unset] [(.int y0)]))
     refine own_st (fun t_ => XS.bipush (own_here Y51) hx rfl (hb hby own_d1_55) ) ?_
     show own_Ends _ _ _ _ (T50.setTop (mkF m 57 #[.val (.ref r0), .val (.int (0 : Int32)), .val (.int (2 : Int32)), .val (.int y0), .unset] [(.int (31 : Int32)), (.int y0)]))
     refine own_st (fun t_ => XS.iand (own_here Y51) hx rfl (hb hby own_d1_57) rfl) ?_
     show own_Ends _ _ _ _ (T50.setTop (mkF m 58 #[.val (.ref r0), .val (.int (0 : Int32)), .val (.int (2 : Int32)), .val (.int y0), .unset] [(.int (y0 &&& (31 : Int32)))]))
     refine own_st (fun t_ => XS.bipush (own_here Y51) hx rfl (hb hby own_d1_58) ) ?_
     show own_Ends _ _ _ _ (T50.setTop (mkF m 60 #[.val (.ref r0), .val (.int (0 : Int32)), .val (.int (2 : Int32)), .val (.int y0), .unset] [(.int (6 : Int32)), (.int (y0 &&& (31 : Int32)))]))
     refine own_st (fun t_ => XS.ishl (own_here Y51) hx rfl (hb hby own_d1_60) rfl) ?_
     show own_Ends _ _ _ _ (T50.setTop (mkF m 61 #[.val (.ref r0), .val (.int (0 : Int32)), .val (.int (2 : Int32)), .val (.int y0), .unset] [(.int ((y0 &&& (31 : Int32)) <<< ((6 : Int32) &&& 31)))]))
     refine own_st (fun t_ => XS.aloadN (own_here Y51) hx rfl (hb hby own_d1_61) rfl rfl) ?_
     show own_Ends _ _ _ _ (T50.setTop (mkF m 62 #[.val (.ref r0), .val (.int (0 : Int32)), .val (.int (2 : Int32)), .val (.int y0), .unset] [(.ref r0), (.int ((y0 &&& (31 : Int32)) <<< ((6 : Int32) &&& 31)))]))
     refine own_st (fun t_ => XS.iloadN (own_here Y51) hx rfl (hb hby own_d1_62) rfl) ?_
     show own_Ends _ _ _ _ (T50.setTop (mkF m 63 #[.val (.ref r0), .val (.int (0 : Int32)), .val (.int (2 : Int32)), .val (.int y0), .unset] [(.int (0 : Int32)), (.ref r0), (.int ((y0 &&& (31 : Int32)) <<< ((6 : Int32) &&& 31)))]))
     refine own_st (fun t_ => XS.iconst (own_here Y51) hx rfl (hb hby own_d1_63) ) ?_
     show own_Ends _ _ _ _ (T50.setTop (mkF m 64 #[.val (.ref r0), .val (.int (0 : Int32)), .val (.int (2 : Int32)), .val (.int y0), .unset] [(.int (1 : Int32)), (.int (0 : Int32)), (.ref r0), (.int ((y0 &&& (31 : Int32)) <<< ((6 : Int32) &&& 31)))]))
     refine own_st (fun t_ => XS.iadd (own_here Y51) hx rfl (hb hby own_d1_64) rfl) ?_
     show own_Ends _ _ _ _ (T50.setTop (mkF m 65 #[.val (.ref r0), .val (.int (0 : Int32)), .val (.int (2 : Int32)), .val (.int y0), .unset] [(.int (1 : Int32)), (.ref r0), (.int ((y0 &&& (31 : Int32)) <<< ((6 : Int32) &&& 31)))]))
     refine own_ldI Y51 hx hZ A (i := 1) (by decide) (by decide) (Nat.le_of_ble_eq_true rfl) (v := (.int y1)) rfl rfl rfl (hb hby own_d1_65) ?_
     show own_Ends _ _ _ _ (T50.setTop (mkF m 66 #[.val (.ref r0), .val (.int (0 : Int32)), .val (.int (2 : Int32)), .val (.int y0), .unset] [(.int y1), (.int ((y0 &&& (31 : Int32)) <<< ((6 : Int32) &&& 31)))]))
     refine own_st (fun t_ => XS.bipush (own_here Y51) hx rfl (hb hby own_d1_66) ) ?_
     show own_Ends _ _ _ _ (T50.setTop (mkF m 68 #[.val (.ref r0), .val (.int (0 : Int32)), .val (.int (2 : Int32)), .val (.int y0), .unset] [(.int (63 : Int32)), (.int y1), (.int ((y0 &&& (31 : Int32)) <<< ((6 : Int32) &&& 31)))]))
     refine own_st (fun t_ => XS.iand (own_here Y51) hx rfl (hb hby own_d1_68) rfl) ?_
     show own_Ends _ _ _ _ (T50.setTop (mkF m 69 #[.val (.ref r0), .val (.int (0 : Int32)), .val (.int (2 : Int32)), .val (.int y0), .unset] [(.int (y1 &&& (63 : Int32))), (.int ((y0 &&& (31 : Int32)) <<< ((6 : Int32) &&& 31)))]))
     refine own_st (fun t_ => XS.ior (own_here Y51) hx rfl (hb hby own_d1_69) rfl) ?_
     show own_Ends _ _ _ _ (T50.setTop (mkF m 70 #[.val (.ref r0), .val (.int (0 : Int32)), .val (.int (2 : Int32)), .val (.int y0), .unset] [(.int (((y0 &&& (31 : Int32)) <<< ((6 : Int32) &&& 31)) ||| (y1 &&& (63 : Int32))))]))
     refine own_st (fun t_ => XS.istore (own_here Y51) hx rfl (hb hby own_d1_70) rfl (l' := #[.val (.ref r0), .val (.int (0 : Int32)), .val (.int (2 : Int32)), .val (.int y0), .val (.int (((y0 &&& (31 : Int32)) <<< ((6 : Int32) &&& 31)) ||| (y1 &&& (63 : Int32))))]) rfl) ?_
     show own_Ends _ _ _ _ (T50.setTop (mkF m 72 #[.val (.ref r0), .val (.int (0 : Int32)), .val (.int (2 : Int32)), .val (.int y0), .val (.int (((y0 &&& (31 : Int32)) <<< ((6 : Int32) &&& 31)) ||| (y1 &&& (63 : Int32))))] []))
     generalize hp : (((y0 &&& (31 : Int32)) <<< ((6 : Int32) &&& 31)) ||| (y1 &&& (63 : Int32))) = p_
     refine own_st (fun t_ => XS.iload (own_here Y51) hx rfl (hb hby own_d1_72) rfl) ?_
     show own_Ends _ _ _ _ (T50.setTop (mkF m 74 #[.val (.ref r0), .val (.int (0 : Int32)), .val (.int (2 : Int32)), .val (.int y0), .val (.int p_)] [(.int p_)]))
     refine own_st (fun t_ => XS.sipush (own_here Y51) hx rfl (hb hby own_d1_74) ) ?_
     show own_Ends _ _ _ _ (T50.setTop (mkF m 77 #[.val (.ref r0), .val (.int (0 : Int32)), .val (.int (2 : Int32)), .val (.int y0), .val (.int p_)] [(.int (128 : Int32)), (.int p_)]))
     by_cases c77_56 : p_ < (128 : Int32)
     ·
      refine own_st (fun t_ => XS.icmpYes (own_here Y51) hx rfl (pc0 := 77) (pc' := 84) rfl (hb hby own_d1_77) rfl (XT.ii_lt_t c77_56) (by decide) (by decide)) ?_
      show own_Ends _ _ _ _ (T50.setTop (mkF m 84 #[.val (.ref r0), .val (.int (0 : Int32)), .val (.int (2 : Int32)), .val (.int y0), .val (.int p_)] []))
      refine own_st (fun t_ => XS.iconst (own_here Y51) hx rfl (hb hby own_d1_84) ) ?_
      show own_Ends _ _ _ _ (T50.setTop (mkF m 85 #[.val (.ref r0), .val (.int (0 : Int32)), .val (.int (2 : Int32)), .val (.int y0), .val (.int p_)] [(.int (0 : Int32))]))
      refine own_retN Y51 hx hlk (t := .boolean) hret (by simp) (hb hby own_d1_85) (by decide) (by decide) ?_
      refine ⟨?_, rfl⟩
      have q0 := c31_48; simp only [own_lt] at q0
      have q1 := c38_49; simp only [own_lt] at q1
      have q2 := c49_55; simp only [own_b_0, own_ct, Bool.not_eq_false, decide_eq_true_eq] at q2
      have q3 := c77_56; simp only [own_lt] at q3
      have l128 : (128 : Int32).toInt = 128 := rfl
      have l192 : (192 : Int32).toInt = 192 := rfl
      have l223 : (223 : Int32).toInt = 223 := rfl
      have cp := own_cp2 y0 y1; rw [hp] at cp
      have : (own_A2 y0.toInt y1.toInt) = false := by simp only [own_A2, decide_eq_false_iff_not]; omega
      rw [this]; rfl
     ·
      refine own_st (fun t_ => XS.icmpNo (own_here Y51) hx rfl (hb hby own_d1_77) rfl (XT.ii_lt_f c77_56)) ?_
      show own_Ends _ _ _ _ (T50.setTop (mkF m 80 #[.val (.ref r0), .val (.int (0 : Int32)), .val (.int (2 : Int32)), .val (.int y0), .val (.int p_)] []))
      refine own_st (fun t_ => XS.iconst (own_here Y51) hx rfl (hb hby own_d1_80) ) ?_
      show own_Ends _ _ _ _ (T50.setTop (mkF m 81 #[.val (.ref r0), .val (.int (0 : Int32)), .val (.int (2 : Int32)), .val (.int y0), .val (.int p_)] [(.int (1 : Int32))]))
      refine own_st (fun t_ => XS.goto (own_here Y51) hx rfl (pc0 := 81) (pc' := 85) rfl (hb hby own_d1_81) (by decide) (by decide)) ?_
      show own_Ends _ _ _ _ (T50.setTop (mkF m 85 #[.val (.ref r0), .val (.int (0 : Int32)), .val (.int (2 : Int32)), .val (.int y0), .val (.int p_)] [(.int (1 : Int32))]))
      refine own_retN Y51 hx hlk (t := .boolean) hret (by simp) (hb hby own_d1_85) (by decide) (by decide) ?_
      refine ⟨?_, rfl⟩
      have q0 := c31_48; simp only [own_lt] at q0
      have q1 := c38_49; simp only [own_lt] at q1
      have q2 := c49_55; simp only [own_b_0, own_ct, Bool.not_eq_false, decide_eq_true_eq] at q2
      have q3 := c77_56; simp only [own_lt] at q3
      have l128 : (128 : Int32).toInt = 128 := rfl
      have l192 : (192 : Int32).toInt = 192 := rfl
      have l223 : (223 : Int32).toInt = 223 := rfl
      have cp := own_cp2 y0 y1; rw [hp] at cp
      have : (own_A2 y0.toInt y1.toInt) = true := by simp only [own_A2, decide_eq_true_eq]; omega
      rw [this]; rfl
theorem own_ef_own_rm1_2_1 (m : MethodId) (r0 : Addr) : entryFrame m #[(.ref r0), (.int (2 : Int32)), (.int (1 : Int32))] 5 = mkF m 0 #[.val (.ref r0), .val (.int (2 : Int32)), .val (.int (1 : Int32)), .unset, .unset] [] := by first | (simp [entryFrame, mkF, argsToLocals, Value.category]; done) | rfl
def own_Q_own_rm1_2_1 (Z : State) (y0 y1 y2 y3 : Int32) (h0 : Heap) (n0 : Nat) (v : Option Value) (h : Heap) : Prop := v = some (.int (own_b (own_A1 y2.toInt))) ∧ h0 = h
set_option maxRecDepth 65536 in
set_option maxHeartbeats 40000000 in
theorem own_rm1_2_1 (l : Launch) (Z : State) (a0 : Array Value) (hw : ∀ d ∈ tables_1, d.before a0 Z = true) (ws : List Jvm.Cond) (r0 : Addr) (y0 y1 y2 y3 : Int32) (h0 : Heap) (n0 : Nat)  (A : own_A Z h0 r0 .int [(.int y0), (.int y1), (.int y2), (.int y3)]) (g0 : 0 ≤ y0.toInt ∧ y0.toInt ≤ 255) (g1 : 0 ≤ y1.toInt ∧ y1.toInt ≤ 255) (g2 : 0 ≤ y2.toInt ∧ y2.toInt ≤ 255) (g3 : 0 ≤ y3.toInt ∧ y3.toInt ≤ 255) :
    own_Con l Z (⟨"kombos/graph/Utf8IsValidPinLaw", "ok", "([III)Z"⟩ : MethodName) method_3_code 5 (some .boolean) ws ({ frames := 0, cells := 0, slots := 0, locals := 0 } : Room) #[(.ref r0), (.int (2 : Int32)), (.int (1 : Int32))] h0 n0 (own_Q_own_rm1_2_1 Z y0 y1 y2 y3 h0 n0) := by
  refine own_body (plainFor_of_name own_pn1) ?_
  intro p e s m below meth c T0 hx hZ hby hml hown hnm hret hlk Y0
  replace hown : s.vm.findClass "kombos/graph/Utf8IsValidPinLaw" = some m.cls := hown
  replace hnm : meth.name = "ok" := hnm
  rw [own_ef_own_rm1_2_1 m r0]
  show own_Ends _ _ _ _ (T0.setTop (mkF m 0 #[.val (.ref r0), .val (.int (2 : Int32)), .val (.int (1 : Int32)), .unset, .unset] []))
  refine own_st (fun t_ => XS.aloadN (own_here Y0) hx rfl (hb hby own_d1_0) rfl rfl) ?_
  show own_Ends _ _ _ _ (T0.setTop (mkF m 1 #[.val (.ref r0), .val (.int (2 : Int32)), .val (.int (1 : Int32)), .unset, .unset] [(.ref r0)]))
  refine own_st (fun t_ => XS.iloadN (own_here Y0) hx rfl (hb hby own_d1_1) rfl) ?_
  show own_Ends _ _ _ _ (T0.setTop (mkF m 2 #[.val (.ref r0), .val (.int (2 : Int32)), .val (.int (1 : Int32)), .unset, .unset] [(.int (2 : Int32)), (.ref r0)]))
  refine own_ldI Y0 hx hZ A (i := 2) (by decide) (by decide) (Nat.le_of_ble_eq_true rfl) (v := (.int y2)) rfl rfl rfl (hb hby own_d1_2) ?_
  show own_Ends _ _ _ _ (T0.setTop (mkF m 3 #[.val (.ref r0), .val (.int (2 : Int32)), .val (.int (1 : Int32)), .unset, .unset] [(.int y2)]))
  refine own_st (fun t_ => XS.istoreN (own_here Y0) hx rfl (hb hby own_d1_3) rfl (l' := #[.val (.ref r0), .val (.int (2 : Int32)), .val (.int (1 : Int32)), .val (.int y2), .unset]) rfl) ?_
  show own_Ends _ _ _ _ (T0.setTop (mkF m 4 #[.val (.ref r0), .val (.int (2 : Int32)), .val (.int (1 : Int32)), .val (.int y2), .unset] []))
  refine own_st (fun t_ => XS.iloadN (own_here Y0) hx rfl (hb hby own_d1_4) rfl) ?_
  show own_Ends _ _ _ _ (T0.setTop (mkF m 5 #[.val (.ref r0), .val (.int (2 : Int32)), .val (.int (1 : Int32)), .val (.int y2), .unset] [(.int (1 : Int32))]))
  refine own_st (fun t_ => XS.iconst (own_here Y0) hx rfl (hb hby own_d1_5) ) ?_
  show own_Ends _ _ _ _ (T0.setTop (mkF m 6 #[.val (.ref r0), .val (.int (2 : Int32)), .val (.int (1 : Int32)), .val (.int y2), .unset] [(.int (1 : Int32)), (.int (1 : Int32))]))
  refine own_st (fun t_ => XS.icmpNo (own_here Y0) hx rfl (hb hby own_d1_6) rfl (XT.ii_ne_f (by decide))) ?_
  show own_Ends _ _ _ _ (T0.setTop (mkF m 9 #[.val (.ref r0), .val (.int (2 : Int32)), .val (.int (1 : Int32)), .val (.int y2), .unset] []))
  refine own_st (fun t_ => XS.iloadN (own_here Y0) hx rfl (hb hby own_d1_9) rfl) ?_
  show own_Ends _ _ _ _ (T0.setTop (mkF m 10 #[.val (.ref r0), .val (.int (2 : Int32)), .val (.int (1 : Int32)), .val (.int y2), .unset] [(.int y2)]))
  refine own_st (fun t_ => XS.sipush (own_here Y0) hx rfl (hb hby own_d1_10) ) ?_
  show own_Ends _ _ _ _ (T0.setTop (mkF m 13 #[.val (.ref r0), .val (.int (2 : Int32)), .val (.int (1 : Int32)), .val (.int y2), .unset] [(.int (128 : Int32)), (.int y2)]))
  by_cases c13_57 : y2 < (128 : Int32)
  ·
   refine own_st (fun t_ => XS.icmpNo (own_here Y0) hx rfl (hb hby own_d1_13) rfl (XT.ii_ge_f c13_57)) ?_
   show own_Ends _ _ _ _ (T0.setTop (mkF m 16 #[.val (.ref r0), .val (.int (2 : Int32)), .val (.int (1 : Int32)), .val (.int y2), .unset] []))
   refine own_st (fun t_ => XS.iconst (own_here Y0) hx rfl (hb hby own_d1_16) ) ?_
   show own_Ends _ _ _ _ (T0.setTop (mkF m 17 #[.val (.ref r0), .val (.int (2 : Int32)), .val (.int (1 : Int32)), .val (.int y2), .unset] [(.int (1 : Int32))]))
   refine own_st (fun t_ => XS.goto (own_here Y0) hx rfl (pc0 := 17) (pc' := 21) rfl (hb hby own_d1_17) (by decide) (by decide)) ?_
   show own_Ends _ _ _ _ (T0.setTop (mkF m 21 #[.val (.ref r0), .val (.int (2 : Int32)), .val (.int (1 : Int32)), .val (.int y2), .unset] [(.int (1 : Int32))]))
   refine own_retN Y0 hx hlk (t := .boolean) hret (by simp) (hb hby own_d1_21) (by decide) (by decide) ?_
   refine ⟨?_, rfl⟩
   have q0 := c13_57; simp only [own_lt] at q0
   have l128 : (128 : Int32).toInt = 128 := rfl
   have : (own_A1 y2.toInt) = true := by simp only [own_A1, decide_eq_true_eq]; omega
   rw [this]; rfl
  ·
   refine own_st (fun t_ => XS.icmpYes (own_here Y0) hx rfl (pc0 := 13) (pc' := 20) rfl (hb hby own_d1_13) rfl (XT.ii_ge_t c13_57) (by decide) (by decide)) ?_
   show own_Ends _ _ _ _ (T0.setTop (mkF m 20 #[.val (.ref r0), .val (.int (2 : Int32)), .val (.int (1 : Int32)), .val (.int y2), .unset] []))
   refine own_st (fun t_ => XS.iconst (own_here Y0) hx rfl (hb hby own_d1_20) ) ?_
   show own_Ends _ _ _ _ (T0.setTop (mkF m 21 #[.val (.ref r0), .val (.int (2 : Int32)), .val (.int (1 : Int32)), .val (.int y2), .unset] [(.int (0 : Int32))]))
   refine own_retN Y0 hx hlk (t := .boolean) hret (by simp) (hb hby own_d1_21) (by decide) (by decide) ?_
   refine ⟨?_, rfl⟩
   have q0 := c13_57; simp only [own_lt] at q0
   have l128 : (128 : Int32).toInt = 128 := rfl
   have : (own_A1 y2.toInt) = false := by simp only [own_A1, decide_eq_false_iff_not]; omega
   rw [this]; rfl
theorem own_ef_own_rm1_1_2 (m : MethodId) (r0 : Addr) : entryFrame m #[(.ref r0), (.int (1 : Int32)), (.int (2 : Int32))] 5 = mkF m 0 #[.val (.ref r0), .val (.int (1 : Int32)), .val (.int (2 : Int32)), .unset, .unset] [] := by first | (simp [entryFrame, mkF, argsToLocals, Value.category]; done) | rfl
def own_Q_own_rm1_1_2 (Z : State) (y0 y1 y2 y3 : Int32) (h0 : Heap) (n0 : Nat) (v : Option Value) (h : Heap) : Prop := v = some (.int (own_b (own_A2 y1.toInt y2.toInt))) ∧ h0 = h
set_option maxRecDepth 65536 in
set_option maxHeartbeats 40000000 in
theorem own_rm1_1_2 (l : Launch) (Z : State) (a0 : Array Value) (hw : ∀ d ∈ tables_1, d.before a0 Z = true) (ws : List Jvm.Cond) (r0 : Addr) (y0 y1 y2 y3 : Int32) (h0 : Heap) (n0 : Nat)  (A : own_A Z h0 r0 .int [(.int y0), (.int y1), (.int y2), (.int y3)]) (g0 : 0 ≤ y0.toInt ∧ y0.toInt ≤ 255) (g1 : 0 ≤ y1.toInt ∧ y1.toInt ≤ 255) (g2 : 0 ≤ y2.toInt ∧ y2.toInt ≤ 255) (g3 : 0 ≤ y3.toInt ∧ y3.toInt ≤ 255) :
    own_Con l Z (⟨"kombos/graph/Utf8IsValidPinLaw", "ok", "([III)Z"⟩ : MethodName) method_3_code 5 (some .boolean) ws ({ frames := 1, cells := 0, slots := 0, locals := 12 } : Room) #[(.ref r0), (.int (1 : Int32)), (.int (2 : Int32))] h0 n0 (own_Q_own_rm1_1_2 Z y0 y1 y2 y3 h0 n0) := by
  refine own_body (plainFor_of_name own_pn1) ?_
  intro p e s m below meth c T0 hx hZ hby hml hown hnm hret hlk Y0
  replace hown : s.vm.findClass "kombos/graph/Utf8IsValidPinLaw" = some m.cls := hown
  replace hnm : meth.name = "ok" := hnm
  rw [own_ef_own_rm1_1_2 m r0]
  show own_Ends _ _ _ _ (T0.setTop (mkF m 0 #[.val (.ref r0), .val (.int (1 : Int32)), .val (.int (2 : Int32)), .unset, .unset] []))
  refine own_st (fun t_ => XS.aloadN (own_here Y0) hx rfl (hb hby own_d1_0) rfl rfl) ?_
  show own_Ends _ _ _ _ (T0.setTop (mkF m 1 #[.val (.ref r0), .val (.int (1 : Int32)), .val (.int (2 : Int32)), .unset, .unset] [(.ref r0)]))
  refine own_st (fun t_ => XS.iloadN (own_here Y0) hx rfl (hb hby own_d1_1) rfl) ?_
  show own_Ends _ _ _ _ (T0.setTop (mkF m 2 #[.val (.ref r0), .val (.int (1 : Int32)), .val (.int (2 : Int32)), .unset, .unset] [(.int (1 : Int32)), (.ref r0)]))
  refine own_ldI Y0 hx hZ A (i := 1) (by decide) (by decide) (Nat.le_of_ble_eq_true rfl) (v := (.int y1)) rfl rfl rfl (hb hby own_d1_2) ?_
  show own_Ends _ _ _ _ (T0.setTop (mkF m 3 #[.val (.ref r0), .val (.int (1 : Int32)), .val (.int (2 : Int32)), .unset, .unset] [(.int y1)]))
  refine own_st (fun t_ => XS.istoreN (own_here Y0) hx rfl (hb hby own_d1_3) rfl (l' := #[.val (.ref r0), .val (.int (1 : Int32)), .val (.int (2 : Int32)), .val (.int y1), .unset]) rfl) ?_
  show own_Ends _ _ _ _ (T0.setTop (mkF m 4 #[.val (.ref r0), .val (.int (1 : Int32)), .val (.int (2 : Int32)), .val (.int y1), .unset] []))
  refine own_st (fun t_ => XS.iloadN (own_here Y0) hx rfl (hb hby own_d1_4) rfl) ?_
  show own_Ends _ _ _ _ (T0.setTop (mkF m 5 #[.val (.ref r0), .val (.int (1 : Int32)), .val (.int (2 : Int32)), .val (.int y1), .unset] [(.int (2 : Int32))]))
  refine own_st (fun t_ => XS.iconst (own_here Y0) hx rfl (hb hby own_d1_5) ) ?_
  show own_Ends _ _ _ _ (T0.setTop (mkF m 6 #[.val (.ref r0), .val (.int (1 : Int32)), .val (.int (2 : Int32)), .val (.int y1), .unset] [(.int (1 : Int32)), (.int (2 : Int32))]))
  refine own_st (fun t_ => XS.icmpYes (own_here Y0) hx rfl (pc0 := 6) (pc' := 22) rfl (hb hby own_d1_6) rfl (XT.ii_ne_t (by decide)) (by decide) (by decide)) ?_
  show own_Ends _ _ _ _ (T0.setTop (mkF m 22 #[.val (.ref r0), .val (.int (1 : Int32)), .val (.int (2 : Int32)), .val (.int y1), .unset] []))
  refine own_st (fun t_ => XS.iloadN (own_here Y0) hx rfl (hb hby own_d1_22) rfl) ?_
  show own_Ends _ _ _ _ (T0.setTop (mkF m 23 #[.val (.ref r0), .val (.int (1 : Int32)), .val (.int (2 : Int32)), .val (.int y1), .unset] [(.int (2 : Int32))]))
  refine own_st (fun t_ => XS.iconst (own_here Y0) hx rfl (hb hby own_d1_23) ) ?_
  show own_Ends _ _ _ _ (T0.setTop (mkF m 24 #[.val (.ref r0), .val (.int (1 : Int32)), .val (.int (2 : Int32)), .val (.int y1), .unset] [(.int (2 : Int32)), (.int (2 : Int32))]))
  refine own_st (fun t_ => XS.icmpNo (own_here Y0) hx rfl (hb hby own_d1_24) rfl (XT.ii_ne_f (by decide))) ?_
  show own_Ends _ _ _ _ (T0.setTop (mkF m 27 #[.val (.ref r0), .val (.int (1 : Int32)), .val (.int (2 : Int32)), .val (.int y1), .unset] []))
  refine own_st (fun t_ => XS.iloadN (own_here Y0) hx rfl (hb hby own_d1_27) rfl) ?_
  show own_Ends _ _ _ _ (T0.setTop (mkF m 28 #[.val (.ref r0), .val (.int (1 : Int32)), .val (.int (2 : Int32)), .val (.int y1), .unset] [(.int y1)]))
  refine own_st (fun t_ => XS.sipush (own_here Y0) hx rfl (hb hby own_d1_28) ) ?_
  show own_Ends _ _ _ _ (T0.setTop (mkF m 31 #[.val (.ref r0), .val (.int (1 : Int32)), .val (.int (2 : Int32)), .val (.int y1), .unset] [(.int (192 : Int32)), (.int y1)]))
  by_cases c31_58 : y1 < (192 : Int32)
  ·
   refine own_st (fun t_ => XS.icmpYes (own_here Y0) hx rfl (pc0 := 31) (pc' := 52) rfl (hb hby own_d1_31) rfl (XT.ii_lt_t c31_58) (by decide) (by decide)) ?_
   show own_Ends _ _ _ _ (T0.setTop (mkF m 52 #[.val (.ref r0), .val (.int (1 : Int32)), .val (.int (2 : Int32)), .val (.int y1), .unset] []))
   refine own_st (fun t_ => XS.iconst (own_here Y0) hx rfl (hb hby own_d1_52) ) ?_
   show own_Ends _ _ _ _ (T0.setTop (mkF m 53 #[.val (.ref r0), .val (.int (1 : Int32)), .val (.int (2 : Int32)), .val (.int y1), .unset] [(.int (0 : Int32))]))
   refine own_retN Y0 hx hlk (t := .boolean) hret (by simp) (hb hby own_d1_53) (by decide) (by decide) ?_
   refine ⟨?_, rfl⟩
   have q0 := c31_58; simp only [own_lt] at q0
   have l192 : (192 : Int32).toInt = 192 := rfl
   have : (own_A2 y1.toInt y2.toInt) = false := by simp only [own_A2, decide_eq_false_iff_not]; omega
   rw [this]; rfl
  ·
   refine own_st (fun t_ => XS.icmpNo (own_here Y0) hx rfl (hb hby own_d1_31) rfl (XT.ii_lt_f c31_58)) ?_
   show own_Ends _ _ _ _ (T0.setTop (mkF m 34 #[.val (.ref r0), .val (.int (1 : Int32)), .val (.int (2 : Int32)), .val (.int y1), .unset] []))
   refine own_st (fun t_ => XS.iloadN (own_here Y0) hx rfl (hb hby own_d1_34) rfl) ?_
   show own_Ends _ _ _ _ (T0.setTop (mkF m 35 #[.val (.ref r0), .val (.int (1 : Int32)), .val (.int (2 : Int32)), .val (.int y1), .unset] [(.int y1)]))
   refine own_st (fun t_ => XS.sipush (own_here Y0) hx rfl (hb hby own_d1_35) ) ?_
   show own_Ends _ _ _ _ (T0.setTop (mkF m 38 #[.val (.ref r0), .val (.int (1 : Int32)), .val (.int (2 : Int32)), .val (.int y1), .unset] [(.int (223 : Int32)), (.int y1)]))
   by_cases c38_59 : (223 : Int32) < y1
   ·
    refine own_st (fun t_ => XS.icmpYes (own_here Y0) hx rfl (pc0 := 38) (pc' := 52) rfl (hb hby own_d1_38) rfl (XT.ii_gt_t c38_59) (by decide) (by decide)) ?_
    show own_Ends _ _ _ _ (T0.setTop (mkF m 52 #[.val (.ref r0), .val (.int (1 : Int32)), .val (.int (2 : Int32)), .val (.int y1), .unset] []))
    refine own_st (fun t_ => XS.iconst (own_here Y0) hx rfl (hb hby own_d1_52) ) ?_
    show own_Ends _ _ _ _ (T0.setTop (mkF m 53 #[.val (.ref r0), .val (.int (1 : Int32)), .val (.int (2 : Int32)), .val (.int y1), .unset] [(.int (0 : Int32))]))
    refine own_retN Y0 hx hlk (t := .boolean) hret (by simp) (hb hby own_d1_53) (by decide) (by decide) ?_
    refine ⟨?_, rfl⟩
    have q0 := c31_58; simp only [own_lt] at q0
    have q1 := c38_59; simp only [own_lt] at q1
    have l192 : (192 : Int32).toInt = 192 := rfl
    have l223 : (223 : Int32).toInt = 223 := rfl
    have : (own_A2 y1.toInt y2.toInt) = false := by simp only [own_A2, decide_eq_false_iff_not]; omega
    rw [this]; rfl
   ·
    refine own_st (fun t_ => XS.icmpNo (own_here Y0) hx rfl (hb hby own_d1_38) rfl (XT.ii_gt_f c38_59)) ?_
    show own_Ends _ _ _ _ (T0.setTop (mkF m 41 #[.val (.ref r0), .val (.int (1 : Int32)), .val (.int (2 : Int32)), .val (.int y1), .unset] []))
    refine own_st (fun t_ => XS.aloadN (own_here Y0) hx rfl (hb hby own_d1_41) rfl rfl) ?_
    show own_Ends _ _ _ _ (T0.setTop (mkF m 42 #[.val (.ref r0), .val (.int (1 : Int32)), .val (.int (2 : Int32)), .val (.int y1), .unset] [(.ref r0)]))
    refine own_st (fun t_ => XS.iloadN (own_here Y0) hx rfl (hb hby own_d1_42) rfl) ?_
    show own_Ends _ _ _ _ (T0.setTop (mkF m 43 #[.val (.ref r0), .val (.int (1 : Int32)), .val (.int (2 : Int32)), .val (.int y1), .unset] [(.int (1 : Int32)), (.ref r0)]))
    refine own_st (fun t_ => XS.iconst (own_here Y0) hx rfl (hb hby own_d1_43) ) ?_
    show own_Ends _ _ _ _ (T0.setTop (mkF m 44 #[.val (.ref r0), .val (.int (1 : Int32)), .val (.int (2 : Int32)), .val (.int y1), .unset] [(.int (1 : Int32)), (.int (1 : Int32)), (.ref r0)]))
    refine own_st (fun t_ => XS.iadd (own_here Y0) hx rfl (hb hby own_d1_44) rfl) ?_
    show own_Ends _ _ _ _ (T0.setTop (mkF m 45 #[.val (.ref r0), .val (.int (1 : Int32)), .val (.int (2 : Int32)), .val (.int y1), .unset] [(.int (2 : Int32)), (.ref r0)]))
    refine own_ldI Y0 hx hZ A (i := 2) (by decide) (by decide) (Nat.le_of_ble_eq_true rfl) (v := (.int y2)) rfl rfl rfl (hb hby own_d1_45) ?_
    show own_Ends _ _ _ _ (T0.setTop (mkF m 46 #[.val (.ref r0), .val (.int (1 : Int32)), .val (.int (2 : Int32)), .val (.int y1), .unset] [(.int y2)]))
    refine own_callS Y0 hx hZ (y := (⟨"kombos/graph/Utf8IsValidPinLaw", "cont", "(I)Z"⟩ : MethodName)) hown (hw _ (List.mem_of_getElem? (i := 11) rfl)) (hw _ (List.mem_of_getElem? (i := 12) rfl)) (hw _ (List.mem_of_getElem? (i := 5) rfl)) (hw _ (List.mem_of_getElem? (i := 13) rfl)) (by decide) (argsL := [(.int y2)]) (rest := []) (own_rm3 l Z a0 hw [] y2  h0 n0  ) (W := 0) (by decide) (by decide) (by decide) (by decide) rfl (by rw [hml]; rfl) (lenOf own_pd0 rfl) rfl (by show 2 * 0 + _ ≤ _; exact Nat.le_of_eq rfl) (hb hby own_d1_46) (fun T60 h62 v63 Y61 q64 => ?_)
    obtain ⟨rfl, rfl⟩ := q64
    show own_Ends _ _ _ _ (T60.setTop (mkF m 49 #[.val (.ref r0), .val (.int (1 : Int32)), .val (.int (2 : Int32)), .val (.int y1), .unset] [(.int (own_b (own_ct y2.toInt)))]))
    by_cases c49_65 : (own_b (own_ct y2.toInt)) = (0 : Int32)
    ·
     refine own_st (fun t_ => XS.ifNo (own_here Y61) hx rfl (hb hby own_d1_49) rfl (XT.i0_ne_f c49_65)) ?_
     show own_Ends _ _ _ _ (T60.setTop (mkF m 52 #[.val (.ref r0), .val (.int (1 : Int32)), .val (.int (2 : Int32)), .val (.int y1), .unset] []))
     refine own_st (fun t_ => XS.iconst (own_here Y61) hx rfl (hb hby own_d1_52) ) ?_
     show own_Ends _ _ _ _ (T60.setTop (mkF m 53 #[.val (.ref r0), .val (.int (1 : Int32)), .val (.int (2 : Int32)), .val (.int y1), .unset] [(.int (0 : Int32))]))
     refine own_retN Y61 hx hlk (t := .boolean) hret (by simp) (hb hby own_d1_53) (by decide) (by decide) ?_
     refine ⟨?_, rfl⟩
     have q0 := c31_58; simp only [own_lt] at q0
     have q1 := c38_59; simp only [own_lt] at q1
     have q2 := c49_65; simp only [own_b_0, own_ct, decide_eq_false_iff_not] at q2
     have l192 : (192 : Int32).toInt = 192 := rfl
     have l223 : (223 : Int32).toInt = 223 := rfl
     have : (own_A2 y1.toInt y2.toInt) = false := by simp only [own_A2, decide_eq_false_iff_not]; omega
     rw [this]; rfl
    ·
     refine own_st (fun t_ => XS.ifYes (own_here Y61) hx rfl (pc0 := 49) (pc' := 54) rfl (hb hby own_d1_49) rfl (XT.i0_ne_t c49_65) (by decide) (by decide)) ?_
     show own_Ends _ _ _ _ (T60.setTop (mkF m 54 #[.val (.ref r0), .val (.int (1 : Int32)), .val (.int (2 : Int32)), .val (.int y1), .unset] []))
     refine own_st (fun t_ => XS.iloadN (own_here Y61) hx rfl (hb hby own_d1_54) rfl) ?_
     show own_Ends _ _ _ _ (T60.setTop (mkF m 55 #[.val (.ref r0), .val (.int (1 : Int32)), .val (.int (2 : Int32)), .val (.int y1), .unset] [(.int y1)]))
     refine own_st (fun t_ => XS.bipush (own_here Y61) hx rfl (hb hby own_d1_55) ) ?_
     show own_Ends _ _ _ _ (T60.setTop (mkF m 57 #[.val (.ref r0), .val (.int (1 : Int32)), .val (.int (2 : Int32)), .val (.int y1), .unset] [(.int (31 : Int32)), (.int y1)]))
     refine own_st (fun t_ => XS.iand (own_here Y61) hx rfl (hb hby own_d1_57) rfl) ?_
     show own_Ends _ _ _ _ (T60.setTop (mkF m 58 #[.val (.ref r0), .val (.int (1 : Int32)), .val (.int (2 : Int32)), .val (.int y1), .unset] [(.int (y1 &&& (31 : Int32)))]))
     refine own_st (fun t_ => XS.bipush (own_here Y61) hx rfl (hb hby own_d1_58) ) ?_
     show own_Ends _ _ _ _ (T60.setTop (mkF m 60 #[.val (.ref r0), .val (.int (1 : Int32)), .val (.int (2 : Int32)), .val (.int y1), .unset] [(.int (6 : Int32)), (.int (y1 &&& (31 : Int32)))]))
     refine own_st (fun t_ => XS.ishl (own_here Y61) hx rfl (hb hby own_d1_60) rfl) ?_
     show own_Ends _ _ _ _ (T60.setTop (mkF m 61 #[.val (.ref r0), .val (.int (1 : Int32)), .val (.int (2 : Int32)), .val (.int y1), .unset] [(.int ((y1 &&& (31 : Int32)) <<< ((6 : Int32) &&& 31)))]))
     refine own_st (fun t_ => XS.aloadN (own_here Y61) hx rfl (hb hby own_d1_61) rfl rfl) ?_
     show own_Ends _ _ _ _ (T60.setTop (mkF m 62 #[.val (.ref r0), .val (.int (1 : Int32)), .val (.int (2 : Int32)), .val (.int y1), .unset] [(.ref r0), (.int ((y1 &&& (31 : Int32)) <<< ((6 : Int32) &&& 31)))]))
     refine own_st (fun t_ => XS.iloadN (own_here Y61) hx rfl (hb hby own_d1_62) rfl) ?_
     show own_Ends _ _ _ _ (T60.setTop (mkF m 63 #[.val (.ref r0), .val (.int (1 : Int32)), .val (.int (2 : Int32)), .val (.int y1), .unset] [(.int (1 : Int32)), (.ref r0), (.int ((y1 &&& (31 : Int32)) <<< ((6 : Int32) &&& 31)))]))
     refine own_st (fun t_ => XS.iconst (own_here Y61) hx rfl (hb hby own_d1_63) ) ?_
     show own_Ends _ _ _ _ (T60.setTop (mkF m 64 #[.val (.ref r0), .val (.int (1 : Int32)), .val (.int (2 : Int32)), .val (.int y1), .unset] [(.int (1 : Int32)), (.int (1 : Int32)), (.ref r0), (.int ((y1 &&& (31 : Int32)) <<< ((6 : Int32) &&& 31)))]))
     refine own_st (fun t_ => XS.iadd (own_here Y61) hx rfl (hb hby own_d1_64) rfl) ?_
     show own_Ends _ _ _ _ (T60.setTop (mkF m 65 #[.val (.ref r0), .val (.int (1 : Int32)), .val (.int (2 : Int32)), .val (.int y1), .unset] [(.int (2 : Int32)), (.ref r0), (.int ((y1 &&& (31 : Int32)) <<< ((6 : Int32) &&& 31)))]))
     refine own_ldI Y61 hx hZ A (i := 2) (by decide) (by decide) (Nat.le_of_ble_eq_true rfl) (v := (.int y2)) rfl rfl rfl (hb hby own_d1_65) ?_
     show own_Ends _ _ _ _ (T60.setTop (mkF m 66 #[.val (.ref r0), .val (.int (1 : Int32)), .val (.int (2 : Int32)), .val (.int y1), .unset] [(.int y2), (.int ((y1 &&& (31 : Int32)) <<< ((6 : Int32) &&& 31)))]))
     refine own_st (fun t_ => XS.bipush (own_here Y61) hx rfl (hb hby own_d1_66) ) ?_
     show own_Ends _ _ _ _ (T60.setTop (mkF m 68 #[.val (.ref r0), .val (.int (1 : Int32)), .val (.int (2 : Int32)), .val (.int y1), .unset] [(.int (63 : Int32)), (.int y2), (.int ((y1 &&& (31 : Int32)) <<< ((6 : Int32) &&& 31)))]))
     refine own_st (fun t_ => XS.iand (own_here Y61) hx rfl (hb hby own_d1_68) rfl) ?_
     show own_Ends _ _ _ _ (T60.setTop (mkF m 69 #[.val (.ref r0), .val (.int (1 : Int32)), .val (.int (2 : Int32)), .val (.int y1), .unset] [(.int (y2 &&& (63 : Int32))), (.int ((y1 &&& (31 : Int32)) <<< ((6 : Int32) &&& 31)))]))
     refine own_st (fun t_ => XS.ior (own_here Y61) hx rfl (hb hby own_d1_69) rfl) ?_
     show own_Ends _ _ _ _ (T60.setTop (mkF m 70 #[.val (.ref r0), .val (.int (1 : Int32)), .val (.int (2 : Int32)), .val (.int y1), .unset] [(.int (((y1 &&& (31 : Int32)) <<< ((6 : Int32) &&& 31)) ||| (y2 &&& (63 : Int32))))]))
     refine own_st (fun t_ => XS.istore (own_here Y61) hx rfl (hb hby own_d1_70) rfl (l' := #[.val (.ref r0), .val (.int (1 : Int32)), .val (.int (2 : Int32)), .val (.int y1), .val (.int (((y1 &&& (31 : Int32)) <<< ((6 : Int32) &&& 31)) ||| (y2 &&& (63 : Int32))))]) rfl) ?_
     show own_Ends _ _ _ _ (T60.setTop (mkF m 72 #[.val (.ref r0), .val (.int (1 : Int32)), .val (.int (2 : Int32)), .val (.int y1), .val (.int (((y1 &&& (31 : Int32)) <<< ((6 : Int32) &&& 31)) ||| (y2 &&& (63 : Int32))))] []))
     generalize hp : (((y1 &&& (31 : Int32)) <<< ((6 : Int32) &&& 31)) ||| (y2 &&& (63 : Int32))) = p_
     refine own_st (fun t_ => XS.iload (own_here Y61) hx rfl (hb hby own_d1_72) rfl) ?_
     show own_Ends _ _ _ _ (T60.setTop (mkF m 74 #[.val (.ref r0), .val (.int (1 : Int32)), .val (.int (2 : Int32)), .val (.int y1), .val (.int p_)] [(.int p_)]))
     refine own_st (fun t_ => XS.sipush (own_here Y61) hx rfl (hb hby own_d1_74) ) ?_
     show own_Ends _ _ _ _ (T60.setTop (mkF m 77 #[.val (.ref r0), .val (.int (1 : Int32)), .val (.int (2 : Int32)), .val (.int y1), .val (.int p_)] [(.int (128 : Int32)), (.int p_)]))
     by_cases c77_66 : p_ < (128 : Int32)
     ·
      refine own_st (fun t_ => XS.icmpYes (own_here Y61) hx rfl (pc0 := 77) (pc' := 84) rfl (hb hby own_d1_77) rfl (XT.ii_lt_t c77_66) (by decide) (by decide)) ?_
      show own_Ends _ _ _ _ (T60.setTop (mkF m 84 #[.val (.ref r0), .val (.int (1 : Int32)), .val (.int (2 : Int32)), .val (.int y1), .val (.int p_)] []))
      refine own_st (fun t_ => XS.iconst (own_here Y61) hx rfl (hb hby own_d1_84) ) ?_
      show own_Ends _ _ _ _ (T60.setTop (mkF m 85 #[.val (.ref r0), .val (.int (1 : Int32)), .val (.int (2 : Int32)), .val (.int y1), .val (.int p_)] [(.int (0 : Int32))]))
      refine own_retN Y61 hx hlk (t := .boolean) hret (by simp) (hb hby own_d1_85) (by decide) (by decide) ?_
      refine ⟨?_, rfl⟩
      have q0 := c31_58; simp only [own_lt] at q0
      have q1 := c38_59; simp only [own_lt] at q1
      have q2 := c49_65; simp only [own_b_0, own_ct, Bool.not_eq_false, decide_eq_true_eq] at q2
      have q3 := c77_66; simp only [own_lt] at q3
      have l128 : (128 : Int32).toInt = 128 := rfl
      have l192 : (192 : Int32).toInt = 192 := rfl
      have l223 : (223 : Int32).toInt = 223 := rfl
      have cp := own_cp2 y1 y2; rw [hp] at cp
      have : (own_A2 y1.toInt y2.toInt) = false := by simp only [own_A2, decide_eq_false_iff_not]; omega
      rw [this]; rfl
     ·
      refine own_st (fun t_ => XS.icmpNo (own_here Y61) hx rfl (hb hby own_d1_77) rfl (XT.ii_lt_f c77_66)) ?_
      show own_Ends _ _ _ _ (T60.setTop (mkF m 80 #[.val (.ref r0), .val (.int (1 : Int32)), .val (.int (2 : Int32)), .val (.int y1), .val (.int p_)] []))
      refine own_st (fun t_ => XS.iconst (own_here Y61) hx rfl (hb hby own_d1_80) ) ?_
      show own_Ends _ _ _ _ (T60.setTop (mkF m 81 #[.val (.ref r0), .val (.int (1 : Int32)), .val (.int (2 : Int32)), .val (.int y1), .val (.int p_)] [(.int (1 : Int32))]))
      refine own_st (fun t_ => XS.goto (own_here Y61) hx rfl (pc0 := 81) (pc' := 85) rfl (hb hby own_d1_81) (by decide) (by decide)) ?_
      show own_Ends _ _ _ _ (T60.setTop (mkF m 85 #[.val (.ref r0), .val (.int (1 : Int32)), .val (.int (2 : Int32)), .val (.int y1), .val (.int p_)] [(.int (1 : Int32))]))
      refine own_retN Y61 hx hlk (t := .boolean) hret (by simp) (hb hby own_d1_85) (by decide) (by decide) ?_
      refine ⟨?_, rfl⟩
      have q0 := c31_58; simp only [own_lt] at q0
      have q1 := c38_59; simp only [own_lt] at q1
      have q2 := c49_65; simp only [own_b_0, own_ct, Bool.not_eq_false, decide_eq_true_eq] at q2
      have q3 := c77_66; simp only [own_lt] at q3
      have l128 : (128 : Int32).toInt = 128 := rfl
      have l192 : (192 : Int32).toInt = 192 := rfl
      have l223 : (223 : Int32).toInt = 223 := rfl
      have cp := own_cp2 y1 y2; rw [hp] at cp
      have : (own_A2 y1.toInt y2.toInt) = true := by simp only [own_A2, decide_eq_true_eq]; omega
      rw [this]; rfl
theorem own_d1_86 : decode method_3_code 86 = .ok (.iload_n 2, 1) := by decide +kernel
theorem own_d1_87 : decode method_3_code 87 = .ok (.iconst 3, 1) := by decide +kernel
theorem own_d1_88 : decode method_3_code 88 = .ok (.if_icmp .ne 99, 3) := by decide +kernel
theorem own_d1_91 : decode method_3_code 91 = .ok (.iload_n 3, 1) := by decide +kernel
theorem own_d1_92 : decode method_3_code 92 = .ok (.sipush 224, 3) := by decide +kernel
theorem own_d1_95 : decode method_3_code 95 = .ok (.if_icmp .lt 32, 3) := by decide +kernel
theorem own_d1_127 : decode method_3_code 127 = .ok (.iconst 0, 1) := by decide +kernel
theorem own_d1_128 : decode method_3_code 128 = .ok (.ireturn, 1) := by decide +kernel
theorem own_d1_98 : decode method_3_code 98 = .ok (.iload_n 3, 1) := by decide +kernel
theorem own_d1_99 : decode method_3_code 99 = .ok (.sipush 239, 3) := by decide +kernel
theorem own_d1_102 : decode method_3_code 102 = .ok (.if_icmp .gt 25, 3) := by decide +kernel
theorem own_d1_105 : decode method_3_code 105 = .ok (.aload_n 0, 1) := by decide +kernel
theorem own_d1_106 : decode method_3_code 106 = .ok (.iload_n 1, 1) := by decide +kernel
theorem own_d1_107 : decode method_3_code 107 = .ok (.iconst 1, 1) := by decide +kernel
theorem own_d1_108 : decode method_3_code 108 = .ok (.iadd, 1) := by decide +kernel
theorem own_d1_109 : decode method_3_code 109 = .ok (.iaload, 1) := by decide +kernel
theorem own_d1_110 : decode method_3_code 110 = .ok (.invokestatic 7, 3) := by decide +kernel
theorem own_d1_113 : decode method_3_code 113 = .ok (.ifCond .eq 14, 3) := by decide +kernel
theorem own_d1_116 : decode method_3_code 116 = .ok (.aload_n 0, 1) := by decide +kernel
theorem own_d1_117 : decode method_3_code 117 = .ok (.iload_n 1, 1) := by decide +kernel
theorem own_d1_118 : decode method_3_code 118 = .ok (.iconst 2, 1) := by decide +kernel
theorem own_d1_119 : decode method_3_code 119 = .ok (.iadd, 1) := by decide +kernel
theorem own_d1_120 : decode method_3_code 120 = .ok (.iaload, 1) := by decide +kernel
theorem own_d1_121 : decode method_3_code 121 = .ok (.invokestatic 7, 3) := by decide +kernel
theorem own_d1_124 : decode method_3_code 124 = .ok (.ifCond .ne 5, 3) := by decide +kernel
theorem own_d1_129 : decode method_3_code 129 = .ok (.iload_n 3, 1) := by decide +kernel
theorem own_d1_130 : decode method_3_code 130 = .ok (.bipush 15, 2) := by decide +kernel
theorem own_d1_132 : decode method_3_code 132 = .ok (.iand, 1) := by decide +kernel
theorem own_d1_133 : decode method_3_code 133 = .ok (.bipush 12, 2) := by decide +kernel
theorem own_d1_135 : decode method_3_code 135 = .ok (.ishl, 1) := by decide +kernel
theorem own_d1_136 : decode method_3_code 136 = .ok (.aload_n 0, 1) := by decide +kernel
theorem own_d1_137 : decode method_3_code 137 = .ok (.iload_n 1, 1) := by decide +kernel
theorem own_d1_138 : decode method_3_code 138 = .ok (.iconst 1, 1) := by decide +kernel
theorem own_d1_139 : decode method_3_code 139 = .ok (.iadd, 1) := by decide +kernel
theorem own_d1_140 : decode method_3_code 140 = .ok (.iaload, 1) := by decide +kernel
theorem own_d1_141 : decode method_3_code 141 = .ok (.bipush 63, 2) := by decide +kernel
theorem own_d1_143 : decode method_3_code 143 = .ok (.iand, 1) := by decide +kernel
theorem own_d1_144 : decode method_3_code 144 = .ok (.bipush 6, 2) := by decide +kernel
theorem own_d1_146 : decode method_3_code 146 = .ok (.ishl, 1) := by decide +kernel
theorem own_d1_147 : decode method_3_code 147 = .ok (.ior, 1) := by decide +kernel
theorem own_d1_148 : decode method_3_code 148 = .ok (.aload_n 0, 1) := by decide +kernel
theorem own_d1_149 : decode method_3_code 149 = .ok (.iload_n 1, 1) := by decide +kernel
theorem own_d1_150 : decode method_3_code 150 = .ok (.iconst 2, 1) := by decide +kernel
theorem own_d1_151 : decode method_3_code 151 = .ok (.iadd, 1) := by decide +kernel
theorem own_d1_152 : decode method_3_code 152 = .ok (.iaload, 1) := by decide +kernel
theorem own_d1_153 : decode method_3_code 153 = .ok (.bipush 63, 2) := by decide +kernel
theorem own_d1_155 : decode method_3_code 155 = .ok (.iand, 1) := by decide +kernel
theorem own_d1_156 : decode method_3_code 156 = .ok (.ior, 1) := by decide +kernel
theorem own_d1_157 : decode method_3_code 157 = .ok (.istore 4, 2) := by decide +kernel
theorem own_d1_159 : decode method_3_code 159 = .ok (.iload 4, 2) := by decide +kernel
theorem own_d1_161 : decode method_3_code 161 = .ok (.sipush 2048, 3) := by decide +kernel
theorem own_d1_164 : decode method_3_code 164 = .ok (.if_icmp .lt 21, 3) := by decide +kernel
theorem own_d1_185 : decode method_3_code 185 = .ok (.iconst 0, 1) := by decide +kernel
theorem own_d1_186 : decode method_3_code 186 = .ok (.ireturn, 1) := by decide +kernel
theorem own_d1_167 : decode method_3_code 167 = .ok (.iload 4, 2) := by decide +kernel
theorem own_d1_169 : decode method_3_code 169 = .ok (.ldc 13, 2) := by decide +kernel
theorem own_d1_171 : decode method_3_code 171 = .ok (.if_icmp .lt 10, 3) := by decide +kernel
theorem own_d1_181 : decode method_3_code 181 = .ok (.iconst 1, 1) := by decide +kernel
theorem own_d1_182 : decode method_3_code 182 = .ok (.goto 4, 3) := by decide +kernel
theorem own_d1_174 : decode method_3_code 174 = .ok (.iload 4, 2) := by decide +kernel
theorem own_d1_176 : decode method_3_code 176 = .ok (.ldc 14, 2) := by decide +kernel
theorem own_d1_178 : decode method_3_code 178 = .ok (.if_icmp .le 7, 3) := by decide +kernel
theorem own_ef_own_rm1_0_3 (m : MethodId) (r0 : Addr) : entryFrame m #[(.ref r0), (.int (0 : Int32)), (.int (3 : Int32))] 5 = mkF m 0 #[.val (.ref r0), .val (.int (0 : Int32)), .val (.int (3 : Int32)), .unset, .unset] [] := by first | (simp [entryFrame, mkF, argsToLocals, Value.category]; done) | rfl
def own_Q_own_rm1_0_3 (Z : State) (y0 y1 y2 y3 : Int32) (h0 : Heap) (n0 : Nat) (v : Option Value) (h : Heap) : Prop := v = some (.int (own_b (own_A3 y0.toInt y1.toInt y2.toInt))) ∧ h0 = h
set_option maxRecDepth 65536 in
set_option maxHeartbeats 40000000 in
theorem own_rm1_0_3 (l : Launch) (Z : State) (a0 : Array Value) (hw : ∀ d ∈ tables_1, d.before a0 Z = true) (ws : List Jvm.Cond) (r0 : Addr) (y0 y1 y2 y3 : Int32) (h0 : Heap) (n0 : Nat)  (A : own_A Z h0 r0 .int [(.int y0), (.int y1), (.int y2), (.int y3)]) (g0 : 0 ≤ y0.toInt ∧ y0.toInt ≤ 255) (g1 : 0 ≤ y1.toInt ∧ y1.toInt ≤ 255) (g2 : 0 ≤ y2.toInt ∧ y2.toInt ≤ 255) (g3 : 0 ≤ y3.toInt ∧ y3.toInt ≤ 255) :
    own_Con l Z (⟨"kombos/graph/Utf8IsValidPinLaw", "ok", "([III)Z"⟩ : MethodName) method_3_code 5 (some .boolean) ws ({ frames := 1, cells := 0, slots := 0, locals := 12 } : Room) #[(.ref r0), (.int (0 : Int32)), (.int (3 : Int32))] h0 n0 (own_Q_own_rm1_0_3 Z y0 y1 y2 y3 h0 n0) := by
  refine own_body (plainFor_of_name own_pn1) ?_
  intro p e s m below meth c T0 hx hZ hby hml hown hnm hret hlk Y0
  replace hown : s.vm.findClass "kombos/graph/Utf8IsValidPinLaw" = some m.cls := hown
  replace hnm : meth.name = "ok" := hnm
  rw [own_ef_own_rm1_0_3 m r0]
  show own_Ends _ _ _ _ (T0.setTop (mkF m 0 #[.val (.ref r0), .val (.int (0 : Int32)), .val (.int (3 : Int32)), .unset, .unset] []))
  refine own_st (fun t_ => XS.aloadN (own_here Y0) hx rfl (hb hby own_d1_0) rfl rfl) ?_
  show own_Ends _ _ _ _ (T0.setTop (mkF m 1 #[.val (.ref r0), .val (.int (0 : Int32)), .val (.int (3 : Int32)), .unset, .unset] [(.ref r0)]))
  refine own_st (fun t_ => XS.iloadN (own_here Y0) hx rfl (hb hby own_d1_1) rfl) ?_
  show own_Ends _ _ _ _ (T0.setTop (mkF m 2 #[.val (.ref r0), .val (.int (0 : Int32)), .val (.int (3 : Int32)), .unset, .unset] [(.int (0 : Int32)), (.ref r0)]))
  refine own_ldI Y0 hx hZ A (i := 0) (by decide) (by decide) (Nat.le_of_ble_eq_true rfl) (v := (.int y0)) rfl rfl rfl (hb hby own_d1_2) ?_
  show own_Ends _ _ _ _ (T0.setTop (mkF m 3 #[.val (.ref r0), .val (.int (0 : Int32)), .val (.int (3 : Int32)), .unset, .unset] [(.int y0)]))
  refine own_st (fun t_ => XS.istoreN (own_here Y0) hx rfl (hb hby own_d1_3) rfl (l' := #[.val (.ref r0), .val (.int (0 : Int32)), .val (.int (3 : Int32)), .val (.int y0), .unset]) rfl) ?_
  show own_Ends _ _ _ _ (T0.setTop (mkF m 4 #[.val (.ref r0), .val (.int (0 : Int32)), .val (.int (3 : Int32)), .val (.int y0), .unset] []))
  refine own_st (fun t_ => XS.iloadN (own_here Y0) hx rfl (hb hby own_d1_4) rfl) ?_
  show own_Ends _ _ _ _ (T0.setTop (mkF m 5 #[.val (.ref r0), .val (.int (0 : Int32)), .val (.int (3 : Int32)), .val (.int y0), .unset] [(.int (3 : Int32))]))
  refine own_st (fun t_ => XS.iconst (own_here Y0) hx rfl (hb hby own_d1_5) ) ?_
  show own_Ends _ _ _ _ (T0.setTop (mkF m 6 #[.val (.ref r0), .val (.int (0 : Int32)), .val (.int (3 : Int32)), .val (.int y0), .unset] [(.int (1 : Int32)), (.int (3 : Int32))]))
  refine own_st (fun t_ => XS.icmpYes (own_here Y0) hx rfl (pc0 := 6) (pc' := 22) rfl (hb hby own_d1_6) rfl (XT.ii_ne_t (by decide)) (by decide) (by decide)) ?_
  show own_Ends _ _ _ _ (T0.setTop (mkF m 22 #[.val (.ref r0), .val (.int (0 : Int32)), .val (.int (3 : Int32)), .val (.int y0), .unset] []))
  refine own_st (fun t_ => XS.iloadN (own_here Y0) hx rfl (hb hby own_d1_22) rfl) ?_
  show own_Ends _ _ _ _ (T0.setTop (mkF m 23 #[.val (.ref r0), .val (.int (0 : Int32)), .val (.int (3 : Int32)), .val (.int y0), .unset] [(.int (3 : Int32))]))
  refine own_st (fun t_ => XS.iconst (own_here Y0) hx rfl (hb hby own_d1_23) ) ?_
  show own_Ends _ _ _ _ (T0.setTop (mkF m 24 #[.val (.ref r0), .val (.int (0 : Int32)), .val (.int (3 : Int32)), .val (.int y0), .unset] [(.int (2 : Int32)), (.int (3 : Int32))]))
  refine own_st (fun t_ => XS.icmpYes (own_here Y0) hx rfl (pc0 := 24) (pc' := 86) rfl (hb hby own_d1_24) rfl (XT.ii_ne_t (by decide)) (by decide) (by decide)) ?_
  show own_Ends _ _ _ _ (T0.setTop (mkF m 86 #[.val (.ref r0), .val (.int (0 : Int32)), .val (.int (3 : Int32)), .val (.int y0), .unset] []))
  refine own_st (fun t_ => XS.iloadN (own_here Y0) hx rfl (hb hby own_d1_86) rfl) ?_
  show own_Ends _ _ _ _ (T0.setTop (mkF m 87 #[.val (.ref r0), .val (.int (0 : Int32)), .val (.int (3 : Int32)), .val (.int y0), .unset] [(.int (3 : Int32))]))
  refine own_st (fun t_ => XS.iconst (own_here Y0) hx rfl (hb hby own_d1_87) ) ?_
  show own_Ends _ _ _ _ (T0.setTop (mkF m 88 #[.val (.ref r0), .val (.int (0 : Int32)), .val (.int (3 : Int32)), .val (.int y0), .unset] [(.int (3 : Int32)), (.int (3 : Int32))]))
  refine own_st (fun t_ => XS.icmpNo (own_here Y0) hx rfl (hb hby own_d1_88) rfl (XT.ii_ne_f (by decide))) ?_
  show own_Ends _ _ _ _ (T0.setTop (mkF m 91 #[.val (.ref r0), .val (.int (0 : Int32)), .val (.int (3 : Int32)), .val (.int y0), .unset] []))
  refine own_st (fun t_ => XS.iloadN (own_here Y0) hx rfl (hb hby own_d1_91) rfl) ?_
  show own_Ends _ _ _ _ (T0.setTop (mkF m 92 #[.val (.ref r0), .val (.int (0 : Int32)), .val (.int (3 : Int32)), .val (.int y0), .unset] [(.int y0)]))
  refine own_st (fun t_ => XS.sipush (own_here Y0) hx rfl (hb hby own_d1_92) ) ?_
  show own_Ends _ _ _ _ (T0.setTop (mkF m 95 #[.val (.ref r0), .val (.int (0 : Int32)), .val (.int (3 : Int32)), .val (.int y0), .unset] [(.int (224 : Int32)), (.int y0)]))
  by_cases c95_67 : y0 < (224 : Int32)
  ·
   refine own_st (fun t_ => XS.icmpYes (own_here Y0) hx rfl (pc0 := 95) (pc' := 127) rfl (hb hby own_d1_95) rfl (XT.ii_lt_t c95_67) (by decide) (by decide)) ?_
   show own_Ends _ _ _ _ (T0.setTop (mkF m 127 #[.val (.ref r0), .val (.int (0 : Int32)), .val (.int (3 : Int32)), .val (.int y0), .unset] []))
   refine own_st (fun t_ => XS.iconst (own_here Y0) hx rfl (hb hby own_d1_127) ) ?_
   show own_Ends _ _ _ _ (T0.setTop (mkF m 128 #[.val (.ref r0), .val (.int (0 : Int32)), .val (.int (3 : Int32)), .val (.int y0), .unset] [(.int (0 : Int32))]))
   refine own_retN Y0 hx hlk (t := .boolean) hret (by simp) (hb hby own_d1_128) (by decide) (by decide) ?_
   refine ⟨?_, rfl⟩
   have q0 := c95_67; simp only [own_lt] at q0
   have l224 : (224 : Int32).toInt = 224 := rfl
   have : (own_A3 y0.toInt y1.toInt y2.toInt) = false := by simp only [own_A3, decide_eq_false_iff_not]; omega
   rw [this]; rfl
  ·
   refine own_st (fun t_ => XS.icmpNo (own_here Y0) hx rfl (hb hby own_d1_95) rfl (XT.ii_lt_f c95_67)) ?_
   show own_Ends _ _ _ _ (T0.setTop (mkF m 98 #[.val (.ref r0), .val (.int (0 : Int32)), .val (.int (3 : Int32)), .val (.int y0), .unset] []))
   refine own_st (fun t_ => XS.iloadN (own_here Y0) hx rfl (hb hby own_d1_98) rfl) ?_
   show own_Ends _ _ _ _ (T0.setTop (mkF m 99 #[.val (.ref r0), .val (.int (0 : Int32)), .val (.int (3 : Int32)), .val (.int y0), .unset] [(.int y0)]))
   refine own_st (fun t_ => XS.sipush (own_here Y0) hx rfl (hb hby own_d1_99) ) ?_
   show own_Ends _ _ _ _ (T0.setTop (mkF m 102 #[.val (.ref r0), .val (.int (0 : Int32)), .val (.int (3 : Int32)), .val (.int y0), .unset] [(.int (239 : Int32)), (.int y0)]))
   by_cases c102_68 : (239 : Int32) < y0
   ·
    refine own_st (fun t_ => XS.icmpYes (own_here Y0) hx rfl (pc0 := 102) (pc' := 127) rfl (hb hby own_d1_102) rfl (XT.ii_gt_t c102_68) (by decide) (by decide)) ?_
    show own_Ends _ _ _ _ (T0.setTop (mkF m 127 #[.val (.ref r0), .val (.int (0 : Int32)), .val (.int (3 : Int32)), .val (.int y0), .unset] []))
    refine own_st (fun t_ => XS.iconst (own_here Y0) hx rfl (hb hby own_d1_127) ) ?_
    show own_Ends _ _ _ _ (T0.setTop (mkF m 128 #[.val (.ref r0), .val (.int (0 : Int32)), .val (.int (3 : Int32)), .val (.int y0), .unset] [(.int (0 : Int32))]))
    refine own_retN Y0 hx hlk (t := .boolean) hret (by simp) (hb hby own_d1_128) (by decide) (by decide) ?_
    refine ⟨?_, rfl⟩
    have q0 := c95_67; simp only [own_lt] at q0
    have q1 := c102_68; simp only [own_lt] at q1
    have l224 : (224 : Int32).toInt = 224 := rfl
    have l239 : (239 : Int32).toInt = 239 := rfl
    have : (own_A3 y0.toInt y1.toInt y2.toInt) = false := by simp only [own_A3, decide_eq_false_iff_not]; omega
    rw [this]; rfl
   ·
    refine own_st (fun t_ => XS.icmpNo (own_here Y0) hx rfl (hb hby own_d1_102) rfl (XT.ii_gt_f c102_68)) ?_
    show own_Ends _ _ _ _ (T0.setTop (mkF m 105 #[.val (.ref r0), .val (.int (0 : Int32)), .val (.int (3 : Int32)), .val (.int y0), .unset] []))
    refine own_st (fun t_ => XS.aloadN (own_here Y0) hx rfl (hb hby own_d1_105) rfl rfl) ?_
    show own_Ends _ _ _ _ (T0.setTop (mkF m 106 #[.val (.ref r0), .val (.int (0 : Int32)), .val (.int (3 : Int32)), .val (.int y0), .unset] [(.ref r0)]))
    refine own_st (fun t_ => XS.iloadN (own_here Y0) hx rfl (hb hby own_d1_106) rfl) ?_
    show own_Ends _ _ _ _ (T0.setTop (mkF m 107 #[.val (.ref r0), .val (.int (0 : Int32)), .val (.int (3 : Int32)), .val (.int y0), .unset] [(.int (0 : Int32)), (.ref r0)]))
    refine own_st (fun t_ => XS.iconst (own_here Y0) hx rfl (hb hby own_d1_107) ) ?_
    show own_Ends _ _ _ _ (T0.setTop (mkF m 108 #[.val (.ref r0), .val (.int (0 : Int32)), .val (.int (3 : Int32)), .val (.int y0), .unset] [(.int (1 : Int32)), (.int (0 : Int32)), (.ref r0)]))
    refine own_st (fun t_ => XS.iadd (own_here Y0) hx rfl (hb hby own_d1_108) rfl) ?_
    show own_Ends _ _ _ _ (T0.setTop (mkF m 109 #[.val (.ref r0), .val (.int (0 : Int32)), .val (.int (3 : Int32)), .val (.int y0), .unset] [(.int (1 : Int32)), (.ref r0)]))
    refine own_ldI Y0 hx hZ A (i := 1) (by decide) (by decide) (Nat.le_of_ble_eq_true rfl) (v := (.int y1)) rfl rfl rfl (hb hby own_d1_109) ?_
    show own_Ends _ _ _ _ (T0.setTop (mkF m 110 #[.val (.ref r0), .val (.int (0 : Int32)), .val (.int (3 : Int32)), .val (.int y0), .unset] [(.int y1)]))
    refine own_callS Y0 hx hZ (y := (⟨"kombos/graph/Utf8IsValidPinLaw", "cont", "(I)Z"⟩ : MethodName)) hown (hw _ (List.mem_of_getElem? (i := 11) rfl)) (hw _ (List.mem_of_getElem? (i := 12) rfl)) (hw _ (List.mem_of_getElem? (i := 5) rfl)) (hw _ (List.mem_of_getElem? (i := 13) rfl)) (by decide) (argsL := [(.int y1)]) (rest := []) (own_rm3 l Z a0 hw [] y1  h0 n0  ) (W := 0) (by decide) (by decide) (by decide) (by decide) rfl (by rw [hml]; rfl) (lenOf own_pd0 rfl) rfl (by show 2 * 0 + _ ≤ _; exact Nat.le_of_eq rfl) (hb hby own_d1_110) (fun T69 h71 v72 Y70 q73 => ?_)
    obtain ⟨rfl, rfl⟩ := q73
    show own_Ends _ _ _ _ (T69.setTop (mkF m 113 #[.val (.ref r0), .val (.int (0 : Int32)), .val (.int (3 : Int32)), .val (.int y0), .unset] [(.int (own_b (own_ct y1.toInt)))]))
    by_cases c113_74 : (own_b (own_ct y1.toInt)) = (0 : Int32)
    ·
     refine own_st (fun t_ => XS.ifYes (own_here Y70) hx rfl (pc0 := 113) (pc' := 127) rfl (hb hby own_d1_113) rfl (XT.i0_eq_t c113_74) (by decide) (by decide)) ?_
     show own_Ends _ _ _ _ (T69.setTop (mkF m 127 #[.val (.ref r0), .val (.int (0 : Int32)), .val (.int (3 : Int32)), .val (.int y0), .unset] []))
     refine own_st (fun t_ => XS.iconst (own_here Y70) hx rfl (hb hby own_d1_127) ) ?_
     show own_Ends _ _ _ _ (T69.setTop (mkF m 128 #[.val (.ref r0), .val (.int (0 : Int32)), .val (.int (3 : Int32)), .val (.int y0), .unset] [(.int (0 : Int32))]))
     refine own_retN Y70 hx hlk (t := .boolean) hret (by simp) (hb hby own_d1_128) (by decide) (by decide) ?_
     refine ⟨?_, rfl⟩
     have q0 := c95_67; simp only [own_lt] at q0
     have q1 := c102_68; simp only [own_lt] at q1
     have q2 := c113_74; simp only [own_b_0, own_ct, decide_eq_false_iff_not] at q2
     have l224 : (224 : Int32).toInt = 224 := rfl
     have l239 : (239 : Int32).toInt = 239 := rfl
     have : (own_A3 y0.toInt y1.toInt y2.toInt) = false := by simp only [own_A3, decide_eq_false_iff_not]; omega
     rw [this]; rfl
    ·
     refine own_st (fun t_ => XS.ifNo (own_here Y70) hx rfl (hb hby own_d1_113) rfl (XT.i0_eq_f c113_74)) ?_
     show own_Ends _ _ _ _ (T69.setTop (mkF m 116 #[.val (.ref r0), .val (.int (0 : Int32)), .val (.int (3 : Int32)), .val (.int y0), .unset] []))
     refine own_st (fun t_ => XS.aloadN (own_here Y70) hx rfl (hb hby own_d1_116) rfl rfl) ?_
     show own_Ends _ _ _ _ (T69.setTop (mkF m 117 #[.val (.ref r0), .val (.int (0 : Int32)), .val (.int (3 : Int32)), .val (.int y0), .unset] [(.ref r0)]))
     refine own_st (fun t_ => XS.iloadN (own_here Y70) hx rfl (hb hby own_d1_117) rfl) ?_
     show own_Ends _ _ _ _ (T69.setTop (mkF m 118 #[.val (.ref r0), .val (.int (0 : Int32)), .val (.int (3 : Int32)), .val (.int y0), .unset] [(.int (0 : Int32)), (.ref r0)]))
     refine own_st (fun t_ => XS.iconst (own_here Y70) hx rfl (hb hby own_d1_118) ) ?_
     show own_Ends _ _ _ _ (T69.setTop (mkF m 119 #[.val (.ref r0), .val (.int (0 : Int32)), .val (.int (3 : Int32)), .val (.int y0), .unset] [(.int (2 : Int32)), (.int (0 : Int32)), (.ref r0)]))
     refine own_st (fun t_ => XS.iadd (own_here Y70) hx rfl (hb hby own_d1_119) rfl) ?_
     show own_Ends _ _ _ _ (T69.setTop (mkF m 120 #[.val (.ref r0), .val (.int (0 : Int32)), .val (.int (3 : Int32)), .val (.int y0), .unset] [(.int (2 : Int32)), (.ref r0)]))
     refine own_ldI Y70 hx hZ A (i := 2) (by decide) (by decide) (Nat.le_of_ble_eq_true rfl) (v := (.int y2)) rfl rfl rfl (hb hby own_d1_120) ?_
     show own_Ends _ _ _ _ (T69.setTop (mkF m 121 #[.val (.ref r0), .val (.int (0 : Int32)), .val (.int (3 : Int32)), .val (.int y0), .unset] [(.int y2)]))
     refine own_callS Y70 hx hZ (y := (⟨"kombos/graph/Utf8IsValidPinLaw", "cont", "(I)Z"⟩ : MethodName)) hown (hw _ (List.mem_of_getElem? (i := 11) rfl)) (hw _ (List.mem_of_getElem? (i := 12) rfl)) (hw _ (List.mem_of_getElem? (i := 5) rfl)) (hw _ (List.mem_of_getElem? (i := 13) rfl)) (by decide) (argsL := [(.int y2)]) (rest := []) (own_rm3 l Z a0 hw [] y2  h0 n0  ) (W := 0) (by decide) (by decide) (by decide) (by decide) rfl (by rw [hml]; rfl) (lenOf own_pd0 rfl) rfl (by show 2 * 0 + _ ≤ _; exact Nat.le_of_eq rfl) (hb hby own_d1_121) (fun T75 h77 v78 Y76 q79 => ?_)
     obtain ⟨rfl, rfl⟩ := q79
     show own_Ends _ _ _ _ (T75.setTop (mkF m 124 #[.val (.ref r0), .val (.int (0 : Int32)), .val (.int (3 : Int32)), .val (.int y0), .unset] [(.int (own_b (own_ct y2.toInt)))]))
     by_cases c124_80 : (own_b (own_ct y2.toInt)) = (0 : Int32)
     ·
      refine own_st (fun t_ => XS.ifNo (own_here Y76) hx rfl (hb hby own_d1_124) rfl (XT.i0_ne_f c124_80)) ?_
      show own_Ends _ _ _ _ (T75.setTop (mkF m 127 #[.val (.ref r0), .val (.int (0 : Int32)), .val (.int (3 : Int32)), .val (.int y0), .unset] []))
      refine own_st (fun t_ => XS.iconst (own_here Y76) hx rfl (hb hby own_d1_127) ) ?_
      show own_Ends _ _ _ _ (T75.setTop (mkF m 128 #[.val (.ref r0), .val (.int (0 : Int32)), .val (.int (3 : Int32)), .val (.int y0), .unset] [(.int (0 : Int32))]))
      refine own_retN Y76 hx hlk (t := .boolean) hret (by simp) (hb hby own_d1_128) (by decide) (by decide) ?_
      refine ⟨?_, rfl⟩
      have q0 := c95_67; simp only [own_lt] at q0
      have q1 := c102_68; simp only [own_lt] at q1
      have q2 := c113_74; simp only [own_b_0, own_ct, Bool.not_eq_false, decide_eq_true_eq] at q2
      have q3 := c124_80; simp only [own_b_0, own_ct, decide_eq_false_iff_not] at q3
      have l224 : (224 : Int32).toInt = 224 := rfl
      have l239 : (239 : Int32).toInt = 239 := rfl
      have : (own_A3 y0.toInt y1.toInt y2.toInt) = false := by simp only [own_A3, decide_eq_false_iff_not]; omega
      rw [this]; rfl
     ·
      refine own_st (fun t_ => XS.ifYes (own_here Y76) hx rfl (pc0 := 124) (pc' := 129) rfl (hb hby own_d1_124) rfl (XT.i0_ne_t c124_80) (by decide) (by decide)) ?_
      show own_Ends _ _ _ _ (T75.setTop (mkF m 129 #[.val (.ref r0), .val (.int (0 : Int32)), .val (.int (3 : Int32)), .val (.int y0), .unset] []))
      refine own_st (fun t_ => XS.iloadN (own_here Y76) hx rfl (hb hby own_d1_129) rfl) ?_
      show own_Ends _ _ _ _ (T75.setTop (mkF m 130 #[.val (.ref r0), .val (.int (0 : Int32)), .val (.int (3 : Int32)), .val (.int y0), .unset] [(.int y0)]))
      refine own_st (fun t_ => XS.bipush (own_here Y76) hx rfl (hb hby own_d1_130) ) ?_
      show own_Ends _ _ _ _ (T75.setTop (mkF m 132 #[.val (.ref r0), .val (.int (0 : Int32)), .val (.int (3 : Int32)), .val (.int y0), .unset] [(.int (15 : Int32)), (.int y0)]))
      refine own_st (fun t_ => XS.iand (own_here Y76) hx rfl (hb hby own_d1_132) rfl) ?_
      show own_Ends _ _ _ _ (T75.setTop (mkF m 133 #[.val (.ref r0), .val (.int (0 : Int32)), .val (.int (3 : Int32)), .val (.int y0), .unset] [(.int (y0 &&& (15 : Int32)))]))
      refine own_st (fun t_ => XS.bipush (own_here Y76) hx rfl (hb hby own_d1_133) ) ?_
      show own_Ends _ _ _ _ (T75.setTop (mkF m 135 #[.val (.ref r0), .val (.int (0 : Int32)), .val (.int (3 : Int32)), .val (.int y0), .unset] [(.int (12 : Int32)), (.int (y0 &&& (15 : Int32)))]))
      refine own_st (fun t_ => XS.ishl (own_here Y76) hx rfl (hb hby own_d1_135) rfl) ?_
      show own_Ends _ _ _ _ (T75.setTop (mkF m 136 #[.val (.ref r0), .val (.int (0 : Int32)), .val (.int (3 : Int32)), .val (.int y0), .unset] [(.int ((y0 &&& (15 : Int32)) <<< ((12 : Int32) &&& 31)))]))
      refine own_st (fun t_ => XS.aloadN (own_here Y76) hx rfl (hb hby own_d1_136) rfl rfl) ?_
      show own_Ends _ _ _ _ (T75.setTop (mkF m 137 #[.val (.ref r0), .val (.int (0 : Int32)), .val (.int (3 : Int32)), .val (.int y0), .unset] [(.ref r0), (.int ((y0 &&& (15 : Int32)) <<< ((12 : Int32) &&& 31)))]))
      refine own_st (fun t_ => XS.iloadN (own_here Y76) hx rfl (hb hby own_d1_137) rfl) ?_
      show own_Ends _ _ _ _ (T75.setTop (mkF m 138 #[.val (.ref r0), .val (.int (0 : Int32)), .val (.int (3 : Int32)), .val (.int y0), .unset] [(.int (0 : Int32)), (.ref r0), (.int ((y0 &&& (15 : Int32)) <<< ((12 : Int32) &&& 31)))]))
      refine own_st (fun t_ => XS.iconst (own_here Y76) hx rfl (hb hby own_d1_138) ) ?_
      show own_Ends _ _ _ _ (T75.setTop (mkF m 139 #[.val (.ref r0), .val (.int (0 : Int32)), .val (.int (3 : Int32)), .val (.int y0), .unset] [(.int (1 : Int32)), (.int (0 : Int32)), (.ref r0), (.int ((y0 &&& (15 : Int32)) <<< ((12 : Int32) &&& 31)))]))
      refine own_st (fun t_ => XS.iadd (own_here Y76) hx rfl (hb hby own_d1_139) rfl) ?_
      show own_Ends _ _ _ _ (T75.setTop (mkF m 140 #[.val (.ref r0), .val (.int (0 : Int32)), .val (.int (3 : Int32)), .val (.int y0), .unset] [(.int (1 : Int32)), (.ref r0), (.int ((y0 &&& (15 : Int32)) <<< ((12 : Int32) &&& 31)))]))
      refine own_ldI Y76 hx hZ A (i := 1) (by decide) (by decide) (Nat.le_of_ble_eq_true rfl) (v := (.int y1)) rfl rfl rfl (hb hby own_d1_140) ?_
      show own_Ends _ _ _ _ (T75.setTop (mkF m 141 #[.val (.ref r0), .val (.int (0 : Int32)), .val (.int (3 : Int32)), .val (.int y0), .unset] [(.int y1), (.int ((y0 &&& (15 : Int32)) <<< ((12 : Int32) &&& 31)))]))
      refine own_st (fun t_ => XS.bipush (own_here Y76) hx rfl (hb hby own_d1_141) ) ?_
      show own_Ends _ _ _ _ (T75.setTop (mkF m 143 #[.val (.ref r0), .val (.int (0 : Int32)), .val (.int (3 : Int32)), .val (.int y0), .unset] [(.int (63 : Int32)), (.int y1), (.int ((y0 &&& (15 : Int32)) <<< ((12 : Int32) &&& 31)))]))
      refine own_st (fun t_ => XS.iand (own_here Y76) hx rfl (hb hby own_d1_143) rfl) ?_
      show own_Ends _ _ _ _ (T75.setTop (mkF m 144 #[.val (.ref r0), .val (.int (0 : Int32)), .val (.int (3 : Int32)), .val (.int y0), .unset] [(.int (y1 &&& (63 : Int32))), (.int ((y0 &&& (15 : Int32)) <<< ((12 : Int32) &&& 31)))]))
      refine own_st (fun t_ => XS.bipush (own_here Y76) hx rfl (hb hby own_d1_144) ) ?_
      show own_Ends _ _ _ _ (T75.setTop (mkF m 146 #[.val (.ref r0), .val (.int (0 : Int32)), .val (.int (3 : Int32)), .val (.int y0), .unset] [(.int (6 : Int32)), (.int (y1 &&& (63 : Int32))), (.int ((y0 &&& (15 : Int32)) <<< ((12 : Int32) &&& 31)))]))
      refine own_st (fun t_ => XS.ishl (own_here Y76) hx rfl (hb hby own_d1_146) rfl) ?_
      show own_Ends _ _ _ _ (T75.setTop (mkF m 147 #[.val (.ref r0), .val (.int (0 : Int32)), .val (.int (3 : Int32)), .val (.int y0), .unset] [(.int ((y1 &&& (63 : Int32)) <<< ((6 : Int32) &&& 31))), (.int ((y0 &&& (15 : Int32)) <<< ((12 : Int32) &&& 31)))]))
      refine own_st (fun t_ => XS.ior (own_here Y76) hx rfl (hb hby own_d1_147) rfl) ?_
      show own_Ends _ _ _ _ (T75.setTop (mkF m 148 #[.val (.ref r0), .val (.int (0 : Int32)), .val (.int (3 : Int32)), .val (.int y0), .unset] [(.int (((y0 &&& (15 : Int32)) <<< ((12 : Int32) &&& 31)) ||| ((y1 &&& (63 : Int32)) <<< ((6 : Int32) &&& 31))))]))
      refine own_st (fun t_ => XS.aloadN (own_here Y76) hx rfl (hb hby own_d1_148) rfl rfl) ?_
      show own_Ends _ _ _ _ (T75.setTop (mkF m 149 #[.val (.ref r0), .val (.int (0 : Int32)), .val (.int (3 : Int32)), .val (.int y0), .unset] [(.ref r0), (.int (((y0 &&& (15 : Int32)) <<< ((12 : Int32) &&& 31)) ||| ((y1 &&& (63 : Int32)) <<< ((6 : Int32) &&& 31))))]))
      refine own_st (fun t_ => XS.iloadN (own_here Y76) hx rfl (hb hby own_d1_149) rfl) ?_
      show own_Ends _ _ _ _ (T75.setTop (mkF m 150 #[.val (.ref r0), .val (.int (0 : Int32)), .val (.int (3 : Int32)), .val (.int y0), .unset] [(.int (0 : Int32)), (.ref r0), (.int (((y0 &&& (15 : Int32)) <<< ((12 : Int32) &&& 31)) ||| ((y1 &&& (63 : Int32)) <<< ((6 : Int32) &&& 31))))]))
      refine own_st (fun t_ => XS.iconst (own_here Y76) hx rfl (hb hby own_d1_150) ) ?_
      show own_Ends _ _ _ _ (T75.setTop (mkF m 151 #[.val (.ref r0), .val (.int (0 : Int32)), .val (.int (3 : Int32)), .val (.int y0), .unset] [(.int (2 : Int32)), (.int (0 : Int32)), (.ref r0), (.int (((y0 &&& (15 : Int32)) <<< ((12 : Int32) &&& 31)) ||| ((y1 &&& (63 : Int32)) <<< ((6 : Int32) &&& 31))))]))
      refine own_st (fun t_ => XS.iadd (own_here Y76) hx rfl (hb hby own_d1_151) rfl) ?_
      show own_Ends _ _ _ _ (T75.setTop (mkF m 152 #[.val (.ref r0), .val (.int (0 : Int32)), .val (.int (3 : Int32)), .val (.int y0), .unset] [(.int (2 : Int32)), (.ref r0), (.int (((y0 &&& (15 : Int32)) <<< ((12 : Int32) &&& 31)) ||| ((y1 &&& (63 : Int32)) <<< ((6 : Int32) &&& 31))))]))
      refine own_ldI Y76 hx hZ A (i := 2) (by decide) (by decide) (Nat.le_of_ble_eq_true rfl) (v := (.int y2)) rfl rfl rfl (hb hby own_d1_152) ?_
      show own_Ends _ _ _ _ (T75.setTop (mkF m 153 #[.val (.ref r0), .val (.int (0 : Int32)), .val (.int (3 : Int32)), .val (.int y0), .unset] [(.int y2), (.int (((y0 &&& (15 : Int32)) <<< ((12 : Int32) &&& 31)) ||| ((y1 &&& (63 : Int32)) <<< ((6 : Int32) &&& 31))))]))
      refine own_st (fun t_ => XS.bipush (own_here Y76) hx rfl (hb hby own_d1_153) ) ?_
      show own_Ends _ _ _ _ (T75.setTop (mkF m 155 #[.val (.ref r0), .val (.int (0 : Int32)), .val (.int (3 : Int32)), .val (.int y0), .unset] [(.int (63 : Int32)), (.int y2), (.int (((y0 &&& (15 : Int32)) <<< ((12 : Int32) &&& 31)) ||| ((y1 &&& (63 : Int32)) <<< ((6 : Int32) &&& 31))))]))
      refine own_st (fun t_ => XS.iand (own_here Y76) hx rfl (hb hby own_d1_155) rfl) ?_
      show own_Ends _ _ _ _ (T75.setTop (mkF m 156 #[.val (.ref r0), .val (.int (0 : Int32)), .val (.int (3 : Int32)), .val (.int y0), .unset] [(.int (y2 &&& (63 : Int32))), (.int (((y0 &&& (15 : Int32)) <<< ((12 : Int32) &&& 31)) ||| ((y1 &&& (63 : Int32)) <<< ((6 : Int32) &&& 31))))]))
      refine own_st (fun t_ => XS.ior (own_here Y76) hx rfl (hb hby own_d1_156) rfl) ?_
      show own_Ends _ _ _ _ (T75.setTop (mkF m 157 #[.val (.ref r0), .val (.int (0 : Int32)), .val (.int (3 : Int32)), .val (.int y0), .unset] [(.int ((((y0 &&& (15 : Int32)) <<< ((12 : Int32) &&& 31)) ||| ((y1 &&& (63 : Int32)) <<< ((6 : Int32) &&& 31))) ||| (y2 &&& (63 : Int32))))]))
      refine own_st (fun t_ => XS.istore (own_here Y76) hx rfl (hb hby own_d1_157) rfl (l' := #[.val (.ref r0), .val (.int (0 : Int32)), .val (.int (3 : Int32)), .val (.int y0), .val (.int ((((y0 &&& (15 : Int32)) <<< ((12 : Int32) &&& 31)) ||| ((y1 &&& (63 : Int32)) <<< ((6 : Int32) &&& 31))) ||| (y2 &&& (63 : Int32))))]) rfl) ?_
      show own_Ends _ _ _ _ (T75.setTop (mkF m 159 #[.val (.ref r0), .val (.int (0 : Int32)), .val (.int (3 : Int32)), .val (.int y0), .val (.int ((((y0 &&& (15 : Int32)) <<< ((12 : Int32) &&& 31)) ||| ((y1 &&& (63 : Int32)) <<< ((6 : Int32) &&& 31))) ||| (y2 &&& (63 : Int32))))] []))
      generalize hp : ((((y0 &&& (15 : Int32)) <<< ((12 : Int32) &&& 31)) ||| ((y1 &&& (63 : Int32)) <<< ((6 : Int32) &&& 31))) ||| (y2 &&& (63 : Int32))) = p_
      refine own_st (fun t_ => XS.iload (own_here Y76) hx rfl (hb hby own_d1_159) rfl) ?_
      show own_Ends _ _ _ _ (T75.setTop (mkF m 161 #[.val (.ref r0), .val (.int (0 : Int32)), .val (.int (3 : Int32)), .val (.int y0), .val (.int p_)] [(.int p_)]))
      refine own_st (fun t_ => XS.sipush (own_here Y76) hx rfl (hb hby own_d1_161) ) ?_
      show own_Ends _ _ _ _ (T75.setTop (mkF m 164 #[.val (.ref r0), .val (.int (0 : Int32)), .val (.int (3 : Int32)), .val (.int y0), .val (.int p_)] [(.int (2048 : Int32)), (.int p_)]))
      by_cases c164_81 : p_ < (2048 : Int32)
      ·
       refine own_st (fun t_ => XS.icmpYes (own_here Y76) hx rfl (pc0 := 164) (pc' := 185) rfl (hb hby own_d1_164) rfl (XT.ii_lt_t c164_81) (by decide) (by decide)) ?_
       show own_Ends _ _ _ _ (T75.setTop (mkF m 185 #[.val (.ref r0), .val (.int (0 : Int32)), .val (.int (3 : Int32)), .val (.int y0), .val (.int p_)] []))
       refine own_st (fun t_ => XS.iconst (own_here Y76) hx rfl (hb hby own_d1_185) ) ?_
       show own_Ends _ _ _ _ (T75.setTop (mkF m 186 #[.val (.ref r0), .val (.int (0 : Int32)), .val (.int (3 : Int32)), .val (.int y0), .val (.int p_)] [(.int (0 : Int32))]))
       refine own_retN Y76 hx hlk (t := .boolean) hret (by simp) (hb hby own_d1_186) (by decide) (by decide) ?_
       refine ⟨?_, rfl⟩
       have q0 := c95_67; simp only [own_lt] at q0
       have q1 := c102_68; simp only [own_lt] at q1
       have q2 := c113_74; simp only [own_b_0, own_ct, Bool.not_eq_false, decide_eq_true_eq] at q2
       have q3 := c124_80; simp only [own_b_0, own_ct, Bool.not_eq_false, decide_eq_true_eq] at q3
       have q4 := c164_81; simp only [own_lt] at q4
       have l2048 : (2048 : Int32).toInt = 2048 := rfl
       have l224 : (224 : Int32).toInt = 224 := rfl
       have l239 : (239 : Int32).toInt = 239 := rfl
       have cp := own_cp3 y0 y1 y2; rw [hp] at cp
       have : (own_A3 y0.toInt y1.toInt y2.toInt) = false := by simp only [own_A3, decide_eq_false_iff_not]; omega
       rw [this]; rfl
      ·
       refine own_st (fun t_ => XS.icmpNo (own_here Y76) hx rfl (hb hby own_d1_164) rfl (XT.ii_lt_f c164_81)) ?_
       show own_Ends _ _ _ _ (T75.setTop (mkF m 167 #[.val (.ref r0), .val (.int (0 : Int32)), .val (.int (3 : Int32)), .val (.int y0), .val (.int p_)] []))
       refine own_st (fun t_ => XS.iload (own_here Y76) hx rfl (hb hby own_d1_167) rfl) ?_
       show own_Ends _ _ _ _ (T75.setTop (mkF m 169 #[.val (.ref r0), .val (.int (0 : Int32)), .val (.int (3 : Int32)), .val (.int y0), .val (.int p_)] [(.int p_)]))
       refine own_ldcI Y76 hx hZ hown (hw _ (List.mem_of_getElem? (i := 14) rfl)) rfl (hb hby own_d1_169) ?_
       show own_Ends _ _ _ _ (T75.setTop (mkF m 171 #[.val (.ref r0), .val (.int (0 : Int32)), .val (.int (3 : Int32)), .val (.int y0), .val (.int p_)] [(.int (55296 : Int32)), (.int p_)]))
       by_cases c171_82 : p_ < (55296 : Int32)
       ·
        refine own_st (fun t_ => XS.icmpYes (own_here Y76) hx rfl (pc0 := 171) (pc' := 181) rfl (hb hby own_d1_171) rfl (XT.ii_lt_t c171_82) (by decide) (by decide)) ?_
        show own_Ends _ _ _ _ (T75.setTop (mkF m 181 #[.val (.ref r0), .val (.int (0 : Int32)), .val (.int (3 : Int32)), .val (.int y0), .val (.int p_)] []))
        refine own_st (fun t_ => XS.iconst (own_here Y76) hx rfl (hb hby own_d1_181) ) ?_
        show own_Ends _ _ _ _ (T75.setTop (mkF m 182 #[.val (.ref r0), .val (.int (0 : Int32)), .val (.int (3 : Int32)), .val (.int y0), .val (.int p_)] [(.int (1 : Int32))]))
        refine own_st (fun t_ => XS.goto (own_here Y76) hx rfl (pc0 := 182) (pc' := 186) rfl (hb hby own_d1_182) (by decide) (by decide)) ?_
        show own_Ends _ _ _ _ (T75.setTop (mkF m 186 #[.val (.ref r0), .val (.int (0 : Int32)), .val (.int (3 : Int32)), .val (.int y0), .val (.int p_)] [(.int (1 : Int32))]))
        refine own_retN Y76 hx hlk (t := .boolean) hret (by simp) (hb hby own_d1_186) (by decide) (by decide) ?_
        refine ⟨?_, rfl⟩
        have q0 := c95_67; simp only [own_lt] at q0
        have q1 := c102_68; simp only [own_lt] at q1
        have q2 := c113_74; simp only [own_b_0, own_ct, Bool.not_eq_false, decide_eq_true_eq] at q2
        have q3 := c124_80; simp only [own_b_0, own_ct, Bool.not_eq_false, decide_eq_true_eq] at q3
        have q4 := c164_81; simp only [own_lt] at q4
        have q5 := c171_82; simp only [own_lt] at q5
        have l2048 : (2048 : Int32).toInt = 2048 := rfl
        have l224 : (224 : Int32).toInt = 224 := rfl
        have l239 : (239 : Int32).toInt = 239 := rfl
        have l55296 : (55296 : Int32).toInt = 55296 := rfl
        have cp := own_cp3 y0 y1 y2; rw [hp] at cp
        have : (own_A3 y0.toInt y1.toInt y2.toInt) = true := by simp only [own_A3, decide_eq_true_eq]; omega
        rw [this]; rfl
       ·
        refine own_st (fun t_ => XS.icmpNo (own_here Y76) hx rfl (hb hby own_d1_171) rfl (XT.ii_lt_f c171_82)) ?_
        show own_Ends _ _ _ _ (T75.setTop (mkF m 174 #[.val (.ref r0), .val (.int (0 : Int32)), .val (.int (3 : Int32)), .val (.int y0), .val (.int p_)] []))
        refine own_st (fun t_ => XS.iload (own_here Y76) hx rfl (hb hby own_d1_174) rfl) ?_
        show own_Ends _ _ _ _ (T75.setTop (mkF m 176 #[.val (.ref r0), .val (.int (0 : Int32)), .val (.int (3 : Int32)), .val (.int y0), .val (.int p_)] [(.int p_)]))
        refine own_ldcI Y76 hx hZ hown (hw _ (List.mem_of_getElem? (i := 15) rfl)) rfl (hb hby own_d1_176) ?_
        show own_Ends _ _ _ _ (T75.setTop (mkF m 178 #[.val (.ref r0), .val (.int (0 : Int32)), .val (.int (3 : Int32)), .val (.int y0), .val (.int p_)] [(.int (57343 : Int32)), (.int p_)]))
        by_cases c178_83 : (57343 : Int32) < p_
        ·
         refine own_st (fun t_ => XS.icmpNo (own_here Y76) hx rfl (hb hby own_d1_178) rfl (XT.ii_le_f c178_83)) ?_
         show own_Ends _ _ _ _ (T75.setTop (mkF m 181 #[.val (.ref r0), .val (.int (0 : Int32)), .val (.int (3 : Int32)), .val (.int y0), .val (.int p_)] []))
         refine own_st (fun t_ => XS.iconst (own_here Y76) hx rfl (hb hby own_d1_181) ) ?_
         show own_Ends _ _ _ _ (T75.setTop (mkF m 182 #[.val (.ref r0), .val (.int (0 : Int32)), .val (.int (3 : Int32)), .val (.int y0), .val (.int p_)] [(.int (1 : Int32))]))
         refine own_st (fun t_ => XS.goto (own_here Y76) hx rfl (pc0 := 182) (pc' := 186) rfl (hb hby own_d1_182) (by decide) (by decide)) ?_
         show own_Ends _ _ _ _ (T75.setTop (mkF m 186 #[.val (.ref r0), .val (.int (0 : Int32)), .val (.int (3 : Int32)), .val (.int y0), .val (.int p_)] [(.int (1 : Int32))]))
         refine own_retN Y76 hx hlk (t := .boolean) hret (by simp) (hb hby own_d1_186) (by decide) (by decide) ?_
         refine ⟨?_, rfl⟩
         have q0 := c95_67; simp only [own_lt] at q0
         have q1 := c102_68; simp only [own_lt] at q1
         have q2 := c113_74; simp only [own_b_0, own_ct, Bool.not_eq_false, decide_eq_true_eq] at q2
         have q3 := c124_80; simp only [own_b_0, own_ct, Bool.not_eq_false, decide_eq_true_eq] at q3
         have q4 := c164_81; simp only [own_lt] at q4
         have q5 := c171_82; simp only [own_lt] at q5
         have q6 := c178_83; simp only [own_lt] at q6
         have l2048 : (2048 : Int32).toInt = 2048 := rfl
         have l224 : (224 : Int32).toInt = 224 := rfl
         have l239 : (239 : Int32).toInt = 239 := rfl
         have l55296 : (55296 : Int32).toInt = 55296 := rfl
         have l57343 : (57343 : Int32).toInt = 57343 := rfl
         have cp := own_cp3 y0 y1 y2; rw [hp] at cp
         have : (own_A3 y0.toInt y1.toInt y2.toInt) = true := by simp only [own_A3, decide_eq_true_eq]; omega
         rw [this]; rfl
        ·
         refine own_st (fun t_ => XS.icmpYes (own_here Y76) hx rfl (pc0 := 178) (pc' := 185) rfl (hb hby own_d1_178) rfl (XT.ii_le_t c178_83) (by decide) (by decide)) ?_
         show own_Ends _ _ _ _ (T75.setTop (mkF m 185 #[.val (.ref r0), .val (.int (0 : Int32)), .val (.int (3 : Int32)), .val (.int y0), .val (.int p_)] []))
         refine own_st (fun t_ => XS.iconst (own_here Y76) hx rfl (hb hby own_d1_185) ) ?_
         show own_Ends _ _ _ _ (T75.setTop (mkF m 186 #[.val (.ref r0), .val (.int (0 : Int32)), .val (.int (3 : Int32)), .val (.int y0), .val (.int p_)] [(.int (0 : Int32))]))
         refine own_retN Y76 hx hlk (t := .boolean) hret (by simp) (hb hby own_d1_186) (by decide) (by decide) ?_
         refine ⟨?_, rfl⟩
         have q0 := c95_67; simp only [own_lt] at q0
         have q1 := c102_68; simp only [own_lt] at q1
         have q2 := c113_74; simp only [own_b_0, own_ct, Bool.not_eq_false, decide_eq_true_eq] at q2
         have q3 := c124_80; simp only [own_b_0, own_ct, Bool.not_eq_false, decide_eq_true_eq] at q3
         have q4 := c164_81; simp only [own_lt] at q4
         have q5 := c171_82; simp only [own_lt] at q5
         have q6 := c178_83; simp only [own_lt] at q6
         have l2048 : (2048 : Int32).toInt = 2048 := rfl
         have l224 : (224 : Int32).toInt = 224 := rfl
         have l239 : (239 : Int32).toInt = 239 := rfl
         have l55296 : (55296 : Int32).toInt = 55296 := rfl
         have l57343 : (57343 : Int32).toInt = 57343 := rfl
         have cp := own_cp3 y0 y1 y2; rw [hp] at cp
         have : (own_A3 y0.toInt y1.toInt y2.toInt) = false := by simp only [own_A3, decide_eq_false_iff_not]; omega
         rw [this]; rfl
theorem own_ef_own_rm1_3_1 (m : MethodId) (r0 : Addr) : entryFrame m #[(.ref r0), (.int (3 : Int32)), (.int (1 : Int32))] 5 = mkF m 0 #[.val (.ref r0), .val (.int (3 : Int32)), .val (.int (1 : Int32)), .unset, .unset] [] := by first | (simp [entryFrame, mkF, argsToLocals, Value.category]; done) | rfl
def own_Q_own_rm1_3_1 (Z : State) (y0 y1 y2 y3 : Int32) (h0 : Heap) (n0 : Nat) (v : Option Value) (h : Heap) : Prop := v = some (.int (own_b (own_A1 y3.toInt))) ∧ h0 = h
set_option maxRecDepth 65536 in
set_option maxHeartbeats 40000000 in
theorem own_rm1_3_1 (l : Launch) (Z : State) (a0 : Array Value) (hw : ∀ d ∈ tables_1, d.before a0 Z = true) (ws : List Jvm.Cond) (r0 : Addr) (y0 y1 y2 y3 : Int32) (h0 : Heap) (n0 : Nat)  (A : own_A Z h0 r0 .int [(.int y0), (.int y1), (.int y2), (.int y3)]) (g0 : 0 ≤ y0.toInt ∧ y0.toInt ≤ 255) (g1 : 0 ≤ y1.toInt ∧ y1.toInt ≤ 255) (g2 : 0 ≤ y2.toInt ∧ y2.toInt ≤ 255) (g3 : 0 ≤ y3.toInt ∧ y3.toInt ≤ 255) :
    own_Con l Z (⟨"kombos/graph/Utf8IsValidPinLaw", "ok", "([III)Z"⟩ : MethodName) method_3_code 5 (some .boolean) ws ({ frames := 0, cells := 0, slots := 0, locals := 0 } : Room) #[(.ref r0), (.int (3 : Int32)), (.int (1 : Int32))] h0 n0 (own_Q_own_rm1_3_1 Z y0 y1 y2 y3 h0 n0) := by
  refine own_body (plainFor_of_name own_pn1) ?_
  intro p e s m below meth c T0 hx hZ hby hml hown hnm hret hlk Y0
  replace hown : s.vm.findClass "kombos/graph/Utf8IsValidPinLaw" = some m.cls := hown
  replace hnm : meth.name = "ok" := hnm
  rw [own_ef_own_rm1_3_1 m r0]
  show own_Ends _ _ _ _ (T0.setTop (mkF m 0 #[.val (.ref r0), .val (.int (3 : Int32)), .val (.int (1 : Int32)), .unset, .unset] []))
  refine own_st (fun t_ => XS.aloadN (own_here Y0) hx rfl (hb hby own_d1_0) rfl rfl) ?_
  show own_Ends _ _ _ _ (T0.setTop (mkF m 1 #[.val (.ref r0), .val (.int (3 : Int32)), .val (.int (1 : Int32)), .unset, .unset] [(.ref r0)]))
  refine own_st (fun t_ => XS.iloadN (own_here Y0) hx rfl (hb hby own_d1_1) rfl) ?_
  show own_Ends _ _ _ _ (T0.setTop (mkF m 2 #[.val (.ref r0), .val (.int (3 : Int32)), .val (.int (1 : Int32)), .unset, .unset] [(.int (3 : Int32)), (.ref r0)]))
  refine own_ldI Y0 hx hZ A (i := 3) (by decide) (by decide) (Nat.le_of_ble_eq_true rfl) (v := (.int y3)) rfl rfl rfl (hb hby own_d1_2) ?_
  show own_Ends _ _ _ _ (T0.setTop (mkF m 3 #[.val (.ref r0), .val (.int (3 : Int32)), .val (.int (1 : Int32)), .unset, .unset] [(.int y3)]))
  refine own_st (fun t_ => XS.istoreN (own_here Y0) hx rfl (hb hby own_d1_3) rfl (l' := #[.val (.ref r0), .val (.int (3 : Int32)), .val (.int (1 : Int32)), .val (.int y3), .unset]) rfl) ?_
  show own_Ends _ _ _ _ (T0.setTop (mkF m 4 #[.val (.ref r0), .val (.int (3 : Int32)), .val (.int (1 : Int32)), .val (.int y3), .unset] []))
  refine own_st (fun t_ => XS.iloadN (own_here Y0) hx rfl (hb hby own_d1_4) rfl) ?_
  show own_Ends _ _ _ _ (T0.setTop (mkF m 5 #[.val (.ref r0), .val (.int (3 : Int32)), .val (.int (1 : Int32)), .val (.int y3), .unset] [(.int (1 : Int32))]))
  refine own_st (fun t_ => XS.iconst (own_here Y0) hx rfl (hb hby own_d1_5) ) ?_
  show own_Ends _ _ _ _ (T0.setTop (mkF m 6 #[.val (.ref r0), .val (.int (3 : Int32)), .val (.int (1 : Int32)), .val (.int y3), .unset] [(.int (1 : Int32)), (.int (1 : Int32))]))
  refine own_st (fun t_ => XS.icmpNo (own_here Y0) hx rfl (hb hby own_d1_6) rfl (XT.ii_ne_f (by decide))) ?_
  show own_Ends _ _ _ _ (T0.setTop (mkF m 9 #[.val (.ref r0), .val (.int (3 : Int32)), .val (.int (1 : Int32)), .val (.int y3), .unset] []))
  refine own_st (fun t_ => XS.iloadN (own_here Y0) hx rfl (hb hby own_d1_9) rfl) ?_
  show own_Ends _ _ _ _ (T0.setTop (mkF m 10 #[.val (.ref r0), .val (.int (3 : Int32)), .val (.int (1 : Int32)), .val (.int y3), .unset] [(.int y3)]))
  refine own_st (fun t_ => XS.sipush (own_here Y0) hx rfl (hb hby own_d1_10) ) ?_
  show own_Ends _ _ _ _ (T0.setTop (mkF m 13 #[.val (.ref r0), .val (.int (3 : Int32)), .val (.int (1 : Int32)), .val (.int y3), .unset] [(.int (128 : Int32)), (.int y3)]))
  by_cases c13_84 : y3 < (128 : Int32)
  ·
   refine own_st (fun t_ => XS.icmpNo (own_here Y0) hx rfl (hb hby own_d1_13) rfl (XT.ii_ge_f c13_84)) ?_
   show own_Ends _ _ _ _ (T0.setTop (mkF m 16 #[.val (.ref r0), .val (.int (3 : Int32)), .val (.int (1 : Int32)), .val (.int y3), .unset] []))
   refine own_st (fun t_ => XS.iconst (own_here Y0) hx rfl (hb hby own_d1_16) ) ?_
   show own_Ends _ _ _ _ (T0.setTop (mkF m 17 #[.val (.ref r0), .val (.int (3 : Int32)), .val (.int (1 : Int32)), .val (.int y3), .unset] [(.int (1 : Int32))]))
   refine own_st (fun t_ => XS.goto (own_here Y0) hx rfl (pc0 := 17) (pc' := 21) rfl (hb hby own_d1_17) (by decide) (by decide)) ?_
   show own_Ends _ _ _ _ (T0.setTop (mkF m 21 #[.val (.ref r0), .val (.int (3 : Int32)), .val (.int (1 : Int32)), .val (.int y3), .unset] [(.int (1 : Int32))]))
   refine own_retN Y0 hx hlk (t := .boolean) hret (by simp) (hb hby own_d1_21) (by decide) (by decide) ?_
   refine ⟨?_, rfl⟩
   have q0 := c13_84; simp only [own_lt] at q0
   have l128 : (128 : Int32).toInt = 128 := rfl
   have : (own_A1 y3.toInt) = true := by simp only [own_A1, decide_eq_true_eq]; omega
   rw [this]; rfl
  ·
   refine own_st (fun t_ => XS.icmpYes (own_here Y0) hx rfl (pc0 := 13) (pc' := 20) rfl (hb hby own_d1_13) rfl (XT.ii_ge_t c13_84) (by decide) (by decide)) ?_
   show own_Ends _ _ _ _ (T0.setTop (mkF m 20 #[.val (.ref r0), .val (.int (3 : Int32)), .val (.int (1 : Int32)), .val (.int y3), .unset] []))
   refine own_st (fun t_ => XS.iconst (own_here Y0) hx rfl (hb hby own_d1_20) ) ?_
   show own_Ends _ _ _ _ (T0.setTop (mkF m 21 #[.val (.ref r0), .val (.int (3 : Int32)), .val (.int (1 : Int32)), .val (.int y3), .unset] [(.int (0 : Int32))]))
   refine own_retN Y0 hx hlk (t := .boolean) hret (by simp) (hb hby own_d1_21) (by decide) (by decide) ?_
   refine ⟨?_, rfl⟩
   have q0 := c13_84; simp only [own_lt] at q0
   have l128 : (128 : Int32).toInt = 128 := rfl
   have : (own_A1 y3.toInt) = false := by simp only [own_A1, decide_eq_false_iff_not]; omega
   rw [this]; rfl
theorem own_ef_own_rm1_2_2 (m : MethodId) (r0 : Addr) : entryFrame m #[(.ref r0), (.int (2 : Int32)), (.int (2 : Int32))] 5 = mkF m 0 #[.val (.ref r0), .val (.int (2 : Int32)), .val (.int (2 : Int32)), .unset, .unset] [] := by first | (simp [entryFrame, mkF, argsToLocals, Value.category]; done) | rfl
def own_Q_own_rm1_2_2 (Z : State) (y0 y1 y2 y3 : Int32) (h0 : Heap) (n0 : Nat) (v : Option Value) (h : Heap) : Prop := v = some (.int (own_b (own_A2 y2.toInt y3.toInt))) ∧ h0 = h
set_option maxRecDepth 65536 in
set_option maxHeartbeats 40000000 in
theorem own_rm1_2_2 (l : Launch) (Z : State) (a0 : Array Value) (hw : ∀ d ∈ tables_1, d.before a0 Z = true) (ws : List Jvm.Cond) (r0 : Addr) (y0 y1 y2 y3 : Int32) (h0 : Heap) (n0 : Nat)  (A : own_A Z h0 r0 .int [(.int y0), (.int y1), (.int y2), (.int y3)]) (g0 : 0 ≤ y0.toInt ∧ y0.toInt ≤ 255) (g1 : 0 ≤ y1.toInt ∧ y1.toInt ≤ 255) (g2 : 0 ≤ y2.toInt ∧ y2.toInt ≤ 255) (g3 : 0 ≤ y3.toInt ∧ y3.toInt ≤ 255) :
    own_Con l Z (⟨"kombos/graph/Utf8IsValidPinLaw", "ok", "([III)Z"⟩ : MethodName) method_3_code 5 (some .boolean) ws ({ frames := 1, cells := 0, slots := 0, locals := 12 } : Room) #[(.ref r0), (.int (2 : Int32)), (.int (2 : Int32))] h0 n0 (own_Q_own_rm1_2_2 Z y0 y1 y2 y3 h0 n0) := by
  refine own_body (plainFor_of_name own_pn1) ?_
  intro p e s m below meth c T0 hx hZ hby hml hown hnm hret hlk Y0
  replace hown : s.vm.findClass "kombos/graph/Utf8IsValidPinLaw" = some m.cls := hown
  replace hnm : meth.name = "ok" := hnm
  rw [own_ef_own_rm1_2_2 m r0]
  show own_Ends _ _ _ _ (T0.setTop (mkF m 0 #[.val (.ref r0), .val (.int (2 : Int32)), .val (.int (2 : Int32)), .unset, .unset] []))
  refine own_st (fun t_ => XS.aloadN (own_here Y0) hx rfl (hb hby own_d1_0) rfl rfl) ?_
  show own_Ends _ _ _ _ (T0.setTop (mkF m 1 #[.val (.ref r0), .val (.int (2 : Int32)), .val (.int (2 : Int32)), .unset, .unset] [(.ref r0)]))
  refine own_st (fun t_ => XS.iloadN (own_here Y0) hx rfl (hb hby own_d1_1) rfl) ?_
  show own_Ends _ _ _ _ (T0.setTop (mkF m 2 #[.val (.ref r0), .val (.int (2 : Int32)), .val (.int (2 : Int32)), .unset, .unset] [(.int (2 : Int32)), (.ref r0)]))
  refine own_ldI Y0 hx hZ A (i := 2) (by decide) (by decide) (Nat.le_of_ble_eq_true rfl) (v := (.int y2)) rfl rfl rfl (hb hby own_d1_2) ?_
  show own_Ends _ _ _ _ (T0.setTop (mkF m 3 #[.val (.ref r0), .val (.int (2 : Int32)), .val (.int (2 : Int32)), .unset, .unset] [(.int y2)]))
  refine own_st (fun t_ => XS.istoreN (own_here Y0) hx rfl (hb hby own_d1_3) rfl (l' := #[.val (.ref r0), .val (.int (2 : Int32)), .val (.int (2 : Int32)), .val (.int y2), .unset]) rfl) ?_
  show own_Ends _ _ _ _ (T0.setTop (mkF m 4 #[.val (.ref r0), .val (.int (2 : Int32)), .val (.int (2 : Int32)), .val (.int y2), .unset] []))
  refine own_st (fun t_ => XS.iloadN (own_here Y0) hx rfl (hb hby own_d1_4) rfl) ?_
  show own_Ends _ _ _ _ (T0.setTop (mkF m 5 #[.val (.ref r0), .val (.int (2 : Int32)), .val (.int (2 : Int32)), .val (.int y2), .unset] [(.int (2 : Int32))]))
  refine own_st (fun t_ => XS.iconst (own_here Y0) hx rfl (hb hby own_d1_5) ) ?_
  show own_Ends _ _ _ _ (T0.setTop (mkF m 6 #[.val (.ref r0), .val (.int (2 : Int32)), .val (.int (2 : Int32)), .val (.int y2), .unset] [(.int (1 : Int32)), (.int (2 : Int32))]))
  refine own_st (fun t_ => XS.icmpYes (own_here Y0) hx rfl (pc0 := 6) (pc' := 22) rfl (hb hby own_d1_6) rfl (XT.ii_ne_t (by decide)) (by decide) (by decide)) ?_
  show own_Ends _ _ _ _ (T0.setTop (mkF m 22 #[.val (.ref r0), .val (.int (2 : Int32)), .val (.int (2 : Int32)), .val (.int y2), .unset] []))
  refine own_st (fun t_ => XS.iloadN (own_here Y0) hx rfl (hb hby own_d1_22) rfl) ?_
  show own_Ends _ _ _ _ (T0.setTop (mkF m 23 #[.val (.ref r0), .val (.int (2 : Int32)), .val (.int (2 : Int32)), .val (.int y2), .unset] [(.int (2 : Int32))]))
  refine own_st (fun t_ => XS.iconst (own_here Y0) hx rfl (hb hby own_d1_23) ) ?_
  show own_Ends _ _ _ _ (T0.setTop (mkF m 24 #[.val (.ref r0), .val (.int (2 : Int32)), .val (.int (2 : Int32)), .val (.int y2), .unset] [(.int (2 : Int32)), (.int (2 : Int32))]))
  refine own_st (fun t_ => XS.icmpNo (own_here Y0) hx rfl (hb hby own_d1_24) rfl (XT.ii_ne_f (by decide))) ?_
  show own_Ends _ _ _ _ (T0.setTop (mkF m 27 #[.val (.ref r0), .val (.int (2 : Int32)), .val (.int (2 : Int32)), .val (.int y2), .unset] []))
  refine own_st (fun t_ => XS.iloadN (own_here Y0) hx rfl (hb hby own_d1_27) rfl) ?_
  show own_Ends _ _ _ _ (T0.setTop (mkF m 28 #[.val (.ref r0), .val (.int (2 : Int32)), .val (.int (2 : Int32)), .val (.int y2), .unset] [(.int y2)]))
  refine own_st (fun t_ => XS.sipush (own_here Y0) hx rfl (hb hby own_d1_28) ) ?_
  show own_Ends _ _ _ _ (T0.setTop (mkF m 31 #[.val (.ref r0), .val (.int (2 : Int32)), .val (.int (2 : Int32)), .val (.int y2), .unset] [(.int (192 : Int32)), (.int y2)]))
  by_cases c31_85 : y2 < (192 : Int32)
  ·
   refine own_st (fun t_ => XS.icmpYes (own_here Y0) hx rfl (pc0 := 31) (pc' := 52) rfl (hb hby own_d1_31) rfl (XT.ii_lt_t c31_85) (by decide) (by decide)) ?_
   show own_Ends _ _ _ _ (T0.setTop (mkF m 52 #[.val (.ref r0), .val (.int (2 : Int32)), .val (.int (2 : Int32)), .val (.int y2), .unset] []))
   refine own_st (fun t_ => XS.iconst (own_here Y0) hx rfl (hb hby own_d1_52) ) ?_
   show own_Ends _ _ _ _ (T0.setTop (mkF m 53 #[.val (.ref r0), .val (.int (2 : Int32)), .val (.int (2 : Int32)), .val (.int y2), .unset] [(.int (0 : Int32))]))
   refine own_retN Y0 hx hlk (t := .boolean) hret (by simp) (hb hby own_d1_53) (by decide) (by decide) ?_
   refine ⟨?_, rfl⟩
   have q0 := c31_85; simp only [own_lt] at q0
   have l192 : (192 : Int32).toInt = 192 := rfl
   have : (own_A2 y2.toInt y3.toInt) = false := by simp only [own_A2, decide_eq_false_iff_not]; omega
   rw [this]; rfl
  ·
   refine own_st (fun t_ => XS.icmpNo (own_here Y0) hx rfl (hb hby own_d1_31) rfl (XT.ii_lt_f c31_85)) ?_
   show own_Ends _ _ _ _ (T0.setTop (mkF m 34 #[.val (.ref r0), .val (.int (2 : Int32)), .val (.int (2 : Int32)), .val (.int y2), .unset] []))
   refine own_st (fun t_ => XS.iloadN (own_here Y0) hx rfl (hb hby own_d1_34) rfl) ?_
   show own_Ends _ _ _ _ (T0.setTop (mkF m 35 #[.val (.ref r0), .val (.int (2 : Int32)), .val (.int (2 : Int32)), .val (.int y2), .unset] [(.int y2)]))
   refine own_st (fun t_ => XS.sipush (own_here Y0) hx rfl (hb hby own_d1_35) ) ?_
   show own_Ends _ _ _ _ (T0.setTop (mkF m 38 #[.val (.ref r0), .val (.int (2 : Int32)), .val (.int (2 : Int32)), .val (.int y2), .unset] [(.int (223 : Int32)), (.int y2)]))
   by_cases c38_86 : (223 : Int32) < y2
   ·
    refine own_st (fun t_ => XS.icmpYes (own_here Y0) hx rfl (pc0 := 38) (pc' := 52) rfl (hb hby own_d1_38) rfl (XT.ii_gt_t c38_86) (by decide) (by decide)) ?_
    show own_Ends _ _ _ _ (T0.setTop (mkF m 52 #[.val (.ref r0), .val (.int (2 : Int32)), .val (.int (2 : Int32)), .val (.int y2), .unset] []))
    refine own_st (fun t_ => XS.iconst (own_here Y0) hx rfl (hb hby own_d1_52) ) ?_
    show own_Ends _ _ _ _ (T0.setTop (mkF m 53 #[.val (.ref r0), .val (.int (2 : Int32)), .val (.int (2 : Int32)), .val (.int y2), .unset] [(.int (0 : Int32))]))
    refine own_retN Y0 hx hlk (t := .boolean) hret (by simp) (hb hby own_d1_53) (by decide) (by decide) ?_
    refine ⟨?_, rfl⟩
    have q0 := c31_85; simp only [own_lt] at q0
    have q1 := c38_86; simp only [own_lt] at q1
    have l192 : (192 : Int32).toInt = 192 := rfl
    have l223 : (223 : Int32).toInt = 223 := rfl
    have : (own_A2 y2.toInt y3.toInt) = false := by simp only [own_A2, decide_eq_false_iff_not]; omega
    rw [this]; rfl
   ·
    refine own_st (fun t_ => XS.icmpNo (own_here Y0) hx rfl (hb hby own_d1_38) rfl (XT.ii_gt_f c38_86)) ?_
    show own_Ends _ _ _ _ (T0.setTop (mkF m 41 #[.val (.ref r0), .val (.int (2 : Int32)), .val (.int (2 : Int32)), .val (.int y2), .unset] []))
    refine own_st (fun t_ => XS.aloadN (own_here Y0) hx rfl (hb hby own_d1_41) rfl rfl) ?_
    show own_Ends _ _ _ _ (T0.setTop (mkF m 42 #[.val (.ref r0), .val (.int (2 : Int32)), .val (.int (2 : Int32)), .val (.int y2), .unset] [(.ref r0)]))
    refine own_st (fun t_ => XS.iloadN (own_here Y0) hx rfl (hb hby own_d1_42) rfl) ?_
    show own_Ends _ _ _ _ (T0.setTop (mkF m 43 #[.val (.ref r0), .val (.int (2 : Int32)), .val (.int (2 : Int32)), .val (.int y2), .unset] [(.int (2 : Int32)), (.ref r0)]))
    refine own_st (fun t_ => XS.iconst (own_here Y0) hx rfl (hb hby own_d1_43) ) ?_
    show own_Ends _ _ _ _ (T0.setTop (mkF m 44 #[.val (.ref r0), .val (.int (2 : Int32)), .val (.int (2 : Int32)), .val (.int y2), .unset] [(.int (1 : Int32)), (.int (2 : Int32)), (.ref r0)]))
    refine own_st (fun t_ => XS.iadd (own_here Y0) hx rfl (hb hby own_d1_44) rfl) ?_
    show own_Ends _ _ _ _ (T0.setTop (mkF m 45 #[.val (.ref r0), .val (.int (2 : Int32)), .val (.int (2 : Int32)), .val (.int y2), .unset] [(.int (3 : Int32)), (.ref r0)]))
    refine own_ldI Y0 hx hZ A (i := 3) (by decide) (by decide) (Nat.le_of_ble_eq_true rfl) (v := (.int y3)) rfl rfl rfl (hb hby own_d1_45) ?_
    show own_Ends _ _ _ _ (T0.setTop (mkF m 46 #[.val (.ref r0), .val (.int (2 : Int32)), .val (.int (2 : Int32)), .val (.int y2), .unset] [(.int y3)]))
    refine own_callS Y0 hx hZ (y := (⟨"kombos/graph/Utf8IsValidPinLaw", "cont", "(I)Z"⟩ : MethodName)) hown (hw _ (List.mem_of_getElem? (i := 11) rfl)) (hw _ (List.mem_of_getElem? (i := 12) rfl)) (hw _ (List.mem_of_getElem? (i := 5) rfl)) (hw _ (List.mem_of_getElem? (i := 13) rfl)) (by decide) (argsL := [(.int y3)]) (rest := []) (own_rm3 l Z a0 hw [] y3  h0 n0  ) (W := 0) (by decide) (by decide) (by decide) (by decide) rfl (by rw [hml]; rfl) (lenOf own_pd0 rfl) rfl (by show 2 * 0 + _ ≤ _; exact Nat.le_of_eq rfl) (hb hby own_d1_46) (fun T87 h89 v90 Y88 q91 => ?_)
    obtain ⟨rfl, rfl⟩ := q91
    show own_Ends _ _ _ _ (T87.setTop (mkF m 49 #[.val (.ref r0), .val (.int (2 : Int32)), .val (.int (2 : Int32)), .val (.int y2), .unset] [(.int (own_b (own_ct y3.toInt)))]))
    by_cases c49_92 : (own_b (own_ct y3.toInt)) = (0 : Int32)
    ·
     refine own_st (fun t_ => XS.ifNo (own_here Y88) hx rfl (hb hby own_d1_49) rfl (XT.i0_ne_f c49_92)) ?_
     show own_Ends _ _ _ _ (T87.setTop (mkF m 52 #[.val (.ref r0), .val (.int (2 : Int32)), .val (.int (2 : Int32)), .val (.int y2), .unset] []))
     refine own_st (fun t_ => XS.iconst (own_here Y88) hx rfl (hb hby own_d1_52) ) ?_
     show own_Ends _ _ _ _ (T87.setTop (mkF m 53 #[.val (.ref r0), .val (.int (2 : Int32)), .val (.int (2 : Int32)), .val (.int y2), .unset] [(.int (0 : Int32))]))
     refine own_retN Y88 hx hlk (t := .boolean) hret (by simp) (hb hby own_d1_53) (by decide) (by decide) ?_
     refine ⟨?_, rfl⟩
     have q0 := c31_85; simp only [own_lt] at q0
     have q1 := c38_86; simp only [own_lt] at q1
     have q2 := c49_92; simp only [own_b_0, own_ct, decide_eq_false_iff_not] at q2
     have l192 : (192 : Int32).toInt = 192 := rfl
     have l223 : (223 : Int32).toInt = 223 := rfl
     have : (own_A2 y2.toInt y3.toInt) = false := by simp only [own_A2, decide_eq_false_iff_not]; omega
     rw [this]; rfl
    ·
     refine own_st (fun t_ => XS.ifYes (own_here Y88) hx rfl (pc0 := 49) (pc' := 54) rfl (hb hby own_d1_49) rfl (XT.i0_ne_t c49_92) (by decide) (by decide)) ?_
     show own_Ends _ _ _ _ (T87.setTop (mkF m 54 #[.val (.ref r0), .val (.int (2 : Int32)), .val (.int (2 : Int32)), .val (.int y2), .unset] []))
     refine own_st (fun t_ => XS.iloadN (own_here Y88) hx rfl (hb hby own_d1_54) rfl) ?_
     show own_Ends _ _ _ _ (T87.setTop (mkF m 55 #[.val (.ref r0), .val (.int (2 : Int32)), .val (.int (2 : Int32)), .val (.int y2), .unset] [(.int y2)]))
     refine own_st (fun t_ => XS.bipush (own_here Y88) hx rfl (hb hby own_d1_55) ) ?_
     show own_Ends _ _ _ _ (T87.setTop (mkF m 57 #[.val (.ref r0), .val (.int (2 : Int32)), .val (.int (2 : Int32)), .val (.int y2), .unset] [(.int (31 : Int32)), (.int y2)]))
     refine own_st (fun t_ => XS.iand (own_here Y88) hx rfl (hb hby own_d1_57) rfl) ?_
     show own_Ends _ _ _ _ (T87.setTop (mkF m 58 #[.val (.ref r0), .val (.int (2 : Int32)), .val (.int (2 : Int32)), .val (.int y2), .unset] [(.int (y2 &&& (31 : Int32)))]))
     refine own_st (fun t_ => XS.bipush (own_here Y88) hx rfl (hb hby own_d1_58) ) ?_
     show own_Ends _ _ _ _ (T87.setTop (mkF m 60 #[.val (.ref r0), .val (.int (2 : Int32)), .val (.int (2 : Int32)), .val (.int y2), .unset] [(.int (6 : Int32)), (.int (y2 &&& (31 : Int32)))]))
     refine own_st (fun t_ => XS.ishl (own_here Y88) hx rfl (hb hby own_d1_60) rfl) ?_
     show own_Ends _ _ _ _ (T87.setTop (mkF m 61 #[.val (.ref r0), .val (.int (2 : Int32)), .val (.int (2 : Int32)), .val (.int y2), .unset] [(.int ((y2 &&& (31 : Int32)) <<< ((6 : Int32) &&& 31)))]))
     refine own_st (fun t_ => XS.aloadN (own_here Y88) hx rfl (hb hby own_d1_61) rfl rfl) ?_
     show own_Ends _ _ _ _ (T87.setTop (mkF m 62 #[.val (.ref r0), .val (.int (2 : Int32)), .val (.int (2 : Int32)), .val (.int y2), .unset] [(.ref r0), (.int ((y2 &&& (31 : Int32)) <<< ((6 : Int32) &&& 31)))]))
     refine own_st (fun t_ => XS.iloadN (own_here Y88) hx rfl (hb hby own_d1_62) rfl) ?_
     show own_Ends _ _ _ _ (T87.setTop (mkF m 63 #[.val (.ref r0), .val (.int (2 : Int32)), .val (.int (2 : Int32)), .val (.int y2), .unset] [(.int (2 : Int32)), (.ref r0), (.int ((y2 &&& (31 : Int32)) <<< ((6 : Int32) &&& 31)))]))
     refine own_st (fun t_ => XS.iconst (own_here Y88) hx rfl (hb hby own_d1_63) ) ?_
     show own_Ends _ _ _ _ (T87.setTop (mkF m 64 #[.val (.ref r0), .val (.int (2 : Int32)), .val (.int (2 : Int32)), .val (.int y2), .unset] [(.int (1 : Int32)), (.int (2 : Int32)), (.ref r0), (.int ((y2 &&& (31 : Int32)) <<< ((6 : Int32) &&& 31)))]))
     refine own_st (fun t_ => XS.iadd (own_here Y88) hx rfl (hb hby own_d1_64) rfl) ?_
     show own_Ends _ _ _ _ (T87.setTop (mkF m 65 #[.val (.ref r0), .val (.int (2 : Int32)), .val (.int (2 : Int32)), .val (.int y2), .unset] [(.int (3 : Int32)), (.ref r0), (.int ((y2 &&& (31 : Int32)) <<< ((6 : Int32) &&& 31)))]))
     refine own_ldI Y88 hx hZ A (i := 3) (by decide) (by decide) (Nat.le_of_ble_eq_true rfl) (v := (.int y3)) rfl rfl rfl (hb hby own_d1_65) ?_
     show own_Ends _ _ _ _ (T87.setTop (mkF m 66 #[.val (.ref r0), .val (.int (2 : Int32)), .val (.int (2 : Int32)), .val (.int y2), .unset] [(.int y3), (.int ((y2 &&& (31 : Int32)) <<< ((6 : Int32) &&& 31)))]))
     refine own_st (fun t_ => XS.bipush (own_here Y88) hx rfl (hb hby own_d1_66) ) ?_
     show own_Ends _ _ _ _ (T87.setTop (mkF m 68 #[.val (.ref r0), .val (.int (2 : Int32)), .val (.int (2 : Int32)), .val (.int y2), .unset] [(.int (63 : Int32)), (.int y3), (.int ((y2 &&& (31 : Int32)) <<< ((6 : Int32) &&& 31)))]))
     refine own_st (fun t_ => XS.iand (own_here Y88) hx rfl (hb hby own_d1_68) rfl) ?_
     show own_Ends _ _ _ _ (T87.setTop (mkF m 69 #[.val (.ref r0), .val (.int (2 : Int32)), .val (.int (2 : Int32)), .val (.int y2), .unset] [(.int (y3 &&& (63 : Int32))), (.int ((y2 &&& (31 : Int32)) <<< ((6 : Int32) &&& 31)))]))
     refine own_st (fun t_ => XS.ior (own_here Y88) hx rfl (hb hby own_d1_69) rfl) ?_
     show own_Ends _ _ _ _ (T87.setTop (mkF m 70 #[.val (.ref r0), .val (.int (2 : Int32)), .val (.int (2 : Int32)), .val (.int y2), .unset] [(.int (((y2 &&& (31 : Int32)) <<< ((6 : Int32) &&& 31)) ||| (y3 &&& (63 : Int32))))]))
     refine own_st (fun t_ => XS.istore (own_here Y88) hx rfl (hb hby own_d1_70) rfl (l' := #[.val (.ref r0), .val (.int (2 : Int32)), .val (.int (2 : Int32)), .val (.int y2), .val (.int (((y2 &&& (31 : Int32)) <<< ((6 : Int32) &&& 31)) ||| (y3 &&& (63 : Int32))))]) rfl) ?_
     show own_Ends _ _ _ _ (T87.setTop (mkF m 72 #[.val (.ref r0), .val (.int (2 : Int32)), .val (.int (2 : Int32)), .val (.int y2), .val (.int (((y2 &&& (31 : Int32)) <<< ((6 : Int32) &&& 31)) ||| (y3 &&& (63 : Int32))))] []))
     generalize hp : (((y2 &&& (31 : Int32)) <<< ((6 : Int32) &&& 31)) ||| (y3 &&& (63 : Int32))) = p_
     refine own_st (fun t_ => XS.iload (own_here Y88) hx rfl (hb hby own_d1_72) rfl) ?_
     show own_Ends _ _ _ _ (T87.setTop (mkF m 74 #[.val (.ref r0), .val (.int (2 : Int32)), .val (.int (2 : Int32)), .val (.int y2), .val (.int p_)] [(.int p_)]))
     refine own_st (fun t_ => XS.sipush (own_here Y88) hx rfl (hb hby own_d1_74) ) ?_
     show own_Ends _ _ _ _ (T87.setTop (mkF m 77 #[.val (.ref r0), .val (.int (2 : Int32)), .val (.int (2 : Int32)), .val (.int y2), .val (.int p_)] [(.int (128 : Int32)), (.int p_)]))
     by_cases c77_93 : p_ < (128 : Int32)
     ·
      refine own_st (fun t_ => XS.icmpYes (own_here Y88) hx rfl (pc0 := 77) (pc' := 84) rfl (hb hby own_d1_77) rfl (XT.ii_lt_t c77_93) (by decide) (by decide)) ?_
      show own_Ends _ _ _ _ (T87.setTop (mkF m 84 #[.val (.ref r0), .val (.int (2 : Int32)), .val (.int (2 : Int32)), .val (.int y2), .val (.int p_)] []))
      refine own_st (fun t_ => XS.iconst (own_here Y88) hx rfl (hb hby own_d1_84) ) ?_
      show own_Ends _ _ _ _ (T87.setTop (mkF m 85 #[.val (.ref r0), .val (.int (2 : Int32)), .val (.int (2 : Int32)), .val (.int y2), .val (.int p_)] [(.int (0 : Int32))]))
      refine own_retN Y88 hx hlk (t := .boolean) hret (by simp) (hb hby own_d1_85) (by decide) (by decide) ?_
      refine ⟨?_, rfl⟩
      have q0 := c31_85; simp only [own_lt] at q0
      have q1 := c38_86; simp only [own_lt] at q1
      have q2 := c49_92; simp only [own_b_0, own_ct, Bool.not_eq_false, decide_eq_true_eq] at q2
      have q3 := c77_93; simp only [own_lt] at q3
      have l128 : (128 : Int32).toInt = 128 := rfl
      have l192 : (192 : Int32).toInt = 192 := rfl
      have l223 : (223 : Int32).toInt = 223 := rfl
      have cp := own_cp2 y2 y3; rw [hp] at cp
      have : (own_A2 y2.toInt y3.toInt) = false := by simp only [own_A2, decide_eq_false_iff_not]; omega
      rw [this]; rfl
     ·
      refine own_st (fun t_ => XS.icmpNo (own_here Y88) hx rfl (hb hby own_d1_77) rfl (XT.ii_lt_f c77_93)) ?_
      show own_Ends _ _ _ _ (T87.setTop (mkF m 80 #[.val (.ref r0), .val (.int (2 : Int32)), .val (.int (2 : Int32)), .val (.int y2), .val (.int p_)] []))
      refine own_st (fun t_ => XS.iconst (own_here Y88) hx rfl (hb hby own_d1_80) ) ?_
      show own_Ends _ _ _ _ (T87.setTop (mkF m 81 #[.val (.ref r0), .val (.int (2 : Int32)), .val (.int (2 : Int32)), .val (.int y2), .val (.int p_)] [(.int (1 : Int32))]))
      refine own_st (fun t_ => XS.goto (own_here Y88) hx rfl (pc0 := 81) (pc' := 85) rfl (hb hby own_d1_81) (by decide) (by decide)) ?_
      show own_Ends _ _ _ _ (T87.setTop (mkF m 85 #[.val (.ref r0), .val (.int (2 : Int32)), .val (.int (2 : Int32)), .val (.int y2), .val (.int p_)] [(.int (1 : Int32))]))
      refine own_retN Y88 hx hlk (t := .boolean) hret (by simp) (hb hby own_d1_85) (by decide) (by decide) ?_
      refine ⟨?_, rfl⟩
      have q0 := c31_85; simp only [own_lt] at q0
      have q1 := c38_86; simp only [own_lt] at q1
      have q2 := c49_92; simp only [own_b_0, own_ct, Bool.not_eq_false, decide_eq_true_eq] at q2
      have q3 := c77_93; simp only [own_lt] at q3
      have l128 : (128 : Int32).toInt = 128 := rfl
      have l192 : (192 : Int32).toInt = 192 := rfl
      have l223 : (223 : Int32).toInt = 223 := rfl
      have cp := own_cp2 y2 y3; rw [hp] at cp
      have : (own_A2 y2.toInt y3.toInt) = true := by simp only [own_A2, decide_eq_true_eq]; omega
      rw [this]; rfl
theorem own_ef_own_rm1_1_3 (m : MethodId) (r0 : Addr) : entryFrame m #[(.ref r0), (.int (1 : Int32)), (.int (3 : Int32))] 5 = mkF m 0 #[.val (.ref r0), .val (.int (1 : Int32)), .val (.int (3 : Int32)), .unset, .unset] [] := by first | (simp [entryFrame, mkF, argsToLocals, Value.category]; done) | rfl
def own_Q_own_rm1_1_3 (Z : State) (y0 y1 y2 y3 : Int32) (h0 : Heap) (n0 : Nat) (v : Option Value) (h : Heap) : Prop := v = some (.int (own_b (own_A3 y1.toInt y2.toInt y3.toInt))) ∧ h0 = h
set_option maxRecDepth 65536 in
set_option maxHeartbeats 40000000 in
theorem own_rm1_1_3 (l : Launch) (Z : State) (a0 : Array Value) (hw : ∀ d ∈ tables_1, d.before a0 Z = true) (ws : List Jvm.Cond) (r0 : Addr) (y0 y1 y2 y3 : Int32) (h0 : Heap) (n0 : Nat)  (A : own_A Z h0 r0 .int [(.int y0), (.int y1), (.int y2), (.int y3)]) (g0 : 0 ≤ y0.toInt ∧ y0.toInt ≤ 255) (g1 : 0 ≤ y1.toInt ∧ y1.toInt ≤ 255) (g2 : 0 ≤ y2.toInt ∧ y2.toInt ≤ 255) (g3 : 0 ≤ y3.toInt ∧ y3.toInt ≤ 255) :
    own_Con l Z (⟨"kombos/graph/Utf8IsValidPinLaw", "ok", "([III)Z"⟩ : MethodName) method_3_code 5 (some .boolean) ws ({ frames := 1, cells := 0, slots := 0, locals := 12 } : Room) #[(.ref r0), (.int (1 : Int32)), (.int (3 : Int32))] h0 n0 (own_Q_own_rm1_1_3 Z y0 y1 y2 y3 h0 n0) := by
  refine own_body (plainFor_of_name own_pn1) ?_
  intro p e s m below meth c T0 hx hZ hby hml hown hnm hret hlk Y0
  replace hown : s.vm.findClass "kombos/graph/Utf8IsValidPinLaw" = some m.cls := hown
  replace hnm : meth.name = "ok" := hnm
  rw [own_ef_own_rm1_1_3 m r0]
  show own_Ends _ _ _ _ (T0.setTop (mkF m 0 #[.val (.ref r0), .val (.int (1 : Int32)), .val (.int (3 : Int32)), .unset, .unset] []))
  refine own_st (fun t_ => XS.aloadN (own_here Y0) hx rfl (hb hby own_d1_0) rfl rfl) ?_
  show own_Ends _ _ _ _ (T0.setTop (mkF m 1 #[.val (.ref r0), .val (.int (1 : Int32)), .val (.int (3 : Int32)), .unset, .unset] [(.ref r0)]))
  refine own_st (fun t_ => XS.iloadN (own_here Y0) hx rfl (hb hby own_d1_1) rfl) ?_
  show own_Ends _ _ _ _ (T0.setTop (mkF m 2 #[.val (.ref r0), .val (.int (1 : Int32)), .val (.int (3 : Int32)), .unset, .unset] [(.int (1 : Int32)), (.ref r0)]))
  refine own_ldI Y0 hx hZ A (i := 1) (by decide) (by decide) (Nat.le_of_ble_eq_true rfl) (v := (.int y1)) rfl rfl rfl (hb hby own_d1_2) ?_
  show own_Ends _ _ _ _ (T0.setTop (mkF m 3 #[.val (.ref r0), .val (.int (1 : Int32)), .val (.int (3 : Int32)), .unset, .unset] [(.int y1)]))
  refine own_st (fun t_ => XS.istoreN (own_here Y0) hx rfl (hb hby own_d1_3) rfl (l' := #[.val (.ref r0), .val (.int (1 : Int32)), .val (.int (3 : Int32)), .val (.int y1), .unset]) rfl) ?_
  show own_Ends _ _ _ _ (T0.setTop (mkF m 4 #[.val (.ref r0), .val (.int (1 : Int32)), .val (.int (3 : Int32)), .val (.int y1), .unset] []))
  refine own_st (fun t_ => XS.iloadN (own_here Y0) hx rfl (hb hby own_d1_4) rfl) ?_
  show own_Ends _ _ _ _ (T0.setTop (mkF m 5 #[.val (.ref r0), .val (.int (1 : Int32)), .val (.int (3 : Int32)), .val (.int y1), .unset] [(.int (3 : Int32))]))
  refine own_st (fun t_ => XS.iconst (own_here Y0) hx rfl (hb hby own_d1_5) ) ?_
  show own_Ends _ _ _ _ (T0.setTop (mkF m 6 #[.val (.ref r0), .val (.int (1 : Int32)), .val (.int (3 : Int32)), .val (.int y1), .unset] [(.int (1 : Int32)), (.int (3 : Int32))]))
  refine own_st (fun t_ => XS.icmpYes (own_here Y0) hx rfl (pc0 := 6) (pc' := 22) rfl (hb hby own_d1_6) rfl (XT.ii_ne_t (by decide)) (by decide) (by decide)) ?_
  show own_Ends _ _ _ _ (T0.setTop (mkF m 22 #[.val (.ref r0), .val (.int (1 : Int32)), .val (.int (3 : Int32)), .val (.int y1), .unset] []))
  refine own_st (fun t_ => XS.iloadN (own_here Y0) hx rfl (hb hby own_d1_22) rfl) ?_
  show own_Ends _ _ _ _ (T0.setTop (mkF m 23 #[.val (.ref r0), .val (.int (1 : Int32)), .val (.int (3 : Int32)), .val (.int y1), .unset] [(.int (3 : Int32))]))
  refine own_st (fun t_ => XS.iconst (own_here Y0) hx rfl (hb hby own_d1_23) ) ?_
  show own_Ends _ _ _ _ (T0.setTop (mkF m 24 #[.val (.ref r0), .val (.int (1 : Int32)), .val (.int (3 : Int32)), .val (.int y1), .unset] [(.int (2 : Int32)), (.int (3 : Int32))]))
  refine own_st (fun t_ => XS.icmpYes (own_here Y0) hx rfl (pc0 := 24) (pc' := 86) rfl (hb hby own_d1_24) rfl (XT.ii_ne_t (by decide)) (by decide) (by decide)) ?_
  show own_Ends _ _ _ _ (T0.setTop (mkF m 86 #[.val (.ref r0), .val (.int (1 : Int32)), .val (.int (3 : Int32)), .val (.int y1), .unset] []))
  refine own_st (fun t_ => XS.iloadN (own_here Y0) hx rfl (hb hby own_d1_86) rfl) ?_
  show own_Ends _ _ _ _ (T0.setTop (mkF m 87 #[.val (.ref r0), .val (.int (1 : Int32)), .val (.int (3 : Int32)), .val (.int y1), .unset] [(.int (3 : Int32))]))
  refine own_st (fun t_ => XS.iconst (own_here Y0) hx rfl (hb hby own_d1_87) ) ?_
  show own_Ends _ _ _ _ (T0.setTop (mkF m 88 #[.val (.ref r0), .val (.int (1 : Int32)), .val (.int (3 : Int32)), .val (.int y1), .unset] [(.int (3 : Int32)), (.int (3 : Int32))]))
  refine own_st (fun t_ => XS.icmpNo (own_here Y0) hx rfl (hb hby own_d1_88) rfl (XT.ii_ne_f (by decide))) ?_
  show own_Ends _ _ _ _ (T0.setTop (mkF m 91 #[.val (.ref r0), .val (.int (1 : Int32)), .val (.int (3 : Int32)), .val (.int y1), .unset] []))
  refine own_st (fun t_ => XS.iloadN (own_here Y0) hx rfl (hb hby own_d1_91) rfl) ?_
  show own_Ends _ _ _ _ (T0.setTop (mkF m 92 #[.val (.ref r0), .val (.int (1 : Int32)), .val (.int (3 : Int32)), .val (.int y1), .unset] [(.int y1)]))
  refine own_st (fun t_ => XS.sipush (own_here Y0) hx rfl (hb hby own_d1_92) ) ?_
  show own_Ends _ _ _ _ (T0.setTop (mkF m 95 #[.val (.ref r0), .val (.int (1 : Int32)), .val (.int (3 : Int32)), .val (.int y1), .unset] [(.int (224 : Int32)), (.int y1)]))
  by_cases c95_94 : y1 < (224 : Int32)
  ·
   refine own_st (fun t_ => XS.icmpYes (own_here Y0) hx rfl (pc0 := 95) (pc' := 127) rfl (hb hby own_d1_95) rfl (XT.ii_lt_t c95_94) (by decide) (by decide)) ?_
   show own_Ends _ _ _ _ (T0.setTop (mkF m 127 #[.val (.ref r0), .val (.int (1 : Int32)), .val (.int (3 : Int32)), .val (.int y1), .unset] []))
   refine own_st (fun t_ => XS.iconst (own_here Y0) hx rfl (hb hby own_d1_127) ) ?_
   show own_Ends _ _ _ _ (T0.setTop (mkF m 128 #[.val (.ref r0), .val (.int (1 : Int32)), .val (.int (3 : Int32)), .val (.int y1), .unset] [(.int (0 : Int32))]))
   refine own_retN Y0 hx hlk (t := .boolean) hret (by simp) (hb hby own_d1_128) (by decide) (by decide) ?_
   refine ⟨?_, rfl⟩
   have q0 := c95_94; simp only [own_lt] at q0
   have l224 : (224 : Int32).toInt = 224 := rfl
   have : (own_A3 y1.toInt y2.toInt y3.toInt) = false := by simp only [own_A3, decide_eq_false_iff_not]; omega
   rw [this]; rfl
  ·
   refine own_st (fun t_ => XS.icmpNo (own_here Y0) hx rfl (hb hby own_d1_95) rfl (XT.ii_lt_f c95_94)) ?_
   show own_Ends _ _ _ _ (T0.setTop (mkF m 98 #[.val (.ref r0), .val (.int (1 : Int32)), .val (.int (3 : Int32)), .val (.int y1), .unset] []))
   refine own_st (fun t_ => XS.iloadN (own_here Y0) hx rfl (hb hby own_d1_98) rfl) ?_
   show own_Ends _ _ _ _ (T0.setTop (mkF m 99 #[.val (.ref r0), .val (.int (1 : Int32)), .val (.int (3 : Int32)), .val (.int y1), .unset] [(.int y1)]))
   refine own_st (fun t_ => XS.sipush (own_here Y0) hx rfl (hb hby own_d1_99) ) ?_
   show own_Ends _ _ _ _ (T0.setTop (mkF m 102 #[.val (.ref r0), .val (.int (1 : Int32)), .val (.int (3 : Int32)), .val (.int y1), .unset] [(.int (239 : Int32)), (.int y1)]))
   by_cases c102_95 : (239 : Int32) < y1
   ·
    refine own_st (fun t_ => XS.icmpYes (own_here Y0) hx rfl (pc0 := 102) (pc' := 127) rfl (hb hby own_d1_102) rfl (XT.ii_gt_t c102_95) (by decide) (by decide)) ?_
    show own_Ends _ _ _ _ (T0.setTop (mkF m 127 #[.val (.ref r0), .val (.int (1 : Int32)), .val (.int (3 : Int32)), .val (.int y1), .unset] []))
    refine own_st (fun t_ => XS.iconst (own_here Y0) hx rfl (hb hby own_d1_127) ) ?_
    show own_Ends _ _ _ _ (T0.setTop (mkF m 128 #[.val (.ref r0), .val (.int (1 : Int32)), .val (.int (3 : Int32)), .val (.int y1), .unset] [(.int (0 : Int32))]))
    refine own_retN Y0 hx hlk (t := .boolean) hret (by simp) (hb hby own_d1_128) (by decide) (by decide) ?_
    refine ⟨?_, rfl⟩
    have q0 := c95_94; simp only [own_lt] at q0
    have q1 := c102_95; simp only [own_lt] at q1
    have l224 : (224 : Int32).toInt = 224 := rfl
    have l239 : (239 : Int32).toInt = 239 := rfl
    have : (own_A3 y1.toInt y2.toInt y3.toInt) = false := by simp only [own_A3, decide_eq_false_iff_not]; omega
    rw [this]; rfl
   ·
    refine own_st (fun t_ => XS.icmpNo (own_here Y0) hx rfl (hb hby own_d1_102) rfl (XT.ii_gt_f c102_95)) ?_
    show own_Ends _ _ _ _ (T0.setTop (mkF m 105 #[.val (.ref r0), .val (.int (1 : Int32)), .val (.int (3 : Int32)), .val (.int y1), .unset] []))
    refine own_st (fun t_ => XS.aloadN (own_here Y0) hx rfl (hb hby own_d1_105) rfl rfl) ?_
    show own_Ends _ _ _ _ (T0.setTop (mkF m 106 #[.val (.ref r0), .val (.int (1 : Int32)), .val (.int (3 : Int32)), .val (.int y1), .unset] [(.ref r0)]))
    refine own_st (fun t_ => XS.iloadN (own_here Y0) hx rfl (hb hby own_d1_106) rfl) ?_
    show own_Ends _ _ _ _ (T0.setTop (mkF m 107 #[.val (.ref r0), .val (.int (1 : Int32)), .val (.int (3 : Int32)), .val (.int y1), .unset] [(.int (1 : Int32)), (.ref r0)]))
    refine own_st (fun t_ => XS.iconst (own_here Y0) hx rfl (hb hby own_d1_107) ) ?_
    show own_Ends _ _ _ _ (T0.setTop (mkF m 108 #[.val (.ref r0), .val (.int (1 : Int32)), .val (.int (3 : Int32)), .val (.int y1), .unset] [(.int (1 : Int32)), (.int (1 : Int32)), (.ref r0)]))
    refine own_st (fun t_ => XS.iadd (own_here Y0) hx rfl (hb hby own_d1_108) rfl) ?_
    show own_Ends _ _ _ _ (T0.setTop (mkF m 109 #[.val (.ref r0), .val (.int (1 : Int32)), .val (.int (3 : Int32)), .val (.int y1), .unset] [(.int (2 : Int32)), (.ref r0)]))
    refine own_ldI Y0 hx hZ A (i := 2) (by decide) (by decide) (Nat.le_of_ble_eq_true rfl) (v := (.int y2)) rfl rfl rfl (hb hby own_d1_109) ?_
    show own_Ends _ _ _ _ (T0.setTop (mkF m 110 #[.val (.ref r0), .val (.int (1 : Int32)), .val (.int (3 : Int32)), .val (.int y1), .unset] [(.int y2)]))
    refine own_callS Y0 hx hZ (y := (⟨"kombos/graph/Utf8IsValidPinLaw", "cont", "(I)Z"⟩ : MethodName)) hown (hw _ (List.mem_of_getElem? (i := 11) rfl)) (hw _ (List.mem_of_getElem? (i := 12) rfl)) (hw _ (List.mem_of_getElem? (i := 5) rfl)) (hw _ (List.mem_of_getElem? (i := 13) rfl)) (by decide) (argsL := [(.int y2)]) (rest := []) (own_rm3 l Z a0 hw [] y2  h0 n0  ) (W := 0) (by decide) (by decide) (by decide) (by decide) rfl (by rw [hml]; rfl) (lenOf own_pd0 rfl) rfl (by show 2 * 0 + _ ≤ _; exact Nat.le_of_eq rfl) (hb hby own_d1_110) (fun T96 h98 v99 Y97 q100 => ?_)
    obtain ⟨rfl, rfl⟩ := q100
    show own_Ends _ _ _ _ (T96.setTop (mkF m 113 #[.val (.ref r0), .val (.int (1 : Int32)), .val (.int (3 : Int32)), .val (.int y1), .unset] [(.int (own_b (own_ct y2.toInt)))]))
    by_cases c113_101 : (own_b (own_ct y2.toInt)) = (0 : Int32)
    ·
     refine own_st (fun t_ => XS.ifYes (own_here Y97) hx rfl (pc0 := 113) (pc' := 127) rfl (hb hby own_d1_113) rfl (XT.i0_eq_t c113_101) (by decide) (by decide)) ?_
     show own_Ends _ _ _ _ (T96.setTop (mkF m 127 #[.val (.ref r0), .val (.int (1 : Int32)), .val (.int (3 : Int32)), .val (.int y1), .unset] []))
     refine own_st (fun t_ => XS.iconst (own_here Y97) hx rfl (hb hby own_d1_127) ) ?_
     show own_Ends _ _ _ _ (T96.setTop (mkF m 128 #[.val (.ref r0), .val (.int (1 : Int32)), .val (.int (3 : Int32)), .val (.int y1), .unset] [(.int (0 : Int32))]))
     refine own_retN Y97 hx hlk (t := .boolean) hret (by simp) (hb hby own_d1_128) (by decide) (by decide) ?_
     refine ⟨?_, rfl⟩
     have q0 := c95_94; simp only [own_lt] at q0
     have q1 := c102_95; simp only [own_lt] at q1
     have q2 := c113_101; simp only [own_b_0, own_ct, decide_eq_false_iff_not] at q2
     have l224 : (224 : Int32).toInt = 224 := rfl
     have l239 : (239 : Int32).toInt = 239 := rfl
     have : (own_A3 y1.toInt y2.toInt y3.toInt) = false := by simp only [own_A3, decide_eq_false_iff_not]; omega
     rw [this]; rfl
    ·
     refine own_st (fun t_ => XS.ifNo (own_here Y97) hx rfl (hb hby own_d1_113) rfl (XT.i0_eq_f c113_101)) ?_
     show own_Ends _ _ _ _ (T96.setTop (mkF m 116 #[.val (.ref r0), .val (.int (1 : Int32)), .val (.int (3 : Int32)), .val (.int y1), .unset] []))
     refine own_st (fun t_ => XS.aloadN (own_here Y97) hx rfl (hb hby own_d1_116) rfl rfl) ?_
     show own_Ends _ _ _ _ (T96.setTop (mkF m 117 #[.val (.ref r0), .val (.int (1 : Int32)), .val (.int (3 : Int32)), .val (.int y1), .unset] [(.ref r0)]))
     refine own_st (fun t_ => XS.iloadN (own_here Y97) hx rfl (hb hby own_d1_117) rfl) ?_
     show own_Ends _ _ _ _ (T96.setTop (mkF m 118 #[.val (.ref r0), .val (.int (1 : Int32)), .val (.int (3 : Int32)), .val (.int y1), .unset] [(.int (1 : Int32)), (.ref r0)]))
     refine own_st (fun t_ => XS.iconst (own_here Y97) hx rfl (hb hby own_d1_118) ) ?_
     show own_Ends _ _ _ _ (T96.setTop (mkF m 119 #[.val (.ref r0), .val (.int (1 : Int32)), .val (.int (3 : Int32)), .val (.int y1), .unset] [(.int (2 : Int32)), (.int (1 : Int32)), (.ref r0)]))
     refine own_st (fun t_ => XS.iadd (own_here Y97) hx rfl (hb hby own_d1_119) rfl) ?_
     show own_Ends _ _ _ _ (T96.setTop (mkF m 120 #[.val (.ref r0), .val (.int (1 : Int32)), .val (.int (3 : Int32)), .val (.int y1), .unset] [(.int (3 : Int32)), (.ref r0)]))
     refine own_ldI Y97 hx hZ A (i := 3) (by decide) (by decide) (Nat.le_of_ble_eq_true rfl) (v := (.int y3)) rfl rfl rfl (hb hby own_d1_120) ?_
     show own_Ends _ _ _ _ (T96.setTop (mkF m 121 #[.val (.ref r0), .val (.int (1 : Int32)), .val (.int (3 : Int32)), .val (.int y1), .unset] [(.int y3)]))
     refine own_callS Y97 hx hZ (y := (⟨"kombos/graph/Utf8IsValidPinLaw", "cont", "(I)Z"⟩ : MethodName)) hown (hw _ (List.mem_of_getElem? (i := 11) rfl)) (hw _ (List.mem_of_getElem? (i := 12) rfl)) (hw _ (List.mem_of_getElem? (i := 5) rfl)) (hw _ (List.mem_of_getElem? (i := 13) rfl)) (by decide) (argsL := [(.int y3)]) (rest := []) (own_rm3 l Z a0 hw [] y3  h0 n0  ) (W := 0) (by decide) (by decide) (by decide) (by decide) rfl (by rw [hml]; rfl) (lenOf own_pd0 rfl) rfl (by show 2 * 0 + _ ≤ _; exact Nat.le_of_eq rfl) (hb hby own_d1_121) (fun T102 h104 v105 Y103 q106 => ?_)
     obtain ⟨rfl, rfl⟩ := q106
     show own_Ends _ _ _ _ (T102.setTop (mkF m 124 #[.val (.ref r0), .val (.int (1 : Int32)), .val (.int (3 : Int32)), .val (.int y1), .unset] [(.int (own_b (own_ct y3.toInt)))]))
     by_cases c124_107 : (own_b (own_ct y3.toInt)) = (0 : Int32)
     ·
      refine own_st (fun t_ => XS.ifNo (own_here Y103) hx rfl (hb hby own_d1_124) rfl (XT.i0_ne_f c124_107)) ?_
      show own_Ends _ _ _ _ (T102.setTop (mkF m 127 #[.val (.ref r0), .val (.int (1 : Int32)), .val (.int (3 : Int32)), .val (.int y1), .unset] []))
      refine own_st (fun t_ => XS.iconst (own_here Y103) hx rfl (hb hby own_d1_127) ) ?_
      show own_Ends _ _ _ _ (T102.setTop (mkF m 128 #[.val (.ref r0), .val (.int (1 : Int32)), .val (.int (3 : Int32)), .val (.int y1), .unset] [(.int (0 : Int32))]))
      refine own_retN Y103 hx hlk (t := .boolean) hret (by simp) (hb hby own_d1_128) (by decide) (by decide) ?_
      refine ⟨?_, rfl⟩
      have q0 := c95_94; simp only [own_lt] at q0
      have q1 := c102_95; simp only [own_lt] at q1
      have q2 := c113_101; simp only [own_b_0, own_ct, Bool.not_eq_false, decide_eq_true_eq] at q2
      have q3 := c124_107; simp only [own_b_0, own_ct, decide_eq_false_iff_not] at q3
      have l224 : (224 : Int32).toInt = 224 := rfl
      have l239 : (239 : Int32).toInt = 239 := rfl
      have : (own_A3 y1.toInt y2.toInt y3.toInt) = false := by simp only [own_A3, decide_eq_false_iff_not]; omega
      rw [this]; rfl
     ·
      refine own_st (fun t_ => XS.ifYes (own_here Y103) hx rfl (pc0 := 124) (pc' := 129) rfl (hb hby own_d1_124) rfl (XT.i0_ne_t c124_107) (by decide) (by decide)) ?_
      show own_Ends _ _ _ _ (T102.setTop (mkF m 129 #[.val (.ref r0), .val (.int (1 : Int32)), .val (.int (3 : Int32)), .val (.int y1), .unset] []))
      refine own_st (fun t_ => XS.iloadN (own_here Y103) hx rfl (hb hby own_d1_129) rfl) ?_
      show own_Ends _ _ _ _ (T102.setTop (mkF m 130 #[.val (.ref r0), .val (.int (1 : Int32)), .val (.int (3 : Int32)), .val (.int y1), .unset] [(.int y1)]))
      refine own_st (fun t_ => XS.bipush (own_here Y103) hx rfl (hb hby own_d1_130) ) ?_
      show own_Ends _ _ _ _ (T102.setTop (mkF m 132 #[.val (.ref r0), .val (.int (1 : Int32)), .val (.int (3 : Int32)), .val (.int y1), .unset] [(.int (15 : Int32)), (.int y1)]))
      refine own_st (fun t_ => XS.iand (own_here Y103) hx rfl (hb hby own_d1_132) rfl) ?_
      show own_Ends _ _ _ _ (T102.setTop (mkF m 133 #[.val (.ref r0), .val (.int (1 : Int32)), .val (.int (3 : Int32)), .val (.int y1), .unset] [(.int (y1 &&& (15 : Int32)))]))
      refine own_st (fun t_ => XS.bipush (own_here Y103) hx rfl (hb hby own_d1_133) ) ?_
      show own_Ends _ _ _ _ (T102.setTop (mkF m 135 #[.val (.ref r0), .val (.int (1 : Int32)), .val (.int (3 : Int32)), .val (.int y1), .unset] [(.int (12 : Int32)), (.int (y1 &&& (15 : Int32)))]))
      refine own_st (fun t_ => XS.ishl (own_here Y103) hx rfl (hb hby own_d1_135) rfl) ?_
      show own_Ends _ _ _ _ (T102.setTop (mkF m 136 #[.val (.ref r0), .val (.int (1 : Int32)), .val (.int (3 : Int32)), .val (.int y1), .unset] [(.int ((y1 &&& (15 : Int32)) <<< ((12 : Int32) &&& 31)))]))
      refine own_st (fun t_ => XS.aloadN (own_here Y103) hx rfl (hb hby own_d1_136) rfl rfl) ?_
      show own_Ends _ _ _ _ (T102.setTop (mkF m 137 #[.val (.ref r0), .val (.int (1 : Int32)), .val (.int (3 : Int32)), .val (.int y1), .unset] [(.ref r0), (.int ((y1 &&& (15 : Int32)) <<< ((12 : Int32) &&& 31)))]))
      refine own_st (fun t_ => XS.iloadN (own_here Y103) hx rfl (hb hby own_d1_137) rfl) ?_
      show own_Ends _ _ _ _ (T102.setTop (mkF m 138 #[.val (.ref r0), .val (.int (1 : Int32)), .val (.int (3 : Int32)), .val (.int y1), .unset] [(.int (1 : Int32)), (.ref r0), (.int ((y1 &&& (15 : Int32)) <<< ((12 : Int32) &&& 31)))]))
      refine own_st (fun t_ => XS.iconst (own_here Y103) hx rfl (hb hby own_d1_138) ) ?_
      show own_Ends _ _ _ _ (T102.setTop (mkF m 139 #[.val (.ref r0), .val (.int (1 : Int32)), .val (.int (3 : Int32)), .val (.int y1), .unset] [(.int (1 : Int32)), (.int (1 : Int32)), (.ref r0), (.int ((y1 &&& (15 : Int32)) <<< ((12 : Int32) &&& 31)))]))
      refine own_st (fun t_ => XS.iadd (own_here Y103) hx rfl (hb hby own_d1_139) rfl) ?_
      show own_Ends _ _ _ _ (T102.setTop (mkF m 140 #[.val (.ref r0), .val (.int (1 : Int32)), .val (.int (3 : Int32)), .val (.int y1), .unset] [(.int (2 : Int32)), (.ref r0), (.int ((y1 &&& (15 : Int32)) <<< ((12 : Int32) &&& 31)))]))
      refine own_ldI Y103 hx hZ A (i := 2) (by decide) (by decide) (Nat.le_of_ble_eq_true rfl) (v := (.int y2)) rfl rfl rfl (hb hby own_d1_140) ?_
      show own_Ends _ _ _ _ (T102.setTop (mkF m 141 #[.val (.ref r0), .val (.int (1 : Int32)), .val (.int (3 : Int32)), .val (.int y1), .unset] [(.int y2), (.int ((y1 &&& (15 : Int32)) <<< ((12 : Int32) &&& 31)))]))
      refine own_st (fun t_ => XS.bipush (own_here Y103) hx rfl (hb hby own_d1_141) ) ?_
      show own_Ends _ _ _ _ (T102.setTop (mkF m 143 #[.val (.ref r0), .val (.int (1 : Int32)), .val (.int (3 : Int32)), .val (.int y1), .unset] [(.int (63 : Int32)), (.int y2), (.int ((y1 &&& (15 : Int32)) <<< ((12 : Int32) &&& 31)))]))
      refine own_st (fun t_ => XS.iand (own_here Y103) hx rfl (hb hby own_d1_143) rfl) ?_
      show own_Ends _ _ _ _ (T102.setTop (mkF m 144 #[.val (.ref r0), .val (.int (1 : Int32)), .val (.int (3 : Int32)), .val (.int y1), .unset] [(.int (y2 &&& (63 : Int32))), (.int ((y1 &&& (15 : Int32)) <<< ((12 : Int32) &&& 31)))]))
      refine own_st (fun t_ => XS.bipush (own_here Y103) hx rfl (hb hby own_d1_144) ) ?_
      show own_Ends _ _ _ _ (T102.setTop (mkF m 146 #[.val (.ref r0), .val (.int (1 : Int32)), .val (.int (3 : Int32)), .val (.int y1), .unset] [(.int (6 : Int32)), (.int (y2 &&& (63 : Int32))), (.int ((y1 &&& (15 : Int32)) <<< ((12 : Int32) &&& 31)))]))
      refine own_st (fun t_ => XS.ishl (own_here Y103) hx rfl (hb hby own_d1_146) rfl) ?_
      show own_Ends _ _ _ _ (T102.setTop (mkF m 147 #[.val (.ref r0), .val (.int (1 : Int32)), .val (.int (3 : Int32)), .val (.int y1), .unset] [(.int ((y2 &&& (63 : Int32)) <<< ((6 : Int32) &&& 31))), (.int ((y1 &&& (15 : Int32)) <<< ((12 : Int32) &&& 31)))]))
      refine own_st (fun t_ => XS.ior (own_here Y103) hx rfl (hb hby own_d1_147) rfl) ?_
      show own_Ends _ _ _ _ (T102.setTop (mkF m 148 #[.val (.ref r0), .val (.int (1 : Int32)), .val (.int (3 : Int32)), .val (.int y1), .unset] [(.int (((y1 &&& (15 : Int32)) <<< ((12 : Int32) &&& 31)) ||| ((y2 &&& (63 : Int32)) <<< ((6 : Int32) &&& 31))))]))
      refine own_st (fun t_ => XS.aloadN (own_here Y103) hx rfl (hb hby own_d1_148) rfl rfl) ?_
      show own_Ends _ _ _ _ (T102.setTop (mkF m 149 #[.val (.ref r0), .val (.int (1 : Int32)), .val (.int (3 : Int32)), .val (.int y1), .unset] [(.ref r0), (.int (((y1 &&& (15 : Int32)) <<< ((12 : Int32) &&& 31)) ||| ((y2 &&& (63 : Int32)) <<< ((6 : Int32) &&& 31))))]))
      refine own_st (fun t_ => XS.iloadN (own_here Y103) hx rfl (hb hby own_d1_149) rfl) ?_
      show own_Ends _ _ _ _ (T102.setTop (mkF m 150 #[.val (.ref r0), .val (.int (1 : Int32)), .val (.int (3 : Int32)), .val (.int y1), .unset] [(.int (1 : Int32)), (.ref r0), (.int (((y1 &&& (15 : Int32)) <<< ((12 : Int32) &&& 31)) ||| ((y2 &&& (63 : Int32)) <<< ((6 : Int32) &&& 31))))]))
      refine own_st (fun t_ => XS.iconst (own_here Y103) hx rfl (hb hby own_d1_150) ) ?_
      show own_Ends _ _ _ _ (T102.setTop (mkF m 151 #[.val (.ref r0), .val (.int (1 : Int32)), .val (.int (3 : Int32)), .val (.int y1), .unset] [(.int (2 : Int32)), (.int (1 : Int32)), (.ref r0), (.int (((y1 &&& (15 : Int32)) <<< ((12 : Int32) &&& 31)) ||| ((y2 &&& (63 : Int32)) <<< ((6 : Int32) &&& 31))))]))
      refine own_st (fun t_ => XS.iadd (own_here Y103) hx rfl (hb hby own_d1_151) rfl) ?_
      show own_Ends _ _ _ _ (T102.setTop (mkF m 152 #[.val (.ref r0), .val (.int (1 : Int32)), .val (.int (3 : Int32)), .val (.int y1), .unset] [(.int (3 : Int32)), (.ref r0), (.int (((y1 &&& (15 : Int32)) <<< ((12 : Int32) &&& 31)) ||| ((y2 &&& (63 : Int32)) <<< ((6 : Int32) &&& 31))))]))
      refine own_ldI Y103 hx hZ A (i := 3) (by decide) (by decide) (Nat.le_of_ble_eq_true rfl) (v := (.int y3)) rfl rfl rfl (hb hby own_d1_152) ?_
      show own_Ends _ _ _ _ (T102.setTop (mkF m 153 #[.val (.ref r0), .val (.int (1 : Int32)), .val (.int (3 : Int32)), .val (.int y1), .unset] [(.int y3), (.int (((y1 &&& (15 : Int32)) <<< ((12 : Int32) &&& 31)) ||| ((y2 &&& (63 : Int32)) <<< ((6 : Int32) &&& 31))))]))
      refine own_st (fun t_ => XS.bipush (own_here Y103) hx rfl (hb hby own_d1_153) ) ?_
      show own_Ends _ _ _ _ (T102.setTop (mkF m 155 #[.val (.ref r0), .val (.int (1 : Int32)), .val (.int (3 : Int32)), .val (.int y1), .unset] [(.int (63 : Int32)), (.int y3), (.int (((y1 &&& (15 : Int32)) <<< ((12 : Int32) &&& 31)) ||| ((y2 &&& (63 : Int32)) <<< ((6 : Int32) &&& 31))))]))
      refine own_st (fun t_ => XS.iand (own_here Y103) hx rfl (hb hby own_d1_155) rfl) ?_
      show own_Ends _ _ _ _ (T102.setTop (mkF m 156 #[.val (.ref r0), .val (.int (1 : Int32)), .val (.int (3 : Int32)), .val (.int y1), .unset] [(.int (y3 &&& (63 : Int32))), (.int (((y1 &&& (15 : Int32)) <<< ((12 : Int32) &&& 31)) ||| ((y2 &&& (63 : Int32)) <<< ((6 : Int32) &&& 31))))]))
      refine own_st (fun t_ => XS.ior (own_here Y103) hx rfl (hb hby own_d1_156) rfl) ?_
      show own_Ends _ _ _ _ (T102.setTop (mkF m 157 #[.val (.ref r0), .val (.int (1 : Int32)), .val (.int (3 : Int32)), .val (.int y1), .unset] [(.int ((((y1 &&& (15 : Int32)) <<< ((12 : Int32) &&& 31)) ||| ((y2 &&& (63 : Int32)) <<< ((6 : Int32) &&& 31))) ||| (y3 &&& (63 : Int32))))]))
      refine own_st (fun t_ => XS.istore (own_here Y103) hx rfl (hb hby own_d1_157) rfl (l' := #[.val (.ref r0), .val (.int (1 : Int32)), .val (.int (3 : Int32)), .val (.int y1), .val (.int ((((y1 &&& (15 : Int32)) <<< ((12 : Int32) &&& 31)) ||| ((y2 &&& (63 : Int32)) <<< ((6 : Int32) &&& 31))) ||| (y3 &&& (63 : Int32))))]) rfl) ?_
      show own_Ends _ _ _ _ (T102.setTop (mkF m 159 #[.val (.ref r0), .val (.int (1 : Int32)), .val (.int (3 : Int32)), .val (.int y1), .val (.int ((((y1 &&& (15 : Int32)) <<< ((12 : Int32) &&& 31)) ||| ((y2 &&& (63 : Int32)) <<< ((6 : Int32) &&& 31))) ||| (y3 &&& (63 : Int32))))] []))
      generalize hp : ((((y1 &&& (15 : Int32)) <<< ((12 : Int32) &&& 31)) ||| ((y2 &&& (63 : Int32)) <<< ((6 : Int32) &&& 31))) ||| (y3 &&& (63 : Int32))) = p_
      refine own_st (fun t_ => XS.iload (own_here Y103) hx rfl (hb hby own_d1_159) rfl) ?_
      show own_Ends _ _ _ _ (T102.setTop (mkF m 161 #[.val (.ref r0), .val (.int (1 : Int32)), .val (.int (3 : Int32)), .val (.int y1), .val (.int p_)] [(.int p_)]))
      refine own_st (fun t_ => XS.sipush (own_here Y103) hx rfl (hb hby own_d1_161) ) ?_
      show own_Ends _ _ _ _ (T102.setTop (mkF m 164 #[.val (.ref r0), .val (.int (1 : Int32)), .val (.int (3 : Int32)), .val (.int y1), .val (.int p_)] [(.int (2048 : Int32)), (.int p_)]))
      by_cases c164_108 : p_ < (2048 : Int32)
      ·
       refine own_st (fun t_ => XS.icmpYes (own_here Y103) hx rfl (pc0 := 164) (pc' := 185) rfl (hb hby own_d1_164) rfl (XT.ii_lt_t c164_108) (by decide) (by decide)) ?_
       show own_Ends _ _ _ _ (T102.setTop (mkF m 185 #[.val (.ref r0), .val (.int (1 : Int32)), .val (.int (3 : Int32)), .val (.int y1), .val (.int p_)] []))
       refine own_st (fun t_ => XS.iconst (own_here Y103) hx rfl (hb hby own_d1_185) ) ?_
       show own_Ends _ _ _ _ (T102.setTop (mkF m 186 #[.val (.ref r0), .val (.int (1 : Int32)), .val (.int (3 : Int32)), .val (.int y1), .val (.int p_)] [(.int (0 : Int32))]))
       refine own_retN Y103 hx hlk (t := .boolean) hret (by simp) (hb hby own_d1_186) (by decide) (by decide) ?_
       refine ⟨?_, rfl⟩
       have q0 := c95_94; simp only [own_lt] at q0
       have q1 := c102_95; simp only [own_lt] at q1
       have q2 := c113_101; simp only [own_b_0, own_ct, Bool.not_eq_false, decide_eq_true_eq] at q2
       have q3 := c124_107; simp only [own_b_0, own_ct, Bool.not_eq_false, decide_eq_true_eq] at q3
       have q4 := c164_108; simp only [own_lt] at q4
       have l2048 : (2048 : Int32).toInt = 2048 := rfl
       have l224 : (224 : Int32).toInt = 224 := rfl
       have l239 : (239 : Int32).toInt = 239 := rfl
       have cp := own_cp3 y1 y2 y3; rw [hp] at cp
       have : (own_A3 y1.toInt y2.toInt y3.toInt) = false := by simp only [own_A3, decide_eq_false_iff_not]; omega
       rw [this]; rfl
      ·
       refine own_st (fun t_ => XS.icmpNo (own_here Y103) hx rfl (hb hby own_d1_164) rfl (XT.ii_lt_f c164_108)) ?_
       show own_Ends _ _ _ _ (T102.setTop (mkF m 167 #[.val (.ref r0), .val (.int (1 : Int32)), .val (.int (3 : Int32)), .val (.int y1), .val (.int p_)] []))
       refine own_st (fun t_ => XS.iload (own_here Y103) hx rfl (hb hby own_d1_167) rfl) ?_
       show own_Ends _ _ _ _ (T102.setTop (mkF m 169 #[.val (.ref r0), .val (.int (1 : Int32)), .val (.int (3 : Int32)), .val (.int y1), .val (.int p_)] [(.int p_)]))
       refine own_ldcI Y103 hx hZ hown (hw _ (List.mem_of_getElem? (i := 14) rfl)) rfl (hb hby own_d1_169) ?_
       show own_Ends _ _ _ _ (T102.setTop (mkF m 171 #[.val (.ref r0), .val (.int (1 : Int32)), .val (.int (3 : Int32)), .val (.int y1), .val (.int p_)] [(.int (55296 : Int32)), (.int p_)]))
       by_cases c171_109 : p_ < (55296 : Int32)
       ·
        refine own_st (fun t_ => XS.icmpYes (own_here Y103) hx rfl (pc0 := 171) (pc' := 181) rfl (hb hby own_d1_171) rfl (XT.ii_lt_t c171_109) (by decide) (by decide)) ?_
        show own_Ends _ _ _ _ (T102.setTop (mkF m 181 #[.val (.ref r0), .val (.int (1 : Int32)), .val (.int (3 : Int32)), .val (.int y1), .val (.int p_)] []))
        refine own_st (fun t_ => XS.iconst (own_here Y103) hx rfl (hb hby own_d1_181) ) ?_
        show own_Ends _ _ _ _ (T102.setTop (mkF m 182 #[.val (.ref r0), .val (.int (1 : Int32)), .val (.int (3 : Int32)), .val (.int y1), .val (.int p_)] [(.int (1 : Int32))]))
        refine own_st (fun t_ => XS.goto (own_here Y103) hx rfl (pc0 := 182) (pc' := 186) rfl (hb hby own_d1_182) (by decide) (by decide)) ?_
        show own_Ends _ _ _ _ (T102.setTop (mkF m 186 #[.val (.ref r0), .val (.int (1 : Int32)), .val (.int (3 : Int32)), .val (.int y1), .val (.int p_)] [(.int (1 : Int32))]))
        refine own_retN Y103 hx hlk (t := .boolean) hret (by simp) (hb hby own_d1_186) (by decide) (by decide) ?_
        refine ⟨?_, rfl⟩
        have q0 := c95_94; simp only [own_lt] at q0
        have q1 := c102_95; simp only [own_lt] at q1
        have q2 := c113_101; simp only [own_b_0, own_ct, Bool.not_eq_false, decide_eq_true_eq] at q2
        have q3 := c124_107; simp only [own_b_0, own_ct, Bool.not_eq_false, decide_eq_true_eq] at q3
        have q4 := c164_108; simp only [own_lt] at q4
        have q5 := c171_109; simp only [own_lt] at q5
        have l2048 : (2048 : Int32).toInt = 2048 := rfl
        have l224 : (224 : Int32).toInt = 224 := rfl
        have l239 : (239 : Int32).toInt = 239 := rfl
        have l55296 : (55296 : Int32).toInt = 55296 := rfl
        have cp := own_cp3 y1 y2 y3; rw [hp] at cp
        have : (own_A3 y1.toInt y2.toInt y3.toInt) = true := by simp only [own_A3, decide_eq_true_eq]; omega
        rw [this]; rfl
       ·
        refine own_st (fun t_ => XS.icmpNo (own_here Y103) hx rfl (hb hby own_d1_171) rfl (XT.ii_lt_f c171_109)) ?_
        show own_Ends _ _ _ _ (T102.setTop (mkF m 174 #[.val (.ref r0), .val (.int (1 : Int32)), .val (.int (3 : Int32)), .val (.int y1), .val (.int p_)] []))
        refine own_st (fun t_ => XS.iload (own_here Y103) hx rfl (hb hby own_d1_174) rfl) ?_
        show own_Ends _ _ _ _ (T102.setTop (mkF m 176 #[.val (.ref r0), .val (.int (1 : Int32)), .val (.int (3 : Int32)), .val (.int y1), .val (.int p_)] [(.int p_)]))
        refine own_ldcI Y103 hx hZ hown (hw _ (List.mem_of_getElem? (i := 15) rfl)) rfl (hb hby own_d1_176) ?_
        show own_Ends _ _ _ _ (T102.setTop (mkF m 178 #[.val (.ref r0), .val (.int (1 : Int32)), .val (.int (3 : Int32)), .val (.int y1), .val (.int p_)] [(.int (57343 : Int32)), (.int p_)]))
        by_cases c178_110 : (57343 : Int32) < p_
        ·
         refine own_st (fun t_ => XS.icmpNo (own_here Y103) hx rfl (hb hby own_d1_178) rfl (XT.ii_le_f c178_110)) ?_
         show own_Ends _ _ _ _ (T102.setTop (mkF m 181 #[.val (.ref r0), .val (.int (1 : Int32)), .val (.int (3 : Int32)), .val (.int y1), .val (.int p_)] []))
         refine own_st (fun t_ => XS.iconst (own_here Y103) hx rfl (hb hby own_d1_181) ) ?_
         show own_Ends _ _ _ _ (T102.setTop (mkF m 182 #[.val (.ref r0), .val (.int (1 : Int32)), .val (.int (3 : Int32)), .val (.int y1), .val (.int p_)] [(.int (1 : Int32))]))
         refine own_st (fun t_ => XS.goto (own_here Y103) hx rfl (pc0 := 182) (pc' := 186) rfl (hb hby own_d1_182) (by decide) (by decide)) ?_
         show own_Ends _ _ _ _ (T102.setTop (mkF m 186 #[.val (.ref r0), .val (.int (1 : Int32)), .val (.int (3 : Int32)), .val (.int y1), .val (.int p_)] [(.int (1 : Int32))]))
         refine own_retN Y103 hx hlk (t := .boolean) hret (by simp) (hb hby own_d1_186) (by decide) (by decide) ?_
         refine ⟨?_, rfl⟩
         have q0 := c95_94; simp only [own_lt] at q0
         have q1 := c102_95; simp only [own_lt] at q1
         have q2 := c113_101; simp only [own_b_0, own_ct, Bool.not_eq_false, decide_eq_true_eq] at q2
         have q3 := c124_107; simp only [own_b_0, own_ct, Bool.not_eq_false, decide_eq_true_eq] at q3
         have q4 := c164_108; simp only [own_lt] at q4
         have q5 := c171_109; simp only [own_lt] at q5
         have q6 := c178_110; simp only [own_lt] at q6
         have l2048 : (2048 : Int32).toInt = 2048 := rfl
         have l224 : (224 : Int32).toInt = 224 := rfl
         have l239 : (239 : Int32).toInt = 239 := rfl
         have l55296 : (55296 : Int32).toInt = 55296 := rfl
         have l57343 : (57343 : Int32).toInt = 57343 := rfl
         have cp := own_cp3 y1 y2 y3; rw [hp] at cp
         have : (own_A3 y1.toInt y2.toInt y3.toInt) = true := by simp only [own_A3, decide_eq_true_eq]; omega
         rw [this]; rfl
        ·
         refine own_st (fun t_ => XS.icmpYes (own_here Y103) hx rfl (pc0 := 178) (pc' := 185) rfl (hb hby own_d1_178) rfl (XT.ii_le_t c178_110) (by decide) (by decide)) ?_
         show own_Ends _ _ _ _ (T102.setTop (mkF m 185 #[.val (.ref r0), .val (.int (1 : Int32)), .val (.int (3 : Int32)), .val (.int y1), .val (.int p_)] []))
         refine own_st (fun t_ => XS.iconst (own_here Y103) hx rfl (hb hby own_d1_185) ) ?_
         show own_Ends _ _ _ _ (T102.setTop (mkF m 186 #[.val (.ref r0), .val (.int (1 : Int32)), .val (.int (3 : Int32)), .val (.int y1), .val (.int p_)] [(.int (0 : Int32))]))
         refine own_retN Y103 hx hlk (t := .boolean) hret (by simp) (hb hby own_d1_186) (by decide) (by decide) ?_
         refine ⟨?_, rfl⟩
         have q0 := c95_94; simp only [own_lt] at q0
         have q1 := c102_95; simp only [own_lt] at q1
         have q2 := c113_101; simp only [own_b_0, own_ct, Bool.not_eq_false, decide_eq_true_eq] at q2
         have q3 := c124_107; simp only [own_b_0, own_ct, Bool.not_eq_false, decide_eq_true_eq] at q3
         have q4 := c164_108; simp only [own_lt] at q4
         have q5 := c171_109; simp only [own_lt] at q5
         have q6 := c178_110; simp only [own_lt] at q6
         have l2048 : (2048 : Int32).toInt = 2048 := rfl
         have l224 : (224 : Int32).toInt = 224 := rfl
         have l239 : (239 : Int32).toInt = 239 := rfl
         have l55296 : (55296 : Int32).toInt = 55296 := rfl
         have l57343 : (57343 : Int32).toInt = 57343 := rfl
         have cp := own_cp3 y1 y2 y3; rw [hp] at cp
         have : (own_A3 y1.toInt y2.toInt y3.toInt) = false := by simp only [own_A3, decide_eq_false_iff_not]; omega
         rw [this]; rfl
theorem own_d1_187 : decode method_3_code 187 = .ok (.iload_n 3, 1) := by decide +kernel
theorem own_d1_188 : decode method_3_code 188 = .ok (.sipush 240, 3) := by decide +kernel
theorem own_d1_191 : decode method_3_code 191 = .ok (.if_icmp .lt 43, 3) := by decide +kernel
theorem own_d1_234 : decode method_3_code 234 = .ok (.iconst 0, 1) := by decide +kernel
theorem own_d1_235 : decode method_3_code 235 = .ok (.ireturn, 1) := by decide +kernel
theorem own_d1_194 : decode method_3_code 194 = .ok (.iload_n 3, 1) := by decide +kernel
theorem own_d1_195 : decode method_3_code 195 = .ok (.sipush 247, 3) := by decide +kernel
theorem own_d1_198 : decode method_3_code 198 = .ok (.if_icmp .gt 36, 3) := by decide +kernel
theorem own_d1_201 : decode method_3_code 201 = .ok (.aload_n 0, 1) := by decide +kernel
theorem own_d1_202 : decode method_3_code 202 = .ok (.iload_n 1, 1) := by decide +kernel
theorem own_d1_203 : decode method_3_code 203 = .ok (.iconst 1, 1) := by decide +kernel
theorem own_d1_204 : decode method_3_code 204 = .ok (.iadd, 1) := by decide +kernel
theorem own_d1_205 : decode method_3_code 205 = .ok (.iaload, 1) := by decide +kernel
theorem own_d1_206 : decode method_3_code 206 = .ok (.invokestatic 7, 3) := by decide +kernel
theorem own_d1_209 : decode method_3_code 209 = .ok (.ifCond .eq 25, 3) := by decide +kernel
theorem own_d1_212 : decode method_3_code 212 = .ok (.aload_n 0, 1) := by decide +kernel
theorem own_d1_213 : decode method_3_code 213 = .ok (.iload_n 1, 1) := by decide +kernel
theorem own_d1_214 : decode method_3_code 214 = .ok (.iconst 2, 1) := by decide +kernel
theorem own_d1_215 : decode method_3_code 215 = .ok (.iadd, 1) := by decide +kernel
theorem own_d1_216 : decode method_3_code 216 = .ok (.iaload, 1) := by decide +kernel
theorem own_d1_217 : decode method_3_code 217 = .ok (.invokestatic 7, 3) := by decide +kernel
theorem own_d1_220 : decode method_3_code 220 = .ok (.ifCond .eq 14, 3) := by decide +kernel
theorem own_d1_223 : decode method_3_code 223 = .ok (.aload_n 0, 1) := by decide +kernel
theorem own_d1_224 : decode method_3_code 224 = .ok (.iload_n 1, 1) := by decide +kernel
theorem own_d1_225 : decode method_3_code 225 = .ok (.iconst 3, 1) := by decide +kernel
theorem own_d1_226 : decode method_3_code 226 = .ok (.iadd, 1) := by decide +kernel
theorem own_d1_227 : decode method_3_code 227 = .ok (.iaload, 1) := by decide +kernel
theorem own_d1_228 : decode method_3_code 228 = .ok (.invokestatic 7, 3) := by decide +kernel
theorem own_d1_231 : decode method_3_code 231 = .ok (.ifCond .ne 5, 3) := by decide +kernel
theorem own_d1_236 : decode method_3_code 236 = .ok (.iload_n 3, 1) := by decide +kernel
theorem own_d1_237 : decode method_3_code 237 = .ok (.bipush 7, 2) := by decide +kernel
theorem own_d1_239 : decode method_3_code 239 = .ok (.iand, 1) := by decide +kernel
theorem own_d1_240 : decode method_3_code 240 = .ok (.bipush 18, 2) := by decide +kernel
theorem own_d1_242 : decode method_3_code 242 = .ok (.ishl, 1) := by decide +kernel
theorem own_d1_243 : decode method_3_code 243 = .ok (.aload_n 0, 1) := by decide +kernel
theorem own_d1_244 : decode method_3_code 244 = .ok (.iload_n 1, 1) := by decide +kernel
theorem own_d1_245 : decode method_3_code 245 = .ok (.iconst 1, 1) := by decide +kernel
theorem own_d1_246 : decode method_3_code 246 = .ok (.iadd, 1) := by decide +kernel
theorem own_d1_247 : decode method_3_code 247 = .ok (.iaload, 1) := by decide +kernel
theorem own_d1_248 : decode method_3_code 248 = .ok (.bipush 63, 2) := by decide +kernel
theorem own_d1_250 : decode method_3_code 250 = .ok (.iand, 1) := by decide +kernel
theorem own_d1_251 : decode method_3_code 251 = .ok (.bipush 12, 2) := by decide +kernel
theorem own_d1_253 : decode method_3_code 253 = .ok (.ishl, 1) := by decide +kernel
theorem own_d1_254 : decode method_3_code 254 = .ok (.ior, 1) := by decide +kernel
theorem own_d1_255 : decode method_3_code 255 = .ok (.aload_n 0, 1) := by decide +kernel
theorem own_d1_256 : decode method_3_code 256 = .ok (.iload_n 1, 1) := by decide +kernel
theorem own_d1_257 : decode method_3_code 257 = .ok (.iconst 2, 1) := by decide +kernel
theorem own_d1_258 : decode method_3_code 258 = .ok (.iadd, 1) := by decide +kernel
theorem own_d1_259 : decode method_3_code 259 = .ok (.iaload, 1) := by decide +kernel
theorem own_d1_260 : decode method_3_code 260 = .ok (.bipush 63, 2) := by decide +kernel
theorem own_d1_262 : decode method_3_code 262 = .ok (.iand, 1) := by decide +kernel
theorem own_d1_263 : decode method_3_code 263 = .ok (.bipush 6, 2) := by decide +kernel
theorem own_d1_265 : decode method_3_code 265 = .ok (.ishl, 1) := by decide +kernel
theorem own_d1_266 : decode method_3_code 266 = .ok (.ior, 1) := by decide +kernel
theorem own_d1_267 : decode method_3_code 267 = .ok (.aload_n 0, 1) := by decide +kernel
theorem own_d1_268 : decode method_3_code 268 = .ok (.iload_n 1, 1) := by decide +kernel
theorem own_d1_269 : decode method_3_code 269 = .ok (.iconst 3, 1) := by decide +kernel
theorem own_d1_270 : decode method_3_code 270 = .ok (.iadd, 1) := by decide +kernel
theorem own_d1_271 : decode method_3_code 271 = .ok (.iaload, 1) := by decide +kernel
theorem own_d1_272 : decode method_3_code 272 = .ok (.bipush 63, 2) := by decide +kernel
theorem own_d1_274 : decode method_3_code 274 = .ok (.iand, 1) := by decide +kernel
theorem own_d1_275 : decode method_3_code 275 = .ok (.ior, 1) := by decide +kernel
theorem own_d1_276 : decode method_3_code 276 = .ok (.istore 4, 2) := by decide +kernel
theorem own_d1_278 : decode method_3_code 278 = .ok (.iload 4, 2) := by decide +kernel
theorem own_d1_280 : decode method_3_code 280 = .ok (.ldc 15, 2) := by decide +kernel
theorem own_d1_282 : decode method_3_code 282 = .ok (.if_icmp .lt 14, 3) := by decide +kernel
theorem own_d1_296 : decode method_3_code 296 = .ok (.iconst 0, 1) := by decide +kernel
theorem own_d1_297 : decode method_3_code 297 = .ok (.ireturn, 1) := by decide +kernel
theorem own_d1_285 : decode method_3_code 285 = .ok (.iload 4, 2) := by decide +kernel
theorem own_d1_287 : decode method_3_code 287 = .ok (.ldc 16, 2) := by decide +kernel
theorem own_d1_289 : decode method_3_code 289 = .ok (.if_icmp .gt 7, 3) := by decide +kernel
theorem own_d1_292 : decode method_3_code 292 = .ok (.iconst 1, 1) := by decide +kernel
theorem own_d1_293 : decode method_3_code 293 = .ok (.goto 4, 3) := by decide +kernel
theorem own_ef_own_rm1_0_4 (m : MethodId) (r0 : Addr) : entryFrame m #[(.ref r0), (.int (0 : Int32)), (.int (4 : Int32))] 5 = mkF m 0 #[.val (.ref r0), .val (.int (0 : Int32)), .val (.int (4 : Int32)), .unset, .unset] [] := by first | (simp [entryFrame, mkF, argsToLocals, Value.category]; done) | rfl
def own_Q_own_rm1_0_4 (Z : State) (y0 y1 y2 y3 : Int32) (h0 : Heap) (n0 : Nat) (v : Option Value) (h : Heap) : Prop := v = some (.int (own_b (own_A4 y0.toInt y1.toInt y2.toInt y3.toInt))) ∧ h0 = h
set_option maxRecDepth 65536 in
set_option maxHeartbeats 40000000 in
theorem own_rm1_0_4 (l : Launch) (Z : State) (a0 : Array Value) (hw : ∀ d ∈ tables_1, d.before a0 Z = true) (ws : List Jvm.Cond) (r0 : Addr) (y0 y1 y2 y3 : Int32) (h0 : Heap) (n0 : Nat)  (A : own_A Z h0 r0 .int [(.int y0), (.int y1), (.int y2), (.int y3)]) (g0 : 0 ≤ y0.toInt ∧ y0.toInt ≤ 255) (g1 : 0 ≤ y1.toInt ∧ y1.toInt ≤ 255) (g2 : 0 ≤ y2.toInt ∧ y2.toInt ≤ 255) (g3 : 0 ≤ y3.toInt ∧ y3.toInt ≤ 255) :
    own_Con l Z (⟨"kombos/graph/Utf8IsValidPinLaw", "ok", "([III)Z"⟩ : MethodName) method_3_code 5 (some .boolean) ws ({ frames := 1, cells := 0, slots := 0, locals := 12 } : Room) #[(.ref r0), (.int (0 : Int32)), (.int (4 : Int32))] h0 n0 (own_Q_own_rm1_0_4 Z y0 y1 y2 y3 h0 n0) := by
  refine own_body (plainFor_of_name own_pn1) ?_
  intro p e s m below meth c T0 hx hZ hby hml hown hnm hret hlk Y0
  replace hown : s.vm.findClass "kombos/graph/Utf8IsValidPinLaw" = some m.cls := hown
  replace hnm : meth.name = "ok" := hnm
  rw [own_ef_own_rm1_0_4 m r0]
  show own_Ends _ _ _ _ (T0.setTop (mkF m 0 #[.val (.ref r0), .val (.int (0 : Int32)), .val (.int (4 : Int32)), .unset, .unset] []))
  refine own_st (fun t_ => XS.aloadN (own_here Y0) hx rfl (hb hby own_d1_0) rfl rfl) ?_
  show own_Ends _ _ _ _ (T0.setTop (mkF m 1 #[.val (.ref r0), .val (.int (0 : Int32)), .val (.int (4 : Int32)), .unset, .unset] [(.ref r0)]))
  refine own_st (fun t_ => XS.iloadN (own_here Y0) hx rfl (hb hby own_d1_1) rfl) ?_
  show own_Ends _ _ _ _ (T0.setTop (mkF m 2 #[.val (.ref r0), .val (.int (0 : Int32)), .val (.int (4 : Int32)), .unset, .unset] [(.int (0 : Int32)), (.ref r0)]))
  refine own_ldI Y0 hx hZ A (i := 0) (by decide) (by decide) (Nat.le_of_ble_eq_true rfl) (v := (.int y0)) rfl rfl rfl (hb hby own_d1_2) ?_
  show own_Ends _ _ _ _ (T0.setTop (mkF m 3 #[.val (.ref r0), .val (.int (0 : Int32)), .val (.int (4 : Int32)), .unset, .unset] [(.int y0)]))
  refine own_st (fun t_ => XS.istoreN (own_here Y0) hx rfl (hb hby own_d1_3) rfl (l' := #[.val (.ref r0), .val (.int (0 : Int32)), .val (.int (4 : Int32)), .val (.int y0), .unset]) rfl) ?_
  show own_Ends _ _ _ _ (T0.setTop (mkF m 4 #[.val (.ref r0), .val (.int (0 : Int32)), .val (.int (4 : Int32)), .val (.int y0), .unset] []))
  refine own_st (fun t_ => XS.iloadN (own_here Y0) hx rfl (hb hby own_d1_4) rfl) ?_
  show own_Ends _ _ _ _ (T0.setTop (mkF m 5 #[.val (.ref r0), .val (.int (0 : Int32)), .val (.int (4 : Int32)), .val (.int y0), .unset] [(.int (4 : Int32))]))
  refine own_st (fun t_ => XS.iconst (own_here Y0) hx rfl (hb hby own_d1_5) ) ?_
  show own_Ends _ _ _ _ (T0.setTop (mkF m 6 #[.val (.ref r0), .val (.int (0 : Int32)), .val (.int (4 : Int32)), .val (.int y0), .unset] [(.int (1 : Int32)), (.int (4 : Int32))]))
  refine own_st (fun t_ => XS.icmpYes (own_here Y0) hx rfl (pc0 := 6) (pc' := 22) rfl (hb hby own_d1_6) rfl (XT.ii_ne_t (by decide)) (by decide) (by decide)) ?_
  show own_Ends _ _ _ _ (T0.setTop (mkF m 22 #[.val (.ref r0), .val (.int (0 : Int32)), .val (.int (4 : Int32)), .val (.int y0), .unset] []))
  refine own_st (fun t_ => XS.iloadN (own_here Y0) hx rfl (hb hby own_d1_22) rfl) ?_
  show own_Ends _ _ _ _ (T0.setTop (mkF m 23 #[.val (.ref r0), .val (.int (0 : Int32)), .val (.int (4 : Int32)), .val (.int y0), .unset] [(.int (4 : Int32))]))
  refine own_st (fun t_ => XS.iconst (own_here Y0) hx rfl (hb hby own_d1_23) ) ?_
  show own_Ends _ _ _ _ (T0.setTop (mkF m 24 #[.val (.ref r0), .val (.int (0 : Int32)), .val (.int (4 : Int32)), .val (.int y0), .unset] [(.int (2 : Int32)), (.int (4 : Int32))]))
  refine own_st (fun t_ => XS.icmpYes (own_here Y0) hx rfl (pc0 := 24) (pc' := 86) rfl (hb hby own_d1_24) rfl (XT.ii_ne_t (by decide)) (by decide) (by decide)) ?_
  show own_Ends _ _ _ _ (T0.setTop (mkF m 86 #[.val (.ref r0), .val (.int (0 : Int32)), .val (.int (4 : Int32)), .val (.int y0), .unset] []))
  refine own_st (fun t_ => XS.iloadN (own_here Y0) hx rfl (hb hby own_d1_86) rfl) ?_
  show own_Ends _ _ _ _ (T0.setTop (mkF m 87 #[.val (.ref r0), .val (.int (0 : Int32)), .val (.int (4 : Int32)), .val (.int y0), .unset] [(.int (4 : Int32))]))
  refine own_st (fun t_ => XS.iconst (own_here Y0) hx rfl (hb hby own_d1_87) ) ?_
  show own_Ends _ _ _ _ (T0.setTop (mkF m 88 #[.val (.ref r0), .val (.int (0 : Int32)), .val (.int (4 : Int32)), .val (.int y0), .unset] [(.int (3 : Int32)), (.int (4 : Int32))]))
  refine own_st (fun t_ => XS.icmpYes (own_here Y0) hx rfl (pc0 := 88) (pc' := 187) rfl (hb hby own_d1_88) rfl (XT.ii_ne_t (by decide)) (by decide) (by decide)) ?_
  show own_Ends _ _ _ _ (T0.setTop (mkF m 187 #[.val (.ref r0), .val (.int (0 : Int32)), .val (.int (4 : Int32)), .val (.int y0), .unset] []))
  refine own_st (fun t_ => XS.iloadN (own_here Y0) hx rfl (hb hby own_d1_187) rfl) ?_
  show own_Ends _ _ _ _ (T0.setTop (mkF m 188 #[.val (.ref r0), .val (.int (0 : Int32)), .val (.int (4 : Int32)), .val (.int y0), .unset] [(.int y0)]))
  refine own_st (fun t_ => XS.sipush (own_here Y0) hx rfl (hb hby own_d1_188) ) ?_
  show own_Ends _ _ _ _ (T0.setTop (mkF m 191 #[.val (.ref r0), .val (.int (0 : Int32)), .val (.int (4 : Int32)), .val (.int y0), .unset] [(.int (240 : Int32)), (.int y0)]))
  by_cases c191_111 : y0 < (240 : Int32)
  ·
   refine own_st (fun t_ => XS.icmpYes (own_here Y0) hx rfl (pc0 := 191) (pc' := 234) rfl (hb hby own_d1_191) rfl (XT.ii_lt_t c191_111) (by decide) (by decide)) ?_
   show own_Ends _ _ _ _ (T0.setTop (mkF m 234 #[.val (.ref r0), .val (.int (0 : Int32)), .val (.int (4 : Int32)), .val (.int y0), .unset] []))
   refine own_st (fun t_ => XS.iconst (own_here Y0) hx rfl (hb hby own_d1_234) ) ?_
   show own_Ends _ _ _ _ (T0.setTop (mkF m 235 #[.val (.ref r0), .val (.int (0 : Int32)), .val (.int (4 : Int32)), .val (.int y0), .unset] [(.int (0 : Int32))]))
   refine own_retN Y0 hx hlk (t := .boolean) hret (by simp) (hb hby own_d1_235) (by decide) (by decide) ?_
   refine ⟨?_, rfl⟩
   have q0 := c191_111; simp only [own_lt] at q0
   have l240 : (240 : Int32).toInt = 240 := rfl
   have : (own_A4 y0.toInt y1.toInt y2.toInt y3.toInt) = false := by simp only [own_A4, decide_eq_false_iff_not]; omega
   rw [this]; rfl
  ·
   refine own_st (fun t_ => XS.icmpNo (own_here Y0) hx rfl (hb hby own_d1_191) rfl (XT.ii_lt_f c191_111)) ?_
   show own_Ends _ _ _ _ (T0.setTop (mkF m 194 #[.val (.ref r0), .val (.int (0 : Int32)), .val (.int (4 : Int32)), .val (.int y0), .unset] []))
   refine own_st (fun t_ => XS.iloadN (own_here Y0) hx rfl (hb hby own_d1_194) rfl) ?_
   show own_Ends _ _ _ _ (T0.setTop (mkF m 195 #[.val (.ref r0), .val (.int (0 : Int32)), .val (.int (4 : Int32)), .val (.int y0), .unset] [(.int y0)]))
   refine own_st (fun t_ => XS.sipush (own_here Y0) hx rfl (hb hby own_d1_195) ) ?_
   show own_Ends _ _ _ _ (T0.setTop (mkF m 198 #[.val (.ref r0), .val (.int (0 : Int32)), .val (.int (4 : Int32)), .val (.int y0), .unset] [(.int (247 : Int32)), (.int y0)]))
   by_cases c198_112 : (247 : Int32) < y0
   ·
    refine own_st (fun t_ => XS.icmpYes (own_here Y0) hx rfl (pc0 := 198) (pc' := 234) rfl (hb hby own_d1_198) rfl (XT.ii_gt_t c198_112) (by decide) (by decide)) ?_
    show own_Ends _ _ _ _ (T0.setTop (mkF m 234 #[.val (.ref r0), .val (.int (0 : Int32)), .val (.int (4 : Int32)), .val (.int y0), .unset] []))
    refine own_st (fun t_ => XS.iconst (own_here Y0) hx rfl (hb hby own_d1_234) ) ?_
    show own_Ends _ _ _ _ (T0.setTop (mkF m 235 #[.val (.ref r0), .val (.int (0 : Int32)), .val (.int (4 : Int32)), .val (.int y0), .unset] [(.int (0 : Int32))]))
    refine own_retN Y0 hx hlk (t := .boolean) hret (by simp) (hb hby own_d1_235) (by decide) (by decide) ?_
    refine ⟨?_, rfl⟩
    have q0 := c191_111; simp only [own_lt] at q0
    have q1 := c198_112; simp only [own_lt] at q1
    have l240 : (240 : Int32).toInt = 240 := rfl
    have l247 : (247 : Int32).toInt = 247 := rfl
    have : (own_A4 y0.toInt y1.toInt y2.toInt y3.toInt) = false := by simp only [own_A4, decide_eq_false_iff_not]; omega
    rw [this]; rfl
   ·
    refine own_st (fun t_ => XS.icmpNo (own_here Y0) hx rfl (hb hby own_d1_198) rfl (XT.ii_gt_f c198_112)) ?_
    show own_Ends _ _ _ _ (T0.setTop (mkF m 201 #[.val (.ref r0), .val (.int (0 : Int32)), .val (.int (4 : Int32)), .val (.int y0), .unset] []))
    refine own_st (fun t_ => XS.aloadN (own_here Y0) hx rfl (hb hby own_d1_201) rfl rfl) ?_
    show own_Ends _ _ _ _ (T0.setTop (mkF m 202 #[.val (.ref r0), .val (.int (0 : Int32)), .val (.int (4 : Int32)), .val (.int y0), .unset] [(.ref r0)]))
    refine own_st (fun t_ => XS.iloadN (own_here Y0) hx rfl (hb hby own_d1_202) rfl) ?_
    show own_Ends _ _ _ _ (T0.setTop (mkF m 203 #[.val (.ref r0), .val (.int (0 : Int32)), .val (.int (4 : Int32)), .val (.int y0), .unset] [(.int (0 : Int32)), (.ref r0)]))
    refine own_st (fun t_ => XS.iconst (own_here Y0) hx rfl (hb hby own_d1_203) ) ?_
    show own_Ends _ _ _ _ (T0.setTop (mkF m 204 #[.val (.ref r0), .val (.int (0 : Int32)), .val (.int (4 : Int32)), .val (.int y0), .unset] [(.int (1 : Int32)), (.int (0 : Int32)), (.ref r0)]))
    refine own_st (fun t_ => XS.iadd (own_here Y0) hx rfl (hb hby own_d1_204) rfl) ?_
    show own_Ends _ _ _ _ (T0.setTop (mkF m 205 #[.val (.ref r0), .val (.int (0 : Int32)), .val (.int (4 : Int32)), .val (.int y0), .unset] [(.int (1 : Int32)), (.ref r0)]))
    refine own_ldI Y0 hx hZ A (i := 1) (by decide) (by decide) (Nat.le_of_ble_eq_true rfl) (v := (.int y1)) rfl rfl rfl (hb hby own_d1_205) ?_
    show own_Ends _ _ _ _ (T0.setTop (mkF m 206 #[.val (.ref r0), .val (.int (0 : Int32)), .val (.int (4 : Int32)), .val (.int y0), .unset] [(.int y1)]))
    refine own_callS Y0 hx hZ (y := (⟨"kombos/graph/Utf8IsValidPinLaw", "cont", "(I)Z"⟩ : MethodName)) hown (hw _ (List.mem_of_getElem? (i := 11) rfl)) (hw _ (List.mem_of_getElem? (i := 12) rfl)) (hw _ (List.mem_of_getElem? (i := 5) rfl)) (hw _ (List.mem_of_getElem? (i := 13) rfl)) (by decide) (argsL := [(.int y1)]) (rest := []) (own_rm3 l Z a0 hw [] y1  h0 n0  ) (W := 0) (by decide) (by decide) (by decide) (by decide) rfl (by rw [hml]; rfl) (lenOf own_pd0 rfl) rfl (by show 2 * 0 + _ ≤ _; exact Nat.le_of_eq rfl) (hb hby own_d1_206) (fun T113 h115 v116 Y114 q117 => ?_)
    obtain ⟨rfl, rfl⟩ := q117
    show own_Ends _ _ _ _ (T113.setTop (mkF m 209 #[.val (.ref r0), .val (.int (0 : Int32)), .val (.int (4 : Int32)), .val (.int y0), .unset] [(.int (own_b (own_ct y1.toInt)))]))
    by_cases c209_118 : (own_b (own_ct y1.toInt)) = (0 : Int32)
    ·
     refine own_st (fun t_ => XS.ifYes (own_here Y114) hx rfl (pc0 := 209) (pc' := 234) rfl (hb hby own_d1_209) rfl (XT.i0_eq_t c209_118) (by decide) (by decide)) ?_
     show own_Ends _ _ _ _ (T113.setTop (mkF m 234 #[.val (.ref r0), .val (.int (0 : Int32)), .val (.int (4 : Int32)), .val (.int y0), .unset] []))
     refine own_st (fun t_ => XS.iconst (own_here Y114) hx rfl (hb hby own_d1_234) ) ?_
     show own_Ends _ _ _ _ (T113.setTop (mkF m 235 #[.val (.ref r0), .val (.int (0 : Int32)), .val (.int (4 : Int32)), .val (.int y0), .unset] [(.int (0 : Int32))]))
     refine own_retN Y114 hx hlk (t := .boolean) hret (by simp) (hb hby own_d1_235) (by decide) (by decide) ?_
     refine ⟨?_, rfl⟩
     have q0 := c191_111; simp only [own_lt] at q0
     have q1 := c198_112; simp only [own_lt] at q1
     have q2 := c209_118; simp only [own_b_0, own_ct, decide_eq_false_iff_not] at q2
     have l240 : (240 : Int32).toInt = 240 := rfl
     have l247 : (247 : Int32).toInt = 247 := rfl
     have : (own_A4 y0.toInt y1.toInt y2.toInt y3.toInt) = false := by simp only [own_A4, decide_eq_false_iff_not]; omega
     rw [this]; rfl
    ·
     refine own_st (fun t_ => XS.ifNo (own_here Y114) hx rfl (hb hby own_d1_209) rfl (XT.i0_eq_f c209_118)) ?_
     show own_Ends _ _ _ _ (T113.setTop (mkF m 212 #[.val (.ref r0), .val (.int (0 : Int32)), .val (.int (4 : Int32)), .val (.int y0), .unset] []))
     refine own_st (fun t_ => XS.aloadN (own_here Y114) hx rfl (hb hby own_d1_212) rfl rfl) ?_
     show own_Ends _ _ _ _ (T113.setTop (mkF m 213 #[.val (.ref r0), .val (.int (0 : Int32)), .val (.int (4 : Int32)), .val (.int y0), .unset] [(.ref r0)]))
     refine own_st (fun t_ => XS.iloadN (own_here Y114) hx rfl (hb hby own_d1_213) rfl) ?_
     show own_Ends _ _ _ _ (T113.setTop (mkF m 214 #[.val (.ref r0), .val (.int (0 : Int32)), .val (.int (4 : Int32)), .val (.int y0), .unset] [(.int (0 : Int32)), (.ref r0)]))
     refine own_st (fun t_ => XS.iconst (own_here Y114) hx rfl (hb hby own_d1_214) ) ?_
     show own_Ends _ _ _ _ (T113.setTop (mkF m 215 #[.val (.ref r0), .val (.int (0 : Int32)), .val (.int (4 : Int32)), .val (.int y0), .unset] [(.int (2 : Int32)), (.int (0 : Int32)), (.ref r0)]))
     refine own_st (fun t_ => XS.iadd (own_here Y114) hx rfl (hb hby own_d1_215) rfl) ?_
     show own_Ends _ _ _ _ (T113.setTop (mkF m 216 #[.val (.ref r0), .val (.int (0 : Int32)), .val (.int (4 : Int32)), .val (.int y0), .unset] [(.int (2 : Int32)), (.ref r0)]))
     refine own_ldI Y114 hx hZ A (i := 2) (by decide) (by decide) (Nat.le_of_ble_eq_true rfl) (v := (.int y2)) rfl rfl rfl (hb hby own_d1_216) ?_
     show own_Ends _ _ _ _ (T113.setTop (mkF m 217 #[.val (.ref r0), .val (.int (0 : Int32)), .val (.int (4 : Int32)), .val (.int y0), .unset] [(.int y2)]))
     refine own_callS Y114 hx hZ (y := (⟨"kombos/graph/Utf8IsValidPinLaw", "cont", "(I)Z"⟩ : MethodName)) hown (hw _ (List.mem_of_getElem? (i := 11) rfl)) (hw _ (List.mem_of_getElem? (i := 12) rfl)) (hw _ (List.mem_of_getElem? (i := 5) rfl)) (hw _ (List.mem_of_getElem? (i := 13) rfl)) (by decide) (argsL := [(.int y2)]) (rest := []) (own_rm3 l Z a0 hw [] y2  h0 n0  ) (W := 0) (by decide) (by decide) (by decide) (by decide) rfl (by rw [hml]; rfl) (lenOf own_pd0 rfl) rfl (by show 2 * 0 + _ ≤ _; exact Nat.le_of_eq rfl) (hb hby own_d1_217) (fun T119 h121 v122 Y120 q123 => ?_)
     obtain ⟨rfl, rfl⟩ := q123
     show own_Ends _ _ _ _ (T119.setTop (mkF m 220 #[.val (.ref r0), .val (.int (0 : Int32)), .val (.int (4 : Int32)), .val (.int y0), .unset] [(.int (own_b (own_ct y2.toInt)))]))
     by_cases c220_124 : (own_b (own_ct y2.toInt)) = (0 : Int32)
     ·
      refine own_st (fun t_ => XS.ifYes (own_here Y120) hx rfl (pc0 := 220) (pc' := 234) rfl (hb hby own_d1_220) rfl (XT.i0_eq_t c220_124) (by decide) (by decide)) ?_
      show own_Ends _ _ _ _ (T119.setTop (mkF m 234 #[.val (.ref r0), .val (.int (0 : Int32)), .val (.int (4 : Int32)), .val (.int y0), .unset] []))
      refine own_st (fun t_ => XS.iconst (own_here Y120) hx rfl (hb hby own_d1_234) ) ?_
      show own_Ends _ _ _ _ (T119.setTop (mkF m 235 #[.val (.ref r0), .val (.int (0 : Int32)), .val (.int (4 : Int32)), .val (.int y0), .unset] [(.int (0 : Int32))]))
      refine own_retN Y120 hx hlk (t := .boolean) hret (by simp) (hb hby own_d1_235) (by decide) (by decide) ?_
      refine ⟨?_, rfl⟩
      have q0 := c191_111; simp only [own_lt] at q0
      have q1 := c198_112; simp only [own_lt] at q1
      have q2 := c209_118; simp only [own_b_0, own_ct, Bool.not_eq_false, decide_eq_true_eq] at q2
      have q3 := c220_124; simp only [own_b_0, own_ct, decide_eq_false_iff_not] at q3
      have l240 : (240 : Int32).toInt = 240 := rfl
      have l247 : (247 : Int32).toInt = 247 := rfl
      have : (own_A4 y0.toInt y1.toInt y2.toInt y3.toInt) = false := by simp only [own_A4, decide_eq_false_iff_not]; omega
      rw [this]; rfl
     ·
      refine own_st (fun t_ => XS.ifNo (own_here Y120) hx rfl (hb hby own_d1_220) rfl (XT.i0_eq_f c220_124)) ?_
      show own_Ends _ _ _ _ (T119.setTop (mkF m 223 #[.val (.ref r0), .val (.int (0 : Int32)), .val (.int (4 : Int32)), .val (.int y0), .unset] []))
      refine own_st (fun t_ => XS.aloadN (own_here Y120) hx rfl (hb hby own_d1_223) rfl rfl) ?_
      show own_Ends _ _ _ _ (T119.setTop (mkF m 224 #[.val (.ref r0), .val (.int (0 : Int32)), .val (.int (4 : Int32)), .val (.int y0), .unset] [(.ref r0)]))
      refine own_st (fun t_ => XS.iloadN (own_here Y120) hx rfl (hb hby own_d1_224) rfl) ?_
      show own_Ends _ _ _ _ (T119.setTop (mkF m 225 #[.val (.ref r0), .val (.int (0 : Int32)), .val (.int (4 : Int32)), .val (.int y0), .unset] [(.int (0 : Int32)), (.ref r0)]))
      refine own_st (fun t_ => XS.iconst (own_here Y120) hx rfl (hb hby own_d1_225) ) ?_
      show own_Ends _ _ _ _ (T119.setTop (mkF m 226 #[.val (.ref r0), .val (.int (0 : Int32)), .val (.int (4 : Int32)), .val (.int y0), .unset] [(.int (3 : Int32)), (.int (0 : Int32)), (.ref r0)]))
      refine own_st (fun t_ => XS.iadd (own_here Y120) hx rfl (hb hby own_d1_226) rfl) ?_
      show own_Ends _ _ _ _ (T119.setTop (mkF m 227 #[.val (.ref r0), .val (.int (0 : Int32)), .val (.int (4 : Int32)), .val (.int y0), .unset] [(.int (3 : Int32)), (.ref r0)]))
      refine own_ldI Y120 hx hZ A (i := 3) (by decide) (by decide) (Nat.le_of_ble_eq_true rfl) (v := (.int y3)) rfl rfl rfl (hb hby own_d1_227) ?_
      show own_Ends _ _ _ _ (T119.setTop (mkF m 228 #[.val (.ref r0), .val (.int (0 : Int32)), .val (.int (4 : Int32)), .val (.int y0), .unset] [(.int y3)]))
      refine own_callS Y120 hx hZ (y := (⟨"kombos/graph/Utf8IsValidPinLaw", "cont", "(I)Z"⟩ : MethodName)) hown (hw _ (List.mem_of_getElem? (i := 11) rfl)) (hw _ (List.mem_of_getElem? (i := 12) rfl)) (hw _ (List.mem_of_getElem? (i := 5) rfl)) (hw _ (List.mem_of_getElem? (i := 13) rfl)) (by decide) (argsL := [(.int y3)]) (rest := []) (own_rm3 l Z a0 hw [] y3  h0 n0  ) (W := 0) (by decide) (by decide) (by decide) (by decide) rfl (by rw [hml]; rfl) (lenOf own_pd0 rfl) rfl (by show 2 * 0 + _ ≤ _; exact Nat.le_of_eq rfl) (hb hby own_d1_228) (fun T125 h127 v128 Y126 q129 => ?_)
      obtain ⟨rfl, rfl⟩ := q129
      show own_Ends _ _ _ _ (T125.setTop (mkF m 231 #[.val (.ref r0), .val (.int (0 : Int32)), .val (.int (4 : Int32)), .val (.int y0), .unset] [(.int (own_b (own_ct y3.toInt)))]))
      by_cases c231_130 : (own_b (own_ct y3.toInt)) = (0 : Int32)
      ·
       refine own_st (fun t_ => XS.ifNo (own_here Y126) hx rfl (hb hby own_d1_231) rfl (XT.i0_ne_f c231_130)) ?_
       show own_Ends _ _ _ _ (T125.setTop (mkF m 234 #[.val (.ref r0), .val (.int (0 : Int32)), .val (.int (4 : Int32)), .val (.int y0), .unset] []))
       refine own_st (fun t_ => XS.iconst (own_here Y126) hx rfl (hb hby own_d1_234) ) ?_
       show own_Ends _ _ _ _ (T125.setTop (mkF m 235 #[.val (.ref r0), .val (.int (0 : Int32)), .val (.int (4 : Int32)), .val (.int y0), .unset] [(.int (0 : Int32))]))
       refine own_retN Y126 hx hlk (t := .boolean) hret (by simp) (hb hby own_d1_235) (by decide) (by decide) ?_
       refine ⟨?_, rfl⟩
       have q0 := c191_111; simp only [own_lt] at q0
       have q1 := c198_112; simp only [own_lt] at q1
       have q2 := c209_118; simp only [own_b_0, own_ct, Bool.not_eq_false, decide_eq_true_eq] at q2
       have q3 := c220_124; simp only [own_b_0, own_ct, Bool.not_eq_false, decide_eq_true_eq] at q3
       have q4 := c231_130; simp only [own_b_0, own_ct, decide_eq_false_iff_not] at q4
       have l240 : (240 : Int32).toInt = 240 := rfl
       have l247 : (247 : Int32).toInt = 247 := rfl
       have : (own_A4 y0.toInt y1.toInt y2.toInt y3.toInt) = false := by simp only [own_A4, decide_eq_false_iff_not]; omega
       rw [this]; rfl
      ·
       refine own_st (fun t_ => XS.ifYes (own_here Y126) hx rfl (pc0 := 231) (pc' := 236) rfl (hb hby own_d1_231) rfl (XT.i0_ne_t c231_130) (by decide) (by decide)) ?_
       show own_Ends _ _ _ _ (T125.setTop (mkF m 236 #[.val (.ref r0), .val (.int (0 : Int32)), .val (.int (4 : Int32)), .val (.int y0), .unset] []))
       refine own_st (fun t_ => XS.iloadN (own_here Y126) hx rfl (hb hby own_d1_236) rfl) ?_
       show own_Ends _ _ _ _ (T125.setTop (mkF m 237 #[.val (.ref r0), .val (.int (0 : Int32)), .val (.int (4 : Int32)), .val (.int y0), .unset] [(.int y0)]))
       refine own_st (fun t_ => XS.bipush (own_here Y126) hx rfl (hb hby own_d1_237) ) ?_
       show own_Ends _ _ _ _ (T125.setTop (mkF m 239 #[.val (.ref r0), .val (.int (0 : Int32)), .val (.int (4 : Int32)), .val (.int y0), .unset] [(.int (7 : Int32)), (.int y0)]))
       refine own_st (fun t_ => XS.iand (own_here Y126) hx rfl (hb hby own_d1_239) rfl) ?_
       show own_Ends _ _ _ _ (T125.setTop (mkF m 240 #[.val (.ref r0), .val (.int (0 : Int32)), .val (.int (4 : Int32)), .val (.int y0), .unset] [(.int (y0 &&& (7 : Int32)))]))
       refine own_st (fun t_ => XS.bipush (own_here Y126) hx rfl (hb hby own_d1_240) ) ?_
       show own_Ends _ _ _ _ (T125.setTop (mkF m 242 #[.val (.ref r0), .val (.int (0 : Int32)), .val (.int (4 : Int32)), .val (.int y0), .unset] [(.int (18 : Int32)), (.int (y0 &&& (7 : Int32)))]))
       refine own_st (fun t_ => XS.ishl (own_here Y126) hx rfl (hb hby own_d1_242) rfl) ?_
       show own_Ends _ _ _ _ (T125.setTop (mkF m 243 #[.val (.ref r0), .val (.int (0 : Int32)), .val (.int (4 : Int32)), .val (.int y0), .unset] [(.int ((y0 &&& (7 : Int32)) <<< ((18 : Int32) &&& 31)))]))
       refine own_st (fun t_ => XS.aloadN (own_here Y126) hx rfl (hb hby own_d1_243) rfl rfl) ?_
       show own_Ends _ _ _ _ (T125.setTop (mkF m 244 #[.val (.ref r0), .val (.int (0 : Int32)), .val (.int (4 : Int32)), .val (.int y0), .unset] [(.ref r0), (.int ((y0 &&& (7 : Int32)) <<< ((18 : Int32) &&& 31)))]))
       refine own_st (fun t_ => XS.iloadN (own_here Y126) hx rfl (hb hby own_d1_244) rfl) ?_
       show own_Ends _ _ _ _ (T125.setTop (mkF m 245 #[.val (.ref r0), .val (.int (0 : Int32)), .val (.int (4 : Int32)), .val (.int y0), .unset] [(.int (0 : Int32)), (.ref r0), (.int ((y0 &&& (7 : Int32)) <<< ((18 : Int32) &&& 31)))]))
       refine own_st (fun t_ => XS.iconst (own_here Y126) hx rfl (hb hby own_d1_245) ) ?_
       show own_Ends _ _ _ _ (T125.setTop (mkF m 246 #[.val (.ref r0), .val (.int (0 : Int32)), .val (.int (4 : Int32)), .val (.int y0), .unset] [(.int (1 : Int32)), (.int (0 : Int32)), (.ref r0), (.int ((y0 &&& (7 : Int32)) <<< ((18 : Int32) &&& 31)))]))
       refine own_st (fun t_ => XS.iadd (own_here Y126) hx rfl (hb hby own_d1_246) rfl) ?_
       show own_Ends _ _ _ _ (T125.setTop (mkF m 247 #[.val (.ref r0), .val (.int (0 : Int32)), .val (.int (4 : Int32)), .val (.int y0), .unset] [(.int (1 : Int32)), (.ref r0), (.int ((y0 &&& (7 : Int32)) <<< ((18 : Int32) &&& 31)))]))
       refine own_ldI Y126 hx hZ A (i := 1) (by decide) (by decide) (Nat.le_of_ble_eq_true rfl) (v := (.int y1)) rfl rfl rfl (hb hby own_d1_247) ?_
       show own_Ends _ _ _ _ (T125.setTop (mkF m 248 #[.val (.ref r0), .val (.int (0 : Int32)), .val (.int (4 : Int32)), .val (.int y0), .unset] [(.int y1), (.int ((y0 &&& (7 : Int32)) <<< ((18 : Int32) &&& 31)))]))
       refine own_st (fun t_ => XS.bipush (own_here Y126) hx rfl (hb hby own_d1_248) ) ?_
       show own_Ends _ _ _ _ (T125.setTop (mkF m 250 #[.val (.ref r0), .val (.int (0 : Int32)), .val (.int (4 : Int32)), .val (.int y0), .unset] [(.int (63 : Int32)), (.int y1), (.int ((y0 &&& (7 : Int32)) <<< ((18 : Int32) &&& 31)))]))
       refine own_st (fun t_ => XS.iand (own_here Y126) hx rfl (hb hby own_d1_250) rfl) ?_
       show own_Ends _ _ _ _ (T125.setTop (mkF m 251 #[.val (.ref r0), .val (.int (0 : Int32)), .val (.int (4 : Int32)), .val (.int y0), .unset] [(.int (y1 &&& (63 : Int32))), (.int ((y0 &&& (7 : Int32)) <<< ((18 : Int32) &&& 31)))]))
       refine own_st (fun t_ => XS.bipush (own_here Y126) hx rfl (hb hby own_d1_251) ) ?_
       show own_Ends _ _ _ _ (T125.setTop (mkF m 253 #[.val (.ref r0), .val (.int (0 : Int32)), .val (.int (4 : Int32)), .val (.int y0), .unset] [(.int (12 : Int32)), (.int (y1 &&& (63 : Int32))), (.int ((y0 &&& (7 : Int32)) <<< ((18 : Int32) &&& 31)))]))
       refine own_st (fun t_ => XS.ishl (own_here Y126) hx rfl (hb hby own_d1_253) rfl) ?_
       show own_Ends _ _ _ _ (T125.setTop (mkF m 254 #[.val (.ref r0), .val (.int (0 : Int32)), .val (.int (4 : Int32)), .val (.int y0), .unset] [(.int ((y1 &&& (63 : Int32)) <<< ((12 : Int32) &&& 31))), (.int ((y0 &&& (7 : Int32)) <<< ((18 : Int32) &&& 31)))]))
       refine own_st (fun t_ => XS.ior (own_here Y126) hx rfl (hb hby own_d1_254) rfl) ?_
       show own_Ends _ _ _ _ (T125.setTop (mkF m 255 #[.val (.ref r0), .val (.int (0 : Int32)), .val (.int (4 : Int32)), .val (.int y0), .unset] [(.int (((y0 &&& (7 : Int32)) <<< ((18 : Int32) &&& 31)) ||| ((y1 &&& (63 : Int32)) <<< ((12 : Int32) &&& 31))))]))
       refine own_st (fun t_ => XS.aloadN (own_here Y126) hx rfl (hb hby own_d1_255) rfl rfl) ?_
       show own_Ends _ _ _ _ (T125.setTop (mkF m 256 #[.val (.ref r0), .val (.int (0 : Int32)), .val (.int (4 : Int32)), .val (.int y0), .unset] [(.ref r0), (.int (((y0 &&& (7 : Int32)) <<< ((18 : Int32) &&& 31)) ||| ((y1 &&& (63 : Int32)) <<< ((12 : Int32) &&& 31))))]))
       refine own_st (fun t_ => XS.iloadN (own_here Y126) hx rfl (hb hby own_d1_256) rfl) ?_
       show own_Ends _ _ _ _ (T125.setTop (mkF m 257 #[.val (.ref r0), .val (.int (0 : Int32)), .val (.int (4 : Int32)), .val (.int y0), .unset] [(.int (0 : Int32)), (.ref r0), (.int (((y0 &&& (7 : Int32)) <<< ((18 : Int32) &&& 31)) ||| ((y1 &&& (63 : Int32)) <<< ((12 : Int32) &&& 31))))]))
       refine own_st (fun t_ => XS.iconst (own_here Y126) hx rfl (hb hby own_d1_257) ) ?_
       show own_Ends _ _ _ _ (T125.setTop (mkF m 258 #[.val (.ref r0), .val (.int (0 : Int32)), .val (.int (4 : Int32)), .val (.int y0), .unset] [(.int (2 : Int32)), (.int (0 : Int32)), (.ref r0), (.int (((y0 &&& (7 : Int32)) <<< ((18 : Int32) &&& 31)) ||| ((y1 &&& (63 : Int32)) <<< ((12 : Int32) &&& 31))))]))
       refine own_st (fun t_ => XS.iadd (own_here Y126) hx rfl (hb hby own_d1_258) rfl) ?_
       show own_Ends _ _ _ _ (T125.setTop (mkF m 259 #[.val (.ref r0), .val (.int (0 : Int32)), .val (.int (4 : Int32)), .val (.int y0), .unset] [(.int (2 : Int32)), (.ref r0), (.int (((y0 &&& (7 : Int32)) <<< ((18 : Int32) &&& 31)) ||| ((y1 &&& (63 : Int32)) <<< ((12 : Int32) &&& 31))))]))
       refine own_ldI Y126 hx hZ A (i := 2) (by decide) (by decide) (Nat.le_of_ble_eq_true rfl) (v := (.int y2)) rfl rfl rfl (hb hby own_d1_259) ?_
       show own_Ends _ _ _ _ (T125.setTop (mkF m 260 #[.val (.ref r0), .val (.int (0 : Int32)), .val (.int (4 : Int32)), .val (.int y0), .unset] [(.int y2), (.int (((y0 &&& (7 : Int32)) <<< ((18 : Int32) &&& 31)) ||| ((y1 &&& (63 : Int32)) <<< ((12 : Int32) &&& 31))))]))
       refine own_st (fun t_ => XS.bipush (own_here Y126) hx rfl (hb hby own_d1_260) ) ?_
       show own_Ends _ _ _ _ (T125.setTop (mkF m 262 #[.val (.ref r0), .val (.int (0 : Int32)), .val (.int (4 : Int32)), .val (.int y0), .unset] [(.int (63 : Int32)), (.int y2), (.int (((y0 &&& (7 : Int32)) <<< ((18 : Int32) &&& 31)) ||| ((y1 &&& (63 : Int32)) <<< ((12 : Int32) &&& 31))))]))
       refine own_st (fun t_ => XS.iand (own_here Y126) hx rfl (hb hby own_d1_262) rfl) ?_
       show own_Ends _ _ _ _ (T125.setTop (mkF m 263 #[.val (.ref r0), .val (.int (0 : Int32)), .val (.int (4 : Int32)), .val (.int y0), .unset] [(.int (y2 &&& (63 : Int32))), (.int (((y0 &&& (7 : Int32)) <<< ((18 : Int32) &&& 31)) ||| ((y1 &&& (63 : Int32)) <<< ((12 : Int32) &&& 31))))]))
       refine own_st (fun t_ => XS.bipush (own_here Y126) hx rfl (hb hby own_d1_263) ) ?_
       show own_Ends _ _ _ _ (T125.setTop (mkF m 265 #[.val (.ref r0), .val (.int (0 : Int32)), .val (.int (4 : Int32)), .val (.int y0), .unset] [(.int (6 : Int32)), (.int (y2 &&& (63 : Int32))), (.int (((y0 &&& (7 : Int32)) <<< ((18 : Int32) &&& 31)) ||| ((y1 &&& (63 : Int32)) <<< ((12 : Int32) &&& 31))))]))
       refine own_st (fun t_ => XS.ishl (own_here Y126) hx rfl (hb hby own_d1_265) rfl) ?_
       show own_Ends _ _ _ _ (T125.setTop (mkF m 266 #[.val (.ref r0), .val (.int (0 : Int32)), .val (.int (4 : Int32)), .val (.int y0), .unset] [(.int ((y2 &&& (63 : Int32)) <<< ((6 : Int32) &&& 31))), (.int (((y0 &&& (7 : Int32)) <<< ((18 : Int32) &&& 31)) ||| ((y1 &&& (63 : Int32)) <<< ((12 : Int32) &&& 31))))]))
       refine own_st (fun t_ => XS.ior (own_here Y126) hx rfl (hb hby own_d1_266) rfl) ?_
       show own_Ends _ _ _ _ (T125.setTop (mkF m 267 #[.val (.ref r0), .val (.int (0 : Int32)), .val (.int (4 : Int32)), .val (.int y0), .unset] [(.int ((((y0 &&& (7 : Int32)) <<< ((18 : Int32) &&& 31)) ||| ((y1 &&& (63 : Int32)) <<< ((12 : Int32) &&& 31))) ||| ((y2 &&& (63 : Int32)) <<< ((6 : Int32) &&& 31))))]))
       refine own_st (fun t_ => XS.aloadN (own_here Y126) hx rfl (hb hby own_d1_267) rfl rfl) ?_
       show own_Ends _ _ _ _ (T125.setTop (mkF m 268 #[.val (.ref r0), .val (.int (0 : Int32)), .val (.int (4 : Int32)), .val (.int y0), .unset] [(.ref r0), (.int ((((y0 &&& (7 : Int32)) <<< ((18 : Int32) &&& 31)) ||| ((y1 &&& (63 : Int32)) <<< ((12 : Int32) &&& 31))) ||| ((y2 &&& (63 : Int32)) <<< ((6 : Int32) &&& 31))))]))
       refine own_st (fun t_ => XS.iloadN (own_here Y126) hx rfl (hb hby own_d1_268) rfl) ?_
       show own_Ends _ _ _ _ (T125.setTop (mkF m 269 #[.val (.ref r0), .val (.int (0 : Int32)), .val (.int (4 : Int32)), .val (.int y0), .unset] [(.int (0 : Int32)), (.ref r0), (.int ((((y0 &&& (7 : Int32)) <<< ((18 : Int32) &&& 31)) ||| ((y1 &&& (63 : Int32)) <<< ((12 : Int32) &&& 31))) ||| ((y2 &&& (63 : Int32)) <<< ((6 : Int32) &&& 31))))]))
       refine own_st (fun t_ => XS.iconst (own_here Y126) hx rfl (hb hby own_d1_269) ) ?_
       show own_Ends _ _ _ _ (T125.setTop (mkF m 270 #[.val (.ref r0), .val (.int (0 : Int32)), .val (.int (4 : Int32)), .val (.int y0), .unset] [(.int (3 : Int32)), (.int (0 : Int32)), (.ref r0), (.int ((((y0 &&& (7 : Int32)) <<< ((18 : Int32) &&& 31)) ||| ((y1 &&& (63 : Int32)) <<< ((12 : Int32) &&& 31))) ||| ((y2 &&& (63 : Int32)) <<< ((6 : Int32) &&& 31))))]))
       refine own_st (fun t_ => XS.iadd (own_here Y126) hx rfl (hb hby own_d1_270) rfl) ?_
       show own_Ends _ _ _ _ (T125.setTop (mkF m 271 #[.val (.ref r0), .val (.int (0 : Int32)), .val (.int (4 : Int32)), .val (.int y0), .unset] [(.int (3 : Int32)), (.ref r0), (.int ((((y0 &&& (7 : Int32)) <<< ((18 : Int32) &&& 31)) ||| ((y1 &&& (63 : Int32)) <<< ((12 : Int32) &&& 31))) ||| ((y2 &&& (63 : Int32)) <<< ((6 : Int32) &&& 31))))]))
       refine own_ldI Y126 hx hZ A (i := 3) (by decide) (by decide) (Nat.le_of_ble_eq_true rfl) (v := (.int y3)) rfl rfl rfl (hb hby own_d1_271) ?_
       show own_Ends _ _ _ _ (T125.setTop (mkF m 272 #[.val (.ref r0), .val (.int (0 : Int32)), .val (.int (4 : Int32)), .val (.int y0), .unset] [(.int y3), (.int ((((y0 &&& (7 : Int32)) <<< ((18 : Int32) &&& 31)) ||| ((y1 &&& (63 : Int32)) <<< ((12 : Int32) &&& 31))) ||| ((y2 &&& (63 : Int32)) <<< ((6 : Int32) &&& 31))))]))
       refine own_st (fun t_ => XS.bipush (own_here Y126) hx rfl (hb hby own_d1_272) ) ?_
       show own_Ends _ _ _ _ (T125.setTop (mkF m 274 #[.val (.ref r0), .val (.int (0 : Int32)), .val (.int (4 : Int32)), .val (.int y0), .unset] [(.int (63 : Int32)), (.int y3), (.int ((((y0 &&& (7 : Int32)) <<< ((18 : Int32) &&& 31)) ||| ((y1 &&& (63 : Int32)) <<< ((12 : Int32) &&& 31))) ||| ((y2 &&& (63 : Int32)) <<< ((6 : Int32) &&& 31))))]))
       refine own_st (fun t_ => XS.iand (own_here Y126) hx rfl (hb hby own_d1_274) rfl) ?_
       show own_Ends _ _ _ _ (T125.setTop (mkF m 275 #[.val (.ref r0), .val (.int (0 : Int32)), .val (.int (4 : Int32)), .val (.int y0), .unset] [(.int (y3 &&& (63 : Int32))), (.int ((((y0 &&& (7 : Int32)) <<< ((18 : Int32) &&& 31)) ||| ((y1 &&& (63 : Int32)) <<< ((12 : Int32) &&& 31))) ||| ((y2 &&& (63 : Int32)) <<< ((6 : Int32) &&& 31))))]))
       refine own_st (fun t_ => XS.ior (own_here Y126) hx rfl (hb hby own_d1_275) rfl) ?_
       show own_Ends _ _ _ _ (T125.setTop (mkF m 276 #[.val (.ref r0), .val (.int (0 : Int32)), .val (.int (4 : Int32)), .val (.int y0), .unset] [(.int (((((y0 &&& (7 : Int32)) <<< ((18 : Int32) &&& 31)) ||| ((y1 &&& (63 : Int32)) <<< ((12 : Int32) &&& 31))) ||| ((y2 &&& (63 : Int32)) <<< ((6 : Int32) &&& 31))) ||| (y3 &&& (63 : Int32))))]))
       refine own_st (fun t_ => XS.istore (own_here Y126) hx rfl (hb hby own_d1_276) rfl (l' := #[.val (.ref r0), .val (.int (0 : Int32)), .val (.int (4 : Int32)), .val (.int y0), .val (.int (((((y0 &&& (7 : Int32)) <<< ((18 : Int32) &&& 31)) ||| ((y1 &&& (63 : Int32)) <<< ((12 : Int32) &&& 31))) ||| ((y2 &&& (63 : Int32)) <<< ((6 : Int32) &&& 31))) ||| (y3 &&& (63 : Int32))))]) rfl) ?_
       show own_Ends _ _ _ _ (T125.setTop (mkF m 278 #[.val (.ref r0), .val (.int (0 : Int32)), .val (.int (4 : Int32)), .val (.int y0), .val (.int (((((y0 &&& (7 : Int32)) <<< ((18 : Int32) &&& 31)) ||| ((y1 &&& (63 : Int32)) <<< ((12 : Int32) &&& 31))) ||| ((y2 &&& (63 : Int32)) <<< ((6 : Int32) &&& 31))) ||| (y3 &&& (63 : Int32))))] []))
       generalize hp : (((((y0 &&& (7 : Int32)) <<< ((18 : Int32) &&& 31)) ||| ((y1 &&& (63 : Int32)) <<< ((12 : Int32) &&& 31))) ||| ((y2 &&& (63 : Int32)) <<< ((6 : Int32) &&& 31))) ||| (y3 &&& (63 : Int32))) = p_
       refine own_st (fun t_ => XS.iload (own_here Y126) hx rfl (hb hby own_d1_278) rfl) ?_
       show own_Ends _ _ _ _ (T125.setTop (mkF m 280 #[.val (.ref r0), .val (.int (0 : Int32)), .val (.int (4 : Int32)), .val (.int y0), .val (.int p_)] [(.int p_)]))
       refine own_ldcI Y126 hx hZ hown (hw _ (List.mem_of_getElem? (i := 16) rfl)) rfl (hb hby own_d1_280) ?_
       show own_Ends _ _ _ _ (T125.setTop (mkF m 282 #[.val (.ref r0), .val (.int (0 : Int32)), .val (.int (4 : Int32)), .val (.int y0), .val (.int p_)] [(.int (65536 : Int32)), (.int p_)]))
       by_cases c282_131 : p_ < (65536 : Int32)
       ·
        refine own_st (fun t_ => XS.icmpYes (own_here Y126) hx rfl (pc0 := 282) (pc' := 296) rfl (hb hby own_d1_282) rfl (XT.ii_lt_t c282_131) (by decide) (by decide)) ?_
        show own_Ends _ _ _ _ (T125.setTop (mkF m 296 #[.val (.ref r0), .val (.int (0 : Int32)), .val (.int (4 : Int32)), .val (.int y0), .val (.int p_)] []))
        refine own_st (fun t_ => XS.iconst (own_here Y126) hx rfl (hb hby own_d1_296) ) ?_
        show own_Ends _ _ _ _ (T125.setTop (mkF m 297 #[.val (.ref r0), .val (.int (0 : Int32)), .val (.int (4 : Int32)), .val (.int y0), .val (.int p_)] [(.int (0 : Int32))]))
        refine own_retN Y126 hx hlk (t := .boolean) hret (by simp) (hb hby own_d1_297) (by decide) (by decide) ?_
        refine ⟨?_, rfl⟩
        have q0 := c191_111; simp only [own_lt] at q0
        have q1 := c198_112; simp only [own_lt] at q1
        have q2 := c209_118; simp only [own_b_0, own_ct, Bool.not_eq_false, decide_eq_true_eq] at q2
        have q3 := c220_124; simp only [own_b_0, own_ct, Bool.not_eq_false, decide_eq_true_eq] at q3
        have q4 := c231_130; simp only [own_b_0, own_ct, Bool.not_eq_false, decide_eq_true_eq] at q4
        have q5 := c282_131; simp only [own_lt] at q5
        have l240 : (240 : Int32).toInt = 240 := rfl
        have l247 : (247 : Int32).toInt = 247 := rfl
        have l65536 : (65536 : Int32).toInt = 65536 := rfl
        have cp := own_cp4 y0 y1 y2 y3; rw [hp] at cp
        have : (own_A4 y0.toInt y1.toInt y2.toInt y3.toInt) = false := by simp only [own_A4, decide_eq_false_iff_not]; omega
        rw [this]; rfl
       ·
        refine own_st (fun t_ => XS.icmpNo (own_here Y126) hx rfl (hb hby own_d1_282) rfl (XT.ii_lt_f c282_131)) ?_
        show own_Ends _ _ _ _ (T125.setTop (mkF m 285 #[.val (.ref r0), .val (.int (0 : Int32)), .val (.int (4 : Int32)), .val (.int y0), .val (.int p_)] []))
        refine own_st (fun t_ => XS.iload (own_here Y126) hx rfl (hb hby own_d1_285) rfl) ?_
        show own_Ends _ _ _ _ (T125.setTop (mkF m 287 #[.val (.ref r0), .val (.int (0 : Int32)), .val (.int (4 : Int32)), .val (.int y0), .val (.int p_)] [(.int p_)]))
        refine own_ldcI Y126 hx hZ hown (hw _ (List.mem_of_getElem? (i := 17) rfl)) rfl (hb hby own_d1_287) ?_
        show own_Ends _ _ _ _ (T125.setTop (mkF m 289 #[.val (.ref r0), .val (.int (0 : Int32)), .val (.int (4 : Int32)), .val (.int y0), .val (.int p_)] [(.int (1114111 : Int32)), (.int p_)]))
        by_cases c289_132 : (1114111 : Int32) < p_
        ·
         refine own_st (fun t_ => XS.icmpYes (own_here Y126) hx rfl (pc0 := 289) (pc' := 296) rfl (hb hby own_d1_289) rfl (XT.ii_gt_t c289_132) (by decide) (by decide)) ?_
         show own_Ends _ _ _ _ (T125.setTop (mkF m 296 #[.val (.ref r0), .val (.int (0 : Int32)), .val (.int (4 : Int32)), .val (.int y0), .val (.int p_)] []))
         refine own_st (fun t_ => XS.iconst (own_here Y126) hx rfl (hb hby own_d1_296) ) ?_
         show own_Ends _ _ _ _ (T125.setTop (mkF m 297 #[.val (.ref r0), .val (.int (0 : Int32)), .val (.int (4 : Int32)), .val (.int y0), .val (.int p_)] [(.int (0 : Int32))]))
         refine own_retN Y126 hx hlk (t := .boolean) hret (by simp) (hb hby own_d1_297) (by decide) (by decide) ?_
         refine ⟨?_, rfl⟩
         have q0 := c191_111; simp only [own_lt] at q0
         have q1 := c198_112; simp only [own_lt] at q1
         have q2 := c209_118; simp only [own_b_0, own_ct, Bool.not_eq_false, decide_eq_true_eq] at q2
         have q3 := c220_124; simp only [own_b_0, own_ct, Bool.not_eq_false, decide_eq_true_eq] at q3
         have q4 := c231_130; simp only [own_b_0, own_ct, Bool.not_eq_false, decide_eq_true_eq] at q4
         have q5 := c282_131; simp only [own_lt] at q5
         have q6 := c289_132; simp only [own_lt] at q6
         have l1114111 : (1114111 : Int32).toInt = 1114111 := rfl
         have l240 : (240 : Int32).toInt = 240 := rfl
         have l247 : (247 : Int32).toInt = 247 := rfl
         have l65536 : (65536 : Int32).toInt = 65536 := rfl
         have cp := own_cp4 y0 y1 y2 y3; rw [hp] at cp
         have : (own_A4 y0.toInt y1.toInt y2.toInt y3.toInt) = false := by simp only [own_A4, decide_eq_false_iff_not]; omega
         rw [this]; rfl
        ·
         refine own_st (fun t_ => XS.icmpNo (own_here Y126) hx rfl (hb hby own_d1_289) rfl (XT.ii_gt_f c289_132)) ?_
         show own_Ends _ _ _ _ (T125.setTop (mkF m 292 #[.val (.ref r0), .val (.int (0 : Int32)), .val (.int (4 : Int32)), .val (.int y0), .val (.int p_)] []))
         refine own_st (fun t_ => XS.iconst (own_here Y126) hx rfl (hb hby own_d1_292) ) ?_
         show own_Ends _ _ _ _ (T125.setTop (mkF m 293 #[.val (.ref r0), .val (.int (0 : Int32)), .val (.int (4 : Int32)), .val (.int y0), .val (.int p_)] [(.int (1 : Int32))]))
         refine own_st (fun t_ => XS.goto (own_here Y126) hx rfl (pc0 := 293) (pc' := 297) rfl (hb hby own_d1_293) (by decide) (by decide)) ?_
         show own_Ends _ _ _ _ (T125.setTop (mkF m 297 #[.val (.ref r0), .val (.int (0 : Int32)), .val (.int (4 : Int32)), .val (.int y0), .val (.int p_)] [(.int (1 : Int32))]))
         refine own_retN Y126 hx hlk (t := .boolean) hret (by simp) (hb hby own_d1_297) (by decide) (by decide) ?_
         refine ⟨?_, rfl⟩
         have q0 := c191_111; simp only [own_lt] at q0
         have q1 := c198_112; simp only [own_lt] at q1
         have q2 := c209_118; simp only [own_b_0, own_ct, Bool.not_eq_false, decide_eq_true_eq] at q2
         have q3 := c220_124; simp only [own_b_0, own_ct, Bool.not_eq_false, decide_eq_true_eq] at q3
         have q4 := c231_130; simp only [own_b_0, own_ct, Bool.not_eq_false, decide_eq_true_eq] at q4
         have q5 := c282_131; simp only [own_lt] at q5
         have q6 := c289_132; simp only [own_lt] at q6
         have l1114111 : (1114111 : Int32).toInt = 1114111 := rfl
         have l240 : (240 : Int32).toInt = 240 := rfl
         have l247 : (247 : Int32).toInt = 247 := rfl
         have l65536 : (65536 : Int32).toInt = 65536 := rfl
         have cp := own_cp4 y0 y1 y2 y3; rw [hp] at cp
         have : (own_A4 y0.toInt y1.toInt y2.toInt y3.toInt) = true := by simp only [own_A4, decide_eq_true_eq]; omega
         rw [this]; rfl
theorem own_pd1 : parseMethodDescriptor "([III)Z" = some ⟨[(.array .int), .int, .int], some .boolean⟩ := by decide +kernel
theorem own_pd2 : parseMethodDescriptor "([BII)Z" = some ⟨[(.array .byte), .int, .int], some .boolean⟩ := by decide +kernel
theorem own_ef_own_rm0 (m : MethodId) (x0 : Int32) (x1 : Int32) (x2 : Int32) (x3 : Int32) (x4 : Int32) : entryFrame m #[(.int x0), (.int x1), (.int x2), (.int x3), (.int x4)] maxLocals = mkF m 0 #[.val (.int x0), .val (.int x1), .val (.int x2), .val (.int x3), .val (.int x4), .unset, .unset, .unset, .unset, .unset, .unset, .unset, .unset] [] := by first | (simp [entryFrame, mkF, argsToLocals, Value.category, maxLocals]; done) | rfl
def own_Q_own_rm0 (Z : State) (x0 : Int32) (x1 : Int32) (x2 : Int32) (x3 : Int32) (x4 : Int32) (h0 : Heap) (n0 : Nat) (v : Option Value) (h : Heap) : Prop := v = some (.int 1)
set_option maxRecDepth 65536 in
set_option maxHeartbeats 40000000 in
theorem own_rm0 (l : Launch) (Z : State) (a0 : Array Value) (hw : ∀ d ∈ tables_1, d.before a0 Z = true) (ws : List Jvm.Cond) (x0 : Int32) (x1 : Int32) (x2 : Int32) (x3 : Int32) (x4 : Int32)  (h0 : Heap) (n0 : Nat) (Z0 : n0 ≤ h0.size)  :
    own_Con l Z x code maxLocals ret ws room_1 #[(.int x0), (.int x1), (.int x2), (.int x3), (.int x4)] h0 n0 (own_Q_own_rm0 Z x0 x1 x2 x3 x4 h0 n0) := by
  refine own_body (plainFor_of_name own_pn1) ?_
  intro p e s m below meth c T0 hx hZ hby hml hown hnm hret hlk Y0
  replace hown : s.vm.findClass "kombos/graph/Utf8IsValidPinLaw" = some m.cls := hown
  replace hml : c.maxLocals = 13 := hml
  replace hret : meth.sig.returnType = some .boolean := hret
  rw [own_ef_own_rm0 m x0 x1 x2 x3 x4]
  show own_Ends _ _ _ _ (T0.setTop (mkF m 0 #[.val (.int x0), .val (.int x1), .val (.int x2), .val (.int x3), .val (.int x4), .unset, .unset, .unset, .unset, .unset, .unset, .unset, .unset] []))
  refine own_st (fun t_ => XS.iload (own_here Y0) hx rfl (hb hby at_0) rfl) ?_
  show own_Ends _ _ _ _ (T0.setTop (mkF m 2 #[.val (.int x0), .val (.int x1), .val (.int x2), .val (.int x3), .val (.int x4), .unset, .unset, .unset, .unset, .unset, .unset, .unset, .unset] [(.int x4)]))
  refine own_ldcI Y0 hx hZ hown (hw _ (List.mem_of_getElem? (i := 0) rfl)) rfl (hb hby at_2) ?_
  show own_Ends _ _ _ _ (T0.setTop (mkF m 4 #[.val (.int x0), .val (.int x1), .val (.int x2), .val (.int x3), .val (.int x4), .unset, .unset, .unset, .unset, .unset, .unset, .unset, .unset] [(.int (2147483647 : Int32)), (.int x4)]))
  refine own_st (fun t_ => XS.iand (own_here Y0) hx rfl (hb hby at_4) rfl) ?_
  show own_Ends _ _ _ _ (T0.setTop (mkF m 5 #[.val (.int x0), .val (.int x1), .val (.int x2), .val (.int x3), .val (.int x4), .unset, .unset, .unset, .unset, .unset, .unset, .unset, .unset] [(.int (x4 &&& (2147483647 : Int32)))]))
  refine own_st (fun t_ => XS.iconst (own_here Y0) hx rfl (hb hby at_5) ) ?_
  show own_Ends _ _ _ _ (T0.setTop (mkF m 6 #[.val (.int x0), .val (.int x1), .val (.int x2), .val (.int x3), .val (.int x4), .unset, .unset, .unset, .unset, .unset, .unset, .unset, .unset] [(.int (5 : Int32)), (.int (x4 &&& (2147483647 : Int32)))]))
  refine own_irem Y0 hx rfl (hb hby at_6) rfl (by decide) ?_
  show own_Ends _ _ _ _ (T0.setTop (mkF m 7 #[.val (.int x0), .val (.int x1), .val (.int x2), .val (.int x3), .val (.int x4), .unset, .unset, .unset, .unset, .unset, .unset, .unset, .unset] [(.int ((x4 &&& (2147483647 : Int32)) % (5 : Int32)))]))
  refine own_st (fun t_ => XS.istore (own_here Y0) hx rfl (hb hby at_7) rfl (l' := #[.val (.int x0), .val (.int x1), .val (.int x2), .val (.int x3), .val (.int x4), .val (.int ((x4 &&& (2147483647 : Int32)) % (5 : Int32))), .unset, .unset, .unset, .unset, .unset, .unset, .unset]) rfl) ?_
  show own_Ends _ _ _ _ (T0.setTop (mkF m 9 #[.val (.int x0), .val (.int x1), .val (.int x2), .val (.int x3), .val (.int x4), .val (.int ((x4 &&& (2147483647 : Int32)) % (5 : Int32))), .unset, .unset, .unset, .unset, .unset, .unset, .unset] []))
  generalize hn_ : ((x4 &&& (2147483647 : Int32)) % (5 : Int32)) = n_
  have hn5 : n_ = 0 ∨ n_ = 1 ∨ n_ = 2 ∨ n_ = 3 ∨ n_ = 4 := by
    have q := c_mask x4 2147483647 31 (by decide) (by decide)
    have r := (c_irem (x4 &&& 2147483647) 5 5 rfl).1 (by rw [q]; exact Int.emod_nonneg _ (by decide))
    rw [hn_] at r
    have : n_.toInt = 0 ∨ n_.toInt = 1 ∨ n_.toInt = 2 ∨ n_.toInt = 3 ∨ n_.toInt = 4 := by omega
    simp only [own_eq]
    exact this
  refine own_st (fun t_ => XS.iconst (own_here Y0) hx rfl (hb hby at_9) ) ?_
  show own_Ends _ _ _ _ (T0.setTop (mkF m 10 #[.val (.int x0), .val (.int x1), .val (.int x2), .val (.int x3), .val (.int x4), .val (.int n_), .unset, .unset, .unset, .unset, .unset, .unset, .unset] [(.int (4 : Int32))]))
  refine own_newP Y0 hx hZ (hw _ (List.mem_of_getElem? (i := 1) rfl)) rfl (hb hby at_10) rfl (by decide) (nz := 4) (cap := 4) (by decide) (by decide) (by decide) (by decide) (by decide) (ty := .int) rfl (fun T133 h135 b138 eb139 Y134 E136 A137 => ?_)
  have g140 : n0 ≤ b138 := by rw [eb139]; exact Z0
  replace A137 : own_A Z h135 b138 .int [(.int (0 : Int32)), (.int (0 : Int32)), (.int (0 : Int32)), (.int (0 : Int32))] := A137
  show own_Ends _ _ _ _ (T133.setTop (mkF m 12 #[.val (.int x0), .val (.int x1), .val (.int x2), .val (.int x3), .val (.int x4), .val (.int n_), .unset, .unset, .unset, .unset, .unset, .unset, .unset] [(.ref b138)]))
  refine own_st (fun t_ => XS.astore (own_here Y134) hx rfl (hb hby at_12) rfl rfl (l' := #[.val (.int x0), .val (.int x1), .val (.int x2), .val (.int x3), .val (.int x4), .val (.int n_), .val (.ref b138), .unset, .unset, .unset, .unset, .unset, .unset]) rfl) ?_
  show own_Ends _ _ _ _ (T133.setTop (mkF m 14 #[.val (.int x0), .val (.int x1), .val (.int x2), .val (.int x3), .val (.int x4), .val (.int n_), .val (.ref b138), .unset, .unset, .unset, .unset, .unset, .unset] []))
  refine own_st (fun t_ => XS.aload (own_here Y134) hx rfl (hb hby at_14) rfl rfl) ?_
  show own_Ends _ _ _ _ (T133.setTop (mkF m 16 #[.val (.int x0), .val (.int x1), .val (.int x2), .val (.int x3), .val (.int x4), .val (.int n_), .val (.ref b138), .unset, .unset, .unset, .unset, .unset, .unset] [(.ref b138)]))
  refine own_st (fun t_ => XS.iconst (own_here Y134) hx rfl (hb hby at_16) ) ?_
  show own_Ends _ _ _ _ (T133.setTop (mkF m 17 #[.val (.int x0), .val (.int x1), .val (.int x2), .val (.int x3), .val (.int x4), .val (.int n_), .val (.ref b138), .unset, .unset, .unset, .unset, .unset, .unset] [(.int (0 : Int32)), (.ref b138)]))
  refine own_st (fun t_ => XS.iloadN (own_here Y134) hx rfl (hb hby at_17) rfl) ?_
  show own_Ends _ _ _ _ (T133.setTop (mkF m 18 #[.val (.int x0), .val (.int x1), .val (.int x2), .val (.int x3), .val (.int x4), .val (.int n_), .val (.ref b138), .unset, .unset, .unset, .unset, .unset, .unset] [(.int x0), (.int (0 : Int32)), (.ref b138)]))
  refine own_st (fun t_ => XS.sipush (own_here Y134) hx rfl (hb hby at_18) ) ?_
  show own_Ends _ _ _ _ (T133.setTop (mkF m 21 #[.val (.int x0), .val (.int x1), .val (.int x2), .val (.int x3), .val (.int x4), .val (.int n_), .val (.ref b138), .unset, .unset, .unset, .unset, .unset, .unset] [(.int (255 : Int32)), (.int x0), (.int (0 : Int32)), (.ref b138)]))
  refine own_st (fun t_ => XS.iand (own_here Y134) hx rfl (hb hby at_21) rfl) ?_
  show own_Ends _ _ _ _ (T133.setTop (mkF m 22 #[.val (.int x0), .val (.int x1), .val (.int x2), .val (.int x3), .val (.int x4), .val (.int n_), .val (.ref b138), .unset, .unset, .unset, .unset, .unset, .unset] [(.int (x0 &&& (255 : Int32))), (.int (0 : Int32)), (.ref b138)]))
  generalize hy0 : (x0 &&& (255 : Int32)) = y0
  have gy0 : 0 ≤ y0.toInt ∧ y0.toInt ≤ 255 := hy0 ▸ c_and x0 255 (by decide)
  refine own_stI Y134 hx hZ A137 g140 (i := 0) (by decide) (by decide) (Nat.le_of_ble_eq_true rfl) rfl rfl (hb hby at_22) (fun T141 h143 Y142 W144 A145 => ?_)
  replace A145 : own_A Z h143 b138 .int [(.int y0), (.int (0 : Int32)), (.int (0 : Int32)), (.int (0 : Int32))] := A145
  show own_Ends _ _ _ _ (T141.setTop (mkF m 23 #[.val (.int x0), .val (.int x1), .val (.int x2), .val (.int x3), .val (.int x4), .val (.int n_), .val (.ref b138), .unset, .unset, .unset, .unset, .unset, .unset] []))
  refine own_st (fun t_ => XS.aload (own_here Y142) hx rfl (hb hby at_23) rfl rfl) ?_
  show own_Ends _ _ _ _ (T141.setTop (mkF m 25 #[.val (.int x0), .val (.int x1), .val (.int x2), .val (.int x3), .val (.int x4), .val (.int n_), .val (.ref b138), .unset, .unset, .unset, .unset, .unset, .unset] [(.ref b138)]))
  refine own_st (fun t_ => XS.iconst (own_here Y142) hx rfl (hb hby at_25) ) ?_
  show own_Ends _ _ _ _ (T141.setTop (mkF m 26 #[.val (.int x0), .val (.int x1), .val (.int x2), .val (.int x3), .val (.int x4), .val (.int n_), .val (.ref b138), .unset, .unset, .unset, .unset, .unset, .unset] [(.int (1 : Int32)), (.ref b138)]))
  refine own_st (fun t_ => XS.iloadN (own_here Y142) hx rfl (hb hby at_26) rfl) ?_
  show own_Ends _ _ _ _ (T141.setTop (mkF m 27 #[.val (.int x0), .val (.int x1), .val (.int x2), .val (.int x3), .val (.int x4), .val (.int n_), .val (.ref b138), .unset, .unset, .unset, .unset, .unset, .unset] [(.int x1), (.int (1 : Int32)), (.ref b138)]))
  refine own_st (fun t_ => XS.sipush (own_here Y142) hx rfl (hb hby at_27) ) ?_
  show own_Ends _ _ _ _ (T141.setTop (mkF m 30 #[.val (.int x0), .val (.int x1), .val (.int x2), .val (.int x3), .val (.int x4), .val (.int n_), .val (.ref b138), .unset, .unset, .unset, .unset, .unset, .unset] [(.int (255 : Int32)), (.int x1), (.int (1 : Int32)), (.ref b138)]))
  refine own_st (fun t_ => XS.iand (own_here Y142) hx rfl (hb hby at_30) rfl) ?_
  show own_Ends _ _ _ _ (T141.setTop (mkF m 31 #[.val (.int x0), .val (.int x1), .val (.int x2), .val (.int x3), .val (.int x4), .val (.int n_), .val (.ref b138), .unset, .unset, .unset, .unset, .unset, .unset] [(.int (x1 &&& (255 : Int32))), (.int (1 : Int32)), (.ref b138)]))
  generalize hy1 : (x1 &&& (255 : Int32)) = y1
  have gy1 : 0 ≤ y1.toInt ∧ y1.toInt ≤ 255 := hy1 ▸ c_and x1 255 (by decide)
  refine own_stI Y142 hx hZ A145 g140 (i := 1) (by decide) (by decide) (Nat.le_of_ble_eq_true rfl) rfl rfl (hb hby at_31) (fun T146 h148 Y147 W149 A150 => ?_)
  replace A150 : own_A Z h148 b138 .int [(.int y0), (.int y1), (.int (0 : Int32)), (.int (0 : Int32))] := A150
  show own_Ends _ _ _ _ (T146.setTop (mkF m 32 #[.val (.int x0), .val (.int x1), .val (.int x2), .val (.int x3), .val (.int x4), .val (.int n_), .val (.ref b138), .unset, .unset, .unset, .unset, .unset, .unset] []))
  refine own_st (fun t_ => XS.aload (own_here Y147) hx rfl (hb hby at_32) rfl rfl) ?_
  show own_Ends _ _ _ _ (T146.setTop (mkF m 34 #[.val (.int x0), .val (.int x1), .val (.int x2), .val (.int x3), .val (.int x4), .val (.int n_), .val (.ref b138), .unset, .unset, .unset, .unset, .unset, .unset] [(.ref b138)]))
  refine own_st (fun t_ => XS.iconst (own_here Y147) hx rfl (hb hby at_34) ) ?_
  show own_Ends _ _ _ _ (T146.setTop (mkF m 35 #[.val (.int x0), .val (.int x1), .val (.int x2), .val (.int x3), .val (.int x4), .val (.int n_), .val (.ref b138), .unset, .unset, .unset, .unset, .unset, .unset] [(.int (2 : Int32)), (.ref b138)]))
  refine own_st (fun t_ => XS.iloadN (own_here Y147) hx rfl (hb hby at_35) rfl) ?_
  show own_Ends _ _ _ _ (T146.setTop (mkF m 36 #[.val (.int x0), .val (.int x1), .val (.int x2), .val (.int x3), .val (.int x4), .val (.int n_), .val (.ref b138), .unset, .unset, .unset, .unset, .unset, .unset] [(.int x2), (.int (2 : Int32)), (.ref b138)]))
  refine own_st (fun t_ => XS.sipush (own_here Y147) hx rfl (hb hby at_36) ) ?_
  show own_Ends _ _ _ _ (T146.setTop (mkF m 39 #[.val (.int x0), .val (.int x1), .val (.int x2), .val (.int x3), .val (.int x4), .val (.int n_), .val (.ref b138), .unset, .unset, .unset, .unset, .unset, .unset] [(.int (255 : Int32)), (.int x2), (.int (2 : Int32)), (.ref b138)]))
  refine own_st (fun t_ => XS.iand (own_here Y147) hx rfl (hb hby at_39) rfl) ?_
  show own_Ends _ _ _ _ (T146.setTop (mkF m 40 #[.val (.int x0), .val (.int x1), .val (.int x2), .val (.int x3), .val (.int x4), .val (.int n_), .val (.ref b138), .unset, .unset, .unset, .unset, .unset, .unset] [(.int (x2 &&& (255 : Int32))), (.int (2 : Int32)), (.ref b138)]))
  generalize hy2 : (x2 &&& (255 : Int32)) = y2
  have gy2 : 0 ≤ y2.toInt ∧ y2.toInt ≤ 255 := hy2 ▸ c_and x2 255 (by decide)
  refine own_stI Y147 hx hZ A150 g140 (i := 2) (by decide) (by decide) (Nat.le_of_ble_eq_true rfl) rfl rfl (hb hby at_40) (fun T151 h153 Y152 W154 A155 => ?_)
  replace A155 : own_A Z h153 b138 .int [(.int y0), (.int y1), (.int y2), (.int (0 : Int32))] := A155
  show own_Ends _ _ _ _ (T151.setTop (mkF m 41 #[.val (.int x0), .val (.int x1), .val (.int x2), .val (.int x3), .val (.int x4), .val (.int n_), .val (.ref b138), .unset, .unset, .unset, .unset, .unset, .unset] []))
  refine own_st (fun t_ => XS.aload (own_here Y152) hx rfl (hb hby at_41) rfl rfl) ?_
  show own_Ends _ _ _ _ (T151.setTop (mkF m 43 #[.val (.int x0), .val (.int x1), .val (.int x2), .val (.int x3), .val (.int x4), .val (.int n_), .val (.ref b138), .unset, .unset, .unset, .unset, .unset, .unset] [(.ref b138)]))
  refine own_st (fun t_ => XS.iconst (own_here Y152) hx rfl (hb hby at_43) ) ?_
  show own_Ends _ _ _ _ (T151.setTop (mkF m 44 #[.val (.int x0), .val (.int x1), .val (.int x2), .val (.int x3), .val (.int x4), .val (.int n_), .val (.ref b138), .unset, .unset, .unset, .unset, .unset, .unset] [(.int (3 : Int32)), (.ref b138)]))
  refine own_st (fun t_ => XS.iloadN (own_here Y152) hx rfl (hb hby at_44) rfl) ?_
  show own_Ends _ _ _ _ (T151.setTop (mkF m 45 #[.val (.int x0), .val (.int x1), .val (.int x2), .val (.int x3), .val (.int x4), .val (.int n_), .val (.ref b138), .unset, .unset, .unset, .unset, .unset, .unset] [(.int x3), (.int (3 : Int32)), (.ref b138)]))
  refine own_st (fun t_ => XS.sipush (own_here Y152) hx rfl (hb hby at_45) ) ?_
  show own_Ends _ _ _ _ (T151.setTop (mkF m 48 #[.val (.int x0), .val (.int x1), .val (.int x2), .val (.int x3), .val (.int x4), .val (.int n_), .val (.ref b138), .unset, .unset, .unset, .unset, .unset, .unset] [(.int (255 : Int32)), (.int x3), (.int (3 : Int32)), (.ref b138)]))
  refine own_st (fun t_ => XS.iand (own_here Y152) hx rfl (hb hby at_48) rfl) ?_
  show own_Ends _ _ _ _ (T151.setTop (mkF m 49 #[.val (.int x0), .val (.int x1), .val (.int x2), .val (.int x3), .val (.int x4), .val (.int n_), .val (.ref b138), .unset, .unset, .unset, .unset, .unset, .unset] [(.int (x3 &&& (255 : Int32))), (.int (3 : Int32)), (.ref b138)]))
  generalize hy3 : (x3 &&& (255 : Int32)) = y3
  have gy3 : 0 ≤ y3.toInt ∧ y3.toInt ≤ 255 := hy3 ▸ c_and x3 255 (by decide)
  refine own_stI Y152 hx hZ A155 g140 (i := 3) (by decide) (by decide) (Nat.le_of_ble_eq_true rfl) rfl rfl (hb hby at_49) (fun T156 h158 Y157 W159 A160 => ?_)
  replace A160 : own_A Z h158 b138 .int [(.int y0), (.int y1), (.int y2), (.int y3)] := A160
  show own_Ends _ _ _ _ (T156.setTop (mkF m 50 #[.val (.int x0), .val (.int x1), .val (.int x2), .val (.int x3), .val (.int x4), .val (.int n_), .val (.ref b138), .unset, .unset, .unset, .unset, .unset, .unset] []))
  refine own_st (fun t_ => XS.bipush (own_here Y157) hx rfl (hb hby at_50) ) ?_
  show own_Ends _ _ _ _ (T156.setTop (mkF m 52 #[.val (.int x0), .val (.int x1), .val (.int x2), .val (.int x3), .val (.int x4), .val (.int n_), .val (.ref b138), .unset, .unset, .unset, .unset, .unset, .unset] [(.int (6 : Int32))]))
  refine own_newP Y157 hx hZ (hw _ (List.mem_of_getElem? (i := 2) rfl)) rfl (hb hby at_52) rfl (by decide) (nz := 6) (cap := 6) (by decide) (by decide) (by decide) (by decide) (by decide) (ty := .byte) rfl (fun T161 h163 b166 eb167 Y162 E164 A165 => ?_)
  have ne168 : b138 ≠ b166 := Nat.ne_of_lt (by rw [eb167]; exact A160.lt)
  have z170 : n0 ≤ h135.size := Nat.le_trans Z0 E136.1
  have z171 : n0 ≤ h143.size := Nat.le_trans z170 (Nat.le_of_eq W144.size.symm)
  have z172 : n0 ≤ h148.size := Nat.le_trans z171 (Nat.le_of_eq W149.size.symm)
  have z173 : n0 ≤ h153.size := Nat.le_trans z172 (Nat.le_of_eq W154.size.symm)
  have z174 : n0 ≤ h158.size := Nat.le_trans z173 (Nat.le_of_eq W159.size.symm)
  have g169 : n0 ≤ b166 := by rw [eb167]; exact z174
  replace A165 : own_A Z h163 b166 .byte [(.int (0 : Int32)), (.int (0 : Int32)), (.int (0 : Int32)), (.int (0 : Int32)), (.int (0 : Int32)), (.int (0 : Int32))] := A165
  show own_Ends _ _ _ _ (T161.setTop (mkF m 54 #[.val (.int x0), .val (.int x1), .val (.int x2), .val (.int x3), .val (.int x4), .val (.int n_), .val (.ref b138), .unset, .unset, .unset, .unset, .unset, .unset] [(.ref b166)]))
  refine own_st (fun t_ => XS.astore (own_here Y162) hx rfl (hb hby at_54) rfl rfl (l' := #[.val (.int x0), .val (.int x1), .val (.int x2), .val (.int x3), .val (.int x4), .val (.int n_), .val (.ref b138), .val (.ref b166), .unset, .unset, .unset, .unset, .unset]) rfl) ?_
  show own_Ends _ _ _ _ (T161.setTop (mkF m 56 #[.val (.int x0), .val (.int x1), .val (.int x2), .val (.int x3), .val (.int x4), .val (.int n_), .val (.ref b138), .val (.ref b166), .unset, .unset, .unset, .unset, .unset] []))
  refine own_st (fun t_ => XS.aload (own_here Y162) hx rfl (hb hby at_56) rfl rfl) ?_
  show own_Ends _ _ _ _ (T161.setTop (mkF m 58 #[.val (.int x0), .val (.int x1), .val (.int x2), .val (.int x3), .val (.int x4), .val (.int n_), .val (.ref b138), .val (.ref b166), .unset, .unset, .unset, .unset, .unset] [(.ref b166)]))
  refine own_st (fun t_ => XS.iconst (own_here Y162) hx rfl (hb hby at_58) ) ?_
  show own_Ends _ _ _ _ (T161.setTop (mkF m 59 #[.val (.int x0), .val (.int x1), .val (.int x2), .val (.int x3), .val (.int x4), .val (.int n_), .val (.ref b138), .val (.ref b166), .unset, .unset, .unset, .unset, .unset] [(.int (0 : Int32)), (.ref b166)]))
  refine own_st (fun t_ => XS.bipush (own_here Y162) hx rfl (hb hby at_59) ) ?_
  show own_Ends _ _ _ _ (T161.setTop (mkF m 61 #[.val (.int x0), .val (.int x1), .val (.int x2), .val (.int x3), .val (.int x4), .val (.int n_), .val (.ref b138), .val (.ref b166), .unset, .unset, .unset, .unset, .unset] [(.int (-128 : Int32)), (.int (0 : Int32)), (.ref b166)]))
  refine own_stB Y162 hx hZ A165 g169 (i := 0) (by decide) (by decide) (Nat.le_of_ble_eq_true rfl) rfl rfl (hb hby at_61) (fun T175 h177 Y176 W178 A179 => ?_)
  replace A179 : own_A Z h177 b166 .byte [(.int (-128 : Int32)), (.int (0 : Int32)), (.int (0 : Int32)), (.int (0 : Int32)), (.int (0 : Int32)), (.int (0 : Int32))] := A179
  show own_Ends _ _ _ _ (T175.setTop (mkF m 62 #[.val (.int x0), .val (.int x1), .val (.int x2), .val (.int x3), .val (.int x4), .val (.int n_), .val (.ref b138), .val (.ref b166), .unset, .unset, .unset, .unset, .unset] []))
  refine own_st (fun t_ => XS.aload (own_here Y176) hx rfl (hb hby at_62) rfl rfl) ?_
  show own_Ends _ _ _ _ (T175.setTop (mkF m 64 #[.val (.int x0), .val (.int x1), .val (.int x2), .val (.int x3), .val (.int x4), .val (.int n_), .val (.ref b138), .val (.ref b166), .unset, .unset, .unset, .unset, .unset] [(.ref b166)]))
  refine own_st (fun t_ => XS.iconst (own_here Y176) hx rfl (hb hby at_64) ) ?_
  show own_Ends _ _ _ _ (T175.setTop (mkF m 65 #[.val (.int x0), .val (.int x1), .val (.int x2), .val (.int x3), .val (.int x4), .val (.int n_), .val (.ref b138), .val (.ref b166), .unset, .unset, .unset, .unset, .unset] [(.int (1 : Int32)), (.ref b166)]))
  refine own_st (fun t_ => XS.aload (own_here Y176) hx rfl (hb hby at_65) rfl rfl) ?_
  show own_Ends _ _ _ _ (T175.setTop (mkF m 67 #[.val (.int x0), .val (.int x1), .val (.int x2), .val (.int x3), .val (.int x4), .val (.int n_), .val (.ref b138), .val (.ref b166), .unset, .unset, .unset, .unset, .unset] [(.ref b138), (.int (1 : Int32)), (.ref b166)]))
  refine own_st (fun t_ => XS.iconst (own_here Y176) hx rfl (hb hby at_67) ) ?_
  show own_Ends _ _ _ _ (T175.setTop (mkF m 68 #[.val (.int x0), .val (.int x1), .val (.int x2), .val (.int x3), .val (.int x4), .val (.int n_), .val (.ref b138), .val (.ref b166), .unset, .unset, .unset, .unset, .unset] [(.int (0 : Int32)), (.ref b138), (.int (1 : Int32)), (.ref b166)]))
  have f180 : own_A Z h163 b138 .int [(.int y0), (.int y1), (.int y2), (.int y3)] := A160.ext E164
  have f181 : own_A Z h177 b138 .int [(.int y0), (.int y1), (.int y2), (.int y3)] := f180.other W178 ne168
  refine own_ldI Y176 hx hZ f181 (i := 0) (by decide) (by decide) (Nat.le_of_ble_eq_true rfl) (v := (.int y0)) rfl rfl rfl (hb hby at_68) ?_
  show own_Ends _ _ _ _ (T175.setTop (mkF m 69 #[.val (.int x0), .val (.int x1), .val (.int x2), .val (.int x3), .val (.int x4), .val (.int n_), .val (.ref b138), .val (.ref b166), .unset, .unset, .unset, .unset, .unset] [(.int y0), (.int (1 : Int32)), (.ref b166)]))
  refine own_st (fun t_ => XS.i2b (own_here Y176) hx rfl (hb hby at_69) rfl) ?_
  show own_Ends _ _ _ _ (T175.setTop (mkF m 70 #[.val (.int x0), .val (.int x1), .val (.int x2), .val (.int x3), .val (.int x4), .val (.int n_), .val (.ref b138), .val (.ref b166), .unset, .unset, .unset, .unset, .unset] [(.int (y0.toInt8.toInt32)), (.int (1 : Int32)), (.ref b166)]))
  refine own_stB Y176 hx hZ A179 g169 (i := 1) (by decide) (by decide) (Nat.le_of_ble_eq_true rfl) rfl rfl (hb hby at_70) (fun T182 h184 Y183 W185 A186 => ?_)
  replace A186 : own_A Z h184 b166 .byte [(.int (-128 : Int32)), (.int ((y0.toInt8.toInt32).toInt8.toInt32)), (.int (0 : Int32)), (.int (0 : Int32)), (.int (0 : Int32)), (.int (0 : Int32))] := A186
  show own_Ends _ _ _ _ (T182.setTop (mkF m 71 #[.val (.int x0), .val (.int x1), .val (.int x2), .val (.int x3), .val (.int x4), .val (.int n_), .val (.ref b138), .val (.ref b166), .unset, .unset, .unset, .unset, .unset] []))
  refine own_st (fun t_ => XS.aload (own_here Y183) hx rfl (hb hby at_71) rfl rfl) ?_
  show own_Ends _ _ _ _ (T182.setTop (mkF m 73 #[.val (.int x0), .val (.int x1), .val (.int x2), .val (.int x3), .val (.int x4), .val (.int n_), .val (.ref b138), .val (.ref b166), .unset, .unset, .unset, .unset, .unset] [(.ref b166)]))
  refine own_st (fun t_ => XS.iconst (own_here Y183) hx rfl (hb hby at_73) ) ?_
  show own_Ends _ _ _ _ (T182.setTop (mkF m 74 #[.val (.int x0), .val (.int x1), .val (.int x2), .val (.int x3), .val (.int x4), .val (.int n_), .val (.ref b138), .val (.ref b166), .unset, .unset, .unset, .unset, .unset] [(.int (2 : Int32)), (.ref b166)]))
  refine own_st (fun t_ => XS.aload (own_here Y183) hx rfl (hb hby at_74) rfl rfl) ?_
  show own_Ends _ _ _ _ (T182.setTop (mkF m 76 #[.val (.int x0), .val (.int x1), .val (.int x2), .val (.int x3), .val (.int x4), .val (.int n_), .val (.ref b138), .val (.ref b166), .unset, .unset, .unset, .unset, .unset] [(.ref b138), (.int (2 : Int32)), (.ref b166)]))
  refine own_st (fun t_ => XS.iconst (own_here Y183) hx rfl (hb hby at_76) ) ?_
  show own_Ends _ _ _ _ (T182.setTop (mkF m 77 #[.val (.int x0), .val (.int x1), .val (.int x2), .val (.int x3), .val (.int x4), .val (.int n_), .val (.ref b138), .val (.ref b166), .unset, .unset, .unset, .unset, .unset] [(.int (1 : Int32)), (.ref b138), (.int (2 : Int32)), (.ref b166)]))
  have f187 : own_A Z h184 b138 .int [(.int y0), (.int y1), (.int y2), (.int y3)] := f181.other W185 ne168
  refine own_ldI Y183 hx hZ f187 (i := 1) (by decide) (by decide) (Nat.le_of_ble_eq_true rfl) (v := (.int y1)) rfl rfl rfl (hb hby at_77) ?_
  show own_Ends _ _ _ _ (T182.setTop (mkF m 78 #[.val (.int x0), .val (.int x1), .val (.int x2), .val (.int x3), .val (.int x4), .val (.int n_), .val (.ref b138), .val (.ref b166), .unset, .unset, .unset, .unset, .unset] [(.int y1), (.int (2 : Int32)), (.ref b166)]))
  refine own_st (fun t_ => XS.i2b (own_here Y183) hx rfl (hb hby at_78) rfl) ?_
  show own_Ends _ _ _ _ (T182.setTop (mkF m 79 #[.val (.int x0), .val (.int x1), .val (.int x2), .val (.int x3), .val (.int x4), .val (.int n_), .val (.ref b138), .val (.ref b166), .unset, .unset, .unset, .unset, .unset] [(.int (y1.toInt8.toInt32)), (.int (2 : Int32)), (.ref b166)]))
  refine own_stB Y183 hx hZ A186 g169 (i := 2) (by decide) (by decide) (Nat.le_of_ble_eq_true rfl) rfl rfl (hb hby at_79) (fun T188 h190 Y189 W191 A192 => ?_)
  replace A192 : own_A Z h190 b166 .byte [(.int (-128 : Int32)), (.int ((y0.toInt8.toInt32).toInt8.toInt32)), (.int ((y1.toInt8.toInt32).toInt8.toInt32)), (.int (0 : Int32)), (.int (0 : Int32)), (.int (0 : Int32))] := A192
  show own_Ends _ _ _ _ (T188.setTop (mkF m 80 #[.val (.int x0), .val (.int x1), .val (.int x2), .val (.int x3), .val (.int x4), .val (.int n_), .val (.ref b138), .val (.ref b166), .unset, .unset, .unset, .unset, .unset] []))
  refine own_st (fun t_ => XS.aload (own_here Y189) hx rfl (hb hby at_80) rfl rfl) ?_
  show own_Ends _ _ _ _ (T188.setTop (mkF m 82 #[.val (.int x0), .val (.int x1), .val (.int x2), .val (.int x3), .val (.int x4), .val (.int n_), .val (.ref b138), .val (.ref b166), .unset, .unset, .unset, .unset, .unset] [(.ref b166)]))
  refine own_st (fun t_ => XS.iconst (own_here Y189) hx rfl (hb hby at_82) ) ?_
  show own_Ends _ _ _ _ (T188.setTop (mkF m 83 #[.val (.int x0), .val (.int x1), .val (.int x2), .val (.int x3), .val (.int x4), .val (.int n_), .val (.ref b138), .val (.ref b166), .unset, .unset, .unset, .unset, .unset] [(.int (3 : Int32)), (.ref b166)]))
  refine own_st (fun t_ => XS.aload (own_here Y189) hx rfl (hb hby at_83) rfl rfl) ?_
  show own_Ends _ _ _ _ (T188.setTop (mkF m 85 #[.val (.int x0), .val (.int x1), .val (.int x2), .val (.int x3), .val (.int x4), .val (.int n_), .val (.ref b138), .val (.ref b166), .unset, .unset, .unset, .unset, .unset] [(.ref b138), (.int (3 : Int32)), (.ref b166)]))
  refine own_st (fun t_ => XS.iconst (own_here Y189) hx rfl (hb hby at_85) ) ?_
  show own_Ends _ _ _ _ (T188.setTop (mkF m 86 #[.val (.int x0), .val (.int x1), .val (.int x2), .val (.int x3), .val (.int x4), .val (.int n_), .val (.ref b138), .val (.ref b166), .unset, .unset, .unset, .unset, .unset] [(.int (2 : Int32)), (.ref b138), (.int (3 : Int32)), (.ref b166)]))
  have f193 : own_A Z h190 b138 .int [(.int y0), (.int y1), (.int y2), (.int y3)] := f187.other W191 ne168
  refine own_ldI Y189 hx hZ f193 (i := 2) (by decide) (by decide) (Nat.le_of_ble_eq_true rfl) (v := (.int y2)) rfl rfl rfl (hb hby at_86) ?_
  show own_Ends _ _ _ _ (T188.setTop (mkF m 87 #[.val (.int x0), .val (.int x1), .val (.int x2), .val (.int x3), .val (.int x4), .val (.int n_), .val (.ref b138), .val (.ref b166), .unset, .unset, .unset, .unset, .unset] [(.int y2), (.int (3 : Int32)), (.ref b166)]))
  refine own_st (fun t_ => XS.i2b (own_here Y189) hx rfl (hb hby at_87) rfl) ?_
  show own_Ends _ _ _ _ (T188.setTop (mkF m 88 #[.val (.int x0), .val (.int x1), .val (.int x2), .val (.int x3), .val (.int x4), .val (.int n_), .val (.ref b138), .val (.ref b166), .unset, .unset, .unset, .unset, .unset] [(.int (y2.toInt8.toInt32)), (.int (3 : Int32)), (.ref b166)]))
  refine own_stB Y189 hx hZ A192 g169 (i := 3) (by decide) (by decide) (Nat.le_of_ble_eq_true rfl) rfl rfl (hb hby at_88) (fun T194 h196 Y195 W197 A198 => ?_)
  replace A198 : own_A Z h196 b166 .byte [(.int (-128 : Int32)), (.int ((y0.toInt8.toInt32).toInt8.toInt32)), (.int ((y1.toInt8.toInt32).toInt8.toInt32)), (.int ((y2.toInt8.toInt32).toInt8.toInt32)), (.int (0 : Int32)), (.int (0 : Int32))] := A198
  show own_Ends _ _ _ _ (T194.setTop (mkF m 89 #[.val (.int x0), .val (.int x1), .val (.int x2), .val (.int x3), .val (.int x4), .val (.int n_), .val (.ref b138), .val (.ref b166), .unset, .unset, .unset, .unset, .unset] []))
  refine own_st (fun t_ => XS.aload (own_here Y195) hx rfl (hb hby at_89) rfl rfl) ?_
  show own_Ends _ _ _ _ (T194.setTop (mkF m 91 #[.val (.int x0), .val (.int x1), .val (.int x2), .val (.int x3), .val (.int x4), .val (.int n_), .val (.ref b138), .val (.ref b166), .unset, .unset, .unset, .unset, .unset] [(.ref b166)]))
  refine own_st (fun t_ => XS.iconst (own_here Y195) hx rfl (hb hby at_91) ) ?_
  show own_Ends _ _ _ _ (T194.setTop (mkF m 92 #[.val (.int x0), .val (.int x1), .val (.int x2), .val (.int x3), .val (.int x4), .val (.int n_), .val (.ref b138), .val (.ref b166), .unset, .unset, .unset, .unset, .unset] [(.int (4 : Int32)), (.ref b166)]))
  refine own_st (fun t_ => XS.aload (own_here Y195) hx rfl (hb hby at_92) rfl rfl) ?_
  show own_Ends _ _ _ _ (T194.setTop (mkF m 94 #[.val (.int x0), .val (.int x1), .val (.int x2), .val (.int x3), .val (.int x4), .val (.int n_), .val (.ref b138), .val (.ref b166), .unset, .unset, .unset, .unset, .unset] [(.ref b138), (.int (4 : Int32)), (.ref b166)]))
  refine own_st (fun t_ => XS.iconst (own_here Y195) hx rfl (hb hby at_94) ) ?_
  show own_Ends _ _ _ _ (T194.setTop (mkF m 95 #[.val (.int x0), .val (.int x1), .val (.int x2), .val (.int x3), .val (.int x4), .val (.int n_), .val (.ref b138), .val (.ref b166), .unset, .unset, .unset, .unset, .unset] [(.int (3 : Int32)), (.ref b138), (.int (4 : Int32)), (.ref b166)]))
  have f199 : own_A Z h196 b138 .int [(.int y0), (.int y1), (.int y2), (.int y3)] := f193.other W197 ne168
  refine own_ldI Y195 hx hZ f199 (i := 3) (by decide) (by decide) (Nat.le_of_ble_eq_true rfl) (v := (.int y3)) rfl rfl rfl (hb hby at_95) ?_
  show own_Ends _ _ _ _ (T194.setTop (mkF m 96 #[.val (.int x0), .val (.int x1), .val (.int x2), .val (.int x3), .val (.int x4), .val (.int n_), .val (.ref b138), .val (.ref b166), .unset, .unset, .unset, .unset, .unset] [(.int y3), (.int (4 : Int32)), (.ref b166)]))
  refine own_st (fun t_ => XS.i2b (own_here Y195) hx rfl (hb hby at_96) rfl) ?_
  show own_Ends _ _ _ _ (T194.setTop (mkF m 97 #[.val (.int x0), .val (.int x1), .val (.int x2), .val (.int x3), .val (.int x4), .val (.int n_), .val (.ref b138), .val (.ref b166), .unset, .unset, .unset, .unset, .unset] [(.int (y3.toInt8.toInt32)), (.int (4 : Int32)), (.ref b166)]))
  refine own_stB Y195 hx hZ A198 g169 (i := 4) (by decide) (by decide) (Nat.le_of_ble_eq_true rfl) rfl rfl (hb hby at_97) (fun T200 h202 Y201 W203 A204 => ?_)
  replace A204 : own_A Z h202 b166 .byte [(.int (-128 : Int32)), (.int ((y0.toInt8.toInt32).toInt8.toInt32)), (.int ((y1.toInt8.toInt32).toInt8.toInt32)), (.int ((y2.toInt8.toInt32).toInt8.toInt32)), (.int ((y3.toInt8.toInt32).toInt8.toInt32)), (.int (0 : Int32))] := A204
  show own_Ends _ _ _ _ (T200.setTop (mkF m 98 #[.val (.int x0), .val (.int x1), .val (.int x2), .val (.int x3), .val (.int x4), .val (.int n_), .val (.ref b138), .val (.ref b166), .unset, .unset, .unset, .unset, .unset] []))
  refine own_st (fun t_ => XS.aload (own_here Y201) hx rfl (hb hby at_98) rfl rfl) ?_
  show own_Ends _ _ _ _ (T200.setTop (mkF m 100 #[.val (.int x0), .val (.int x1), .val (.int x2), .val (.int x3), .val (.int x4), .val (.int n_), .val (.ref b138), .val (.ref b166), .unset, .unset, .unset, .unset, .unset] [(.ref b166)]))
  refine own_st (fun t_ => XS.iconst (own_here Y201) hx rfl (hb hby at_100) ) ?_
  show own_Ends _ _ _ _ (T200.setTop (mkF m 101 #[.val (.int x0), .val (.int x1), .val (.int x2), .val (.int x3), .val (.int x4), .val (.int n_), .val (.ref b138), .val (.ref b166), .unset, .unset, .unset, .unset, .unset] [(.int (5 : Int32)), (.ref b166)]))
  refine own_st (fun t_ => XS.bipush (own_here Y201) hx rfl (hb hby at_101) ) ?_
  show own_Ends _ _ _ _ (T200.setTop (mkF m 103 #[.val (.int x0), .val (.int x1), .val (.int x2), .val (.int x3), .val (.int x4), .val (.int n_), .val (.ref b138), .val (.ref b166), .unset, .unset, .unset, .unset, .unset] [(.int (-128 : Int32)), (.int (5 : Int32)), (.ref b166)]))
  refine own_stB Y201 hx hZ A204 g169 (i := 5) (by decide) (by decide) (Nat.le_of_ble_eq_true rfl) rfl rfl (hb hby at_103) (fun T205 h207 Y206 W208 A209 => ?_)
  replace A209 : own_A Z h207 b166 .byte [(.int (-128 : Int32)), (.int ((y0.toInt8.toInt32).toInt8.toInt32)), (.int ((y1.toInt8.toInt32).toInt8.toInt32)), (.int ((y2.toInt8.toInt32).toInt8.toInt32)), (.int ((y3.toInt8.toInt32).toInt8.toInt32)), (.int (-128 : Int32))] := A209
  show own_Ends _ _ _ _ (T205.setTop (mkF m 104 #[.val (.int x0), .val (.int x1), .val (.int x2), .val (.int x3), .val (.int x4), .val (.int n_), .val (.ref b138), .val (.ref b166), .unset, .unset, .unset, .unset, .unset] []))
  refine own_st (fun t_ => XS.aload (own_here Y206) hx rfl (hb hby at_104) rfl rfl) ?_
  show own_Ends _ _ _ _ (T205.setTop (mkF m 106 #[.val (.int x0), .val (.int x1), .val (.int x2), .val (.int x3), .val (.int x4), .val (.int n_), .val (.ref b138), .val (.ref b166), .unset, .unset, .unset, .unset, .unset] [(.ref b138)]))
  refine own_st (fun t_ => XS.iconst (own_here Y206) hx rfl (hb hby at_106) ) ?_
  show own_Ends _ _ _ _ (T205.setTop (mkF m 107 #[.val (.int x0), .val (.int x1), .val (.int x2), .val (.int x3), .val (.int x4), .val (.int n_), .val (.ref b138), .val (.ref b166), .unset, .unset, .unset, .unset, .unset] [(.int (0 : Int32)), (.ref b138)]))
  refine own_st (fun t_ => XS.iconst (own_here Y206) hx rfl (hb hby at_107) ) ?_
  show own_Ends _ _ _ _ (T205.setTop (mkF m 108 #[.val (.int x0), .val (.int x1), .val (.int x2), .val (.int x3), .val (.int x4), .val (.int n_), .val (.ref b138), .val (.ref b166), .unset, .unset, .unset, .unset, .unset] [(.int (1 : Int32)), (.int (0 : Int32)), (.ref b138)]))
  have f210 : own_A Z h202 b138 .int [(.int y0), (.int y1), (.int y2), (.int y3)] := f199.other W203 ne168
  have f211 : own_A Z h207 b138 .int [(.int y0), (.int y1), (.int y2), (.int y3)] := f210.other W208 ne168
  refine own_callS Y206 hx hZ (y := (⟨"kombos/graph/Utf8IsValidPinLaw", "ok", "([III)Z"⟩ : MethodName)) hown (hw _ (List.mem_of_getElem? (i := 3) rfl)) (hw _ (List.mem_of_getElem? (i := 4) rfl)) (hw _ (List.mem_of_getElem? (i := 5) rfl)) (hw _ (List.mem_of_getElem? (i := 6) rfl)) (by decide) (argsL := [(.ref b138), (.int (0 : Int32)), (.int (1 : Int32))]) (rest := []) (own_rm1_0_1 l Z a0 hw [] b138 y0 y1 y2 y3 h207 n0  f211 gy0 gy1 gy2 gy3) (W := 0) (by decide) (by decide) (by decide) (by decide) rfl (by rw [hml]; rfl) (lenOf own_pd1 rfl) rfl (by show 2 * 0 + _ ≤ _; exact Nat.le_of_eq rfl) (hb hby at_108) (fun T212 h214 v215 Y213 q216 => ?_)
  obtain ⟨rfl, rfl⟩ := q216
  show own_Ends _ _ _ _ (T212.setTop (mkF m 111 #[.val (.int x0), .val (.int x1), .val (.int x2), .val (.int x3), .val (.int x4), .val (.int n_), .val (.ref b138), .val (.ref b166), .unset, .unset, .unset, .unset, .unset] [(.int (own_b (own_A1 y0.toInt)))]))
  refine own_st (fun t_ => XS.istore (own_here Y213) hx rfl (hb hby at_111) rfl (l' := #[.val (.int x0), .val (.int x1), .val (.int x2), .val (.int x3), .val (.int x4), .val (.int n_), .val (.ref b138), .val (.ref b166), .val (.int (own_b (own_A1 y0.toInt))), .unset, .unset, .unset, .unset]) rfl) ?_
  show own_Ends _ _ _ _ (T212.setTop (mkF m 113 #[.val (.int x0), .val (.int x1), .val (.int x2), .val (.int x3), .val (.int x4), .val (.int n_), .val (.ref b138), .val (.ref b166), .val (.int (own_b (own_A1 y0.toInt))), .unset, .unset, .unset, .unset] []))
  refine own_st (fun t_ => XS.iload (own_here Y213) hx rfl (hb hby at_113) rfl) ?_
  show own_Ends _ _ _ _ (T212.setTop (mkF m 115 #[.val (.int x0), .val (.int x1), .val (.int x2), .val (.int x3), .val (.int x4), .val (.int n_), .val (.ref b138), .val (.ref b166), .val (.int (own_b (own_A1 y0.toInt))), .unset, .unset, .unset, .unset] [(.int (own_b (own_A1 y0.toInt)))]))
  have hJ217 : ∀ (T218 : State)  (v2 : Int32) (Y219 : own_S p l e room_1 s m #[(.int x0), (.int x1), (.int x2), (.int x3), (.int x4)] below meth c n0 T218 h207 2 10)  (hv2 : v2 = own_b ((own_A1 y0.toInt) && (own_A1 y1.toInt) || (own_A2 y0.toInt y1.toInt))), own_Ends p.tables e below (own_P s n0 (own_Q_own_rm0 Z x0 x1 x2 x3 x4 h0 n0) room_1.cells room_1.slots) (T218.setTop (mkF m 143 #[.val (.int x0), .val (.int x1), .val (.int x2), .val (.int x3), .val (.int x4), .val (.int n_), .val (.ref b138), .val (.ref b166), .val (.int (own_b (own_A1 y0.toInt))), .unset, .unset, .unset, .unset] [(.int v2)])) := by
   intro T218  v2 Y219  hv2
   generalize hB2 : ((own_A1 y0.toInt) && (own_A1 y1.toInt) || (own_A2 y0.toInt y1.toInt)) = B2 at hv2
   refine own_st (fun t_ => XS.istore (own_here Y219) hx rfl (hb hby at_143) rfl (l' := #[.val (.int x0), .val (.int x1), .val (.int x2), .val (.int x3), .val (.int x4), .val (.int n_), .val (.ref b138), .val (.ref b166), .val (.int (own_b (own_A1 y0.toInt))), .val (.int v2), .unset, .unset, .unset]) rfl) ?_
   show own_Ends _ _ _ _ (T218.setTop (mkF m 145 #[.val (.int x0), .val (.int x1), .val (.int x2), .val (.int x3), .val (.int x4), .val (.int n_), .val (.ref b138), .val (.ref b166), .val (.int (own_b (own_A1 y0.toInt))), .val (.int v2), .unset, .unset, .unset] []))
   refine own_st (fun t_ => XS.iload (own_here Y219) hx rfl (hb hby at_145) rfl) ?_
   show own_Ends _ _ _ _ (T218.setTop (mkF m 147 #[.val (.int x0), .val (.int x1), .val (.int x2), .val (.int x3), .val (.int x4), .val (.int n_), .val (.ref b138), .val (.ref b166), .val (.int (own_b (own_A1 y0.toInt))), .val (.int v2), .unset, .unset, .unset] [(.int v2)]))
   have hJ220 : ∀ (T221 : State)  (v3 : Int32) (Y222 : own_S p l e room_1 s m #[(.int x0), (.int x1), (.int x2), (.int x3), (.int x4)] below meth c n0 T221 h207 2 10)  (hv3 : v3 = own_b ((B2 && (own_A1 y2.toInt)) || ((own_A1 y0.toInt) && (own_A2 y1.toInt y2.toInt)) || (own_A3 y0.toInt y1.toInt y2.toInt))), own_Ends p.tables e below (own_P s n0 (own_Q_own_rm0 Z x0 x1 x2 x3 x4 h0 n0) room_1.cells room_1.slots) (T221.setTop (mkF m 190 #[.val (.int x0), .val (.int x1), .val (.int x2), .val (.int x3), .val (.int x4), .val (.int n_), .val (.ref b138), .val (.ref b166), .val (.int (own_b (own_A1 y0.toInt))), .val (.int v2), .unset, .unset, .unset] [(.int v3)])) := by
    intro T221  v3 Y222  hv3
    generalize hB3 : ((B2 && (own_A1 y2.toInt)) || ((own_A1 y0.toInt) && (own_A2 y1.toInt y2.toInt)) || (own_A3 y0.toInt y1.toInt y2.toInt)) = B3 at hv3
    refine own_st (fun t_ => XS.istore (own_here Y222) hx rfl (hb hby at_190) rfl (l' := #[.val (.int x0), .val (.int x1), .val (.int x2), .val (.int x3), .val (.int x4), .val (.int n_), .val (.ref b138), .val (.ref b166), .val (.int (own_b (own_A1 y0.toInt))), .val (.int v2), .val (.int v3), .unset, .unset]) rfl) ?_
    show own_Ends _ _ _ _ (T221.setTop (mkF m 192 #[.val (.int x0), .val (.int x1), .val (.int x2), .val (.int x3), .val (.int x4), .val (.int n_), .val (.ref b138), .val (.ref b166), .val (.int (own_b (own_A1 y0.toInt))), .val (.int v2), .val (.int v3), .unset, .unset] []))
    refine own_st (fun t_ => XS.iload (own_here Y222) hx rfl (hb hby at_192) rfl) ?_
    show own_Ends _ _ _ _ (T221.setTop (mkF m 194 #[.val (.int x0), .val (.int x1), .val (.int x2), .val (.int x3), .val (.int x4), .val (.int n_), .val (.ref b138), .val (.ref b166), .val (.int (own_b (own_A1 y0.toInt))), .val (.int v2), .val (.int v3), .unset, .unset] [(.int v3)]))
    have hJ223 : ∀ (T224 : State)  (v4 : Int32) (Y225 : own_S p l e room_1 s m #[(.int x0), (.int x1), (.int x2), (.int x3), (.int x4)] below meth c n0 T224 h207 2 10)  (hv4 : v4 = own_b ((B3 && (own_A1 y3.toInt)) || (B2 && (own_A2 y2.toInt y3.toInt)) || ((own_A1 y0.toInt) && (own_A3 y1.toInt y2.toInt y3.toInt)) || (own_A4 y0.toInt y1.toInt y2.toInt y3.toInt))), own_Ends p.tables e below (own_P s n0 (own_Q_own_rm0 Z x0 x1 x2 x3 x4 h0 n0) room_1.cells room_1.slots) (T224.setTop (mkF m 252 #[.val (.int x0), .val (.int x1), .val (.int x2), .val (.int x3), .val (.int x4), .val (.int n_), .val (.ref b138), .val (.ref b166), .val (.int (own_b (own_A1 y0.toInt))), .val (.int v2), .val (.int v3), .unset, .unset] [(.int v4)])) := by
     intro T224  v4 Y225  hv4
     refine own_st (fun t_ => XS.istore (own_here Y225) hx rfl (hb hby at_252) rfl (l' := #[.val (.int x0), .val (.int x1), .val (.int x2), .val (.int x3), .val (.int x4), .val (.int n_), .val (.ref b138), .val (.ref b166), .val (.int (own_b (own_A1 y0.toInt))), .val (.int v2), .val (.int v3), .val (.int v4), .unset]) rfl) ?_
     show own_Ends _ _ _ _ (T224.setTop (mkF m 254 #[.val (.int x0), .val (.int x1), .val (.int x2), .val (.int x3), .val (.int x4), .val (.int n_), .val (.ref b138), .val (.ref b166), .val (.int (own_b (own_A1 y0.toInt))), .val (.int v2), .val (.int v3), .val (.int v4), .unset] []))
     rcases hn5 with rfl | rfl | rfl | rfl | rfl
     ·
      show own_Ends _ _ _ _ (T224.setTop (mkF m 254 #[.val (.int x0), .val (.int x1), .val (.int x2), .val (.int x3), .val (.int x4), .val (.int (0 : Int32)), .val (.ref b138), .val (.ref b166), .val (.int (own_b (own_A1 y0.toInt))), .val (.int v2), .val (.int v3), .val (.int v4), .unset] []))
      refine own_st (fun t_ => XS.iload (own_here Y225) hx rfl (hb hby at_254) rfl) ?_
      show own_Ends _ _ _ _ (T224.setTop (mkF m 256 #[.val (.int x0), .val (.int x1), .val (.int x2), .val (.int x3), .val (.int x4), .val (.int (0 : Int32)), .val (.ref b138), .val (.ref b166), .val (.int (own_b (own_A1 y0.toInt))), .val (.int v2), .val (.int v3), .val (.int v4), .unset] [(.int (0 : Int32))]))
      refine own_st (fun t_ => XS.ifNo (own_here Y225) hx rfl (hb hby at_256) rfl (XT.i0_ne_f (by decide))) ?_
      show own_Ends _ _ _ _ (T224.setTop (mkF m 259 #[.val (.int x0), .val (.int x1), .val (.int x2), .val (.int x3), .val (.int x4), .val (.int (0 : Int32)), .val (.ref b138), .val (.ref b166), .val (.int (own_b (own_A1 y0.toInt))), .val (.int v2), .val (.int v3), .val (.int v4), .unset] []))
      refine own_st (fun t_ => XS.iconst (own_here Y225) hx rfl (hb hby at_259) ) ?_
      show own_Ends _ _ _ _ (T224.setTop (mkF m 260 #[.val (.int x0), .val (.int x1), .val (.int x2), .val (.int x3), .val (.int x4), .val (.int (0 : Int32)), .val (.ref b138), .val (.ref b166), .val (.int (own_b (own_A1 y0.toInt))), .val (.int v2), .val (.int v3), .val (.int v4), .unset] [(.int (1 : Int32))]))
      refine own_st (fun t_ => XS.istore (own_here Y225) hx rfl (hb hby at_260) rfl (l' := #[.val (.int x0), .val (.int x1), .val (.int x2), .val (.int x3), .val (.int x4), .val (.int (0 : Int32)), .val (.ref b138), .val (.ref b166), .val (.int (own_b (own_A1 y0.toInt))), .val (.int v2), .val (.int v3), .val (.int v4), .val (.int (1 : Int32))]) rfl) ?_
      show own_Ends _ _ _ _ (T224.setTop (mkF m 262 #[.val (.int x0), .val (.int x1), .val (.int x2), .val (.int x3), .val (.int x4), .val (.int (0 : Int32)), .val (.ref b138), .val (.ref b166), .val (.int (own_b (own_A1 y0.toInt))), .val (.int v2), .val (.int v3), .val (.int v4), .val (.int (1 : Int32))] []))
      refine own_st (fun t_ => XS.goto (own_here Y225) hx rfl (pc0 := 262) (pc' := 308) rfl (hb hby at_262) (by decide) (by decide)) ?_
      show own_Ends _ _ _ _ (T224.setTop (mkF m 308 #[.val (.int x0), .val (.int x1), .val (.int x2), .val (.int x3), .val (.int x4), .val (.int (0 : Int32)), .val (.ref b138), .val (.ref b166), .val (.int (own_b (own_A1 y0.toInt))), .val (.int v2), .val (.int v3), .val (.int v4), .val (.int (1 : Int32))] []))
      refine own_st (fun t_ => XS.aload (own_here Y225) hx rfl (hb hby at_308) rfl rfl) ?_
      show own_Ends _ _ _ _ (T224.setTop (mkF m 310 #[.val (.int x0), .val (.int x1), .val (.int x2), .val (.int x3), .val (.int x4), .val (.int (0 : Int32)), .val (.ref b138), .val (.ref b166), .val (.int (own_b (own_A1 y0.toInt))), .val (.int v2), .val (.int v3), .val (.int v4), .val (.int (1 : Int32))] [(.ref b166)]))
      refine own_st (fun t_ => XS.iconst (own_here Y225) hx rfl (hb hby at_310) ) ?_
      show own_Ends _ _ _ _ (T224.setTop (mkF m 311 #[.val (.int x0), .val (.int x1), .val (.int x2), .val (.int x3), .val (.int x4), .val (.int (0 : Int32)), .val (.ref b138), .val (.ref b166), .val (.int (own_b (own_A1 y0.toInt))), .val (.int v2), .val (.int v3), .val (.int v4), .val (.int (1 : Int32))] [(.int (1 : Int32)), (.ref b166)]))
      refine own_st (fun t_ => XS.iconst (own_here Y225) hx rfl (hb hby at_311) ) ?_
      show own_Ends _ _ _ _ (T224.setTop (mkF m 312 #[.val (.int x0), .val (.int x1), .val (.int x2), .val (.int x3), .val (.int x4), .val (.int (0 : Int32)), .val (.ref b138), .val (.ref b166), .val (.int (own_b (own_A1 y0.toInt))), .val (.int v2), .val (.int v3), .val (.int v4), .val (.int (1 : Int32))] [(.int (1 : Int32)), (.int (1 : Int32)), (.ref b166)]))
      refine own_st (fun t_ => XS.iload (own_here Y225) hx rfl (hb hby at_312) rfl) ?_
      show own_Ends _ _ _ _ (T224.setTop (mkF m 314 #[.val (.int x0), .val (.int x1), .val (.int x2), .val (.int x3), .val (.int x4), .val (.int (0 : Int32)), .val (.ref b138), .val (.ref b166), .val (.int (own_b (own_A1 y0.toInt))), .val (.int v2), .val (.int v3), .val (.int v4), .val (.int (1 : Int32))] [(.int (0 : Int32)), (.int (1 : Int32)), (.int (1 : Int32)), (.ref b166)]))
      refine own_st (fun t_ => XS.iadd (own_here Y225) hx rfl (hb hby at_314) rfl) ?_
      show own_Ends _ _ _ _ (T224.setTop (mkF m 315 #[.val (.int x0), .val (.int x1), .val (.int x2), .val (.int x3), .val (.int x4), .val (.int (0 : Int32)), .val (.ref b138), .val (.ref b166), .val (.int (own_b (own_A1 y0.toInt))), .val (.int v2), .val (.int v3), .val (.int v4), .val (.int (1 : Int32))] [(.int (1 : Int32)), (.int (1 : Int32)), (.ref b166)]))
      refine own_callS Y225 hx hZ (y := (⟨"kombos/graph/Utf8", "isValid", "([BII)Z"⟩ : MethodName)) hown (hw _ (List.mem_of_getElem? (i := 7) rfl)) (hw _ (List.mem_of_getElem? (i := 8) rfl)) (hw _ (List.mem_of_getElem? (i := 9) rfl)) (hw _ (List.mem_of_getElem? (i := 10) rfl)) (by decide) (argsL := [(.ref b166), (.int (1 : Int32)), (.int (1 : Int32))]) (rest := []) (own_rm2 l Z a0 hw [] b166 (1 : Int32) (1 : Int32) [(-128 : Int32), ((y0.toInt8.toInt32).toInt8.toInt32), ((y1.toInt8.toInt32).toInt8.toInt32), ((y2.toInt8.toInt32).toInt8.toInt32), ((y3.toInt8.toInt32).toInt8.toInt32), (-128 : Int32)] 1 1 h207 n0  A209 rfl rfl (by decide) (Nat.le_of_ble_eq_true rfl) (by decide) (own_allB (P := fun x => -128 ≤ x.toInt ∧ x.toInt ≤ 127) (by intro x hx; simp only [List.mem_cons, List.not_mem_nil, or_false] at hx; rcases hx with rfl | rfl | rfl | rfl | rfl | rfl <;> first | decide | (have q := c_i2b ((y0).toInt8.toInt32); omega) | (have q := c_i2b ((y1).toInt8.toInt32); omega) | (have q := c_i2b ((y2).toInt8.toInt32); omega) | (have q := c_i2b ((y3).toInt8.toInt32); omega)) (by decide))) (W := 0) (by decide) (by decide) (by decide) (by decide) rfl (by rw [hml]; rfl) (lenOf own_pd2 rfl) rfl (by show 2 * 0 + _ ≤ _; exact Nat.le_of_eq rfl) (hb hby at_315) (fun T226 h228 v229 Y227 q230 => ?_)
      obtain ⟨rfl, rfl⟩ := q230
      show own_Ends _ _ _ _ (T226.setTop (mkF m 318 #[.val (.int x0), .val (.int x1), .val (.int x2), .val (.int x3), .val (.int x4), .val (.int (0 : Int32)), .val (.ref b138), .val (.ref b166), .val (.int (own_b (own_A1 y0.toInt))), .val (.int v2), .val (.int v3), .val (.int v4), .val (.int (1 : Int32))] [(.int (own_b (own_V (own_u [(-128 : Int32), ((y0.toInt8.toInt32).toInt8.toInt32), ((y1.toInt8.toInt32).toInt8.toInt32), ((y2.toInt8.toInt32).toInt8.toInt32), ((y3.toInt8.toInt32).toInt8.toInt32), (-128 : Int32)]) 1 (1 - 1) 1)))]))
      refine own_st (fun t_ => XS.iload (own_here Y227) hx rfl (hb hby at_318) rfl) ?_
      show own_Ends _ _ _ _ (T226.setTop (mkF m 320 #[.val (.int x0), .val (.int x1), .val (.int x2), .val (.int x3), .val (.int x4), .val (.int (0 : Int32)), .val (.ref b138), .val (.ref b166), .val (.int (own_b (own_A1 y0.toInt))), .val (.int v2), .val (.int v3), .val (.int v4), .val (.int (1 : Int32))] [(.int (1 : Int32)), (.int (own_b (own_V (own_u [(-128 : Int32), ((y0.toInt8.toInt32).toInt8.toInt32), ((y1.toInt8.toInt32).toInt8.toInt32), ((y2.toInt8.toInt32).toInt8.toInt32), ((y3.toInt8.toInt32).toInt8.toInt32), (-128 : Int32)]) 1 (1 - 1) 1)))]))
      have z0 : own_u [(-128 : Int32), ((y0.toInt8.toInt32).toInt8.toInt32), ((y1.toInt8.toInt32).toInt8.toInt32), ((y2.toInt8.toInt32).toInt8.toInt32), ((y3.toInt8.toInt32).toInt8.toInt32), (-128 : Int32)] 1 = y0.toInt := own_same gy0
      have z1 : own_u [(-128 : Int32), ((y0.toInt8.toInt32).toInt8.toInt32), ((y1.toInt8.toInt32).toInt8.toInt32), ((y2.toInt8.toInt32).toInt8.toInt32), ((y3.toInt8.toInt32).toInt8.toInt32), (-128 : Int32)] 2 = y1.toInt := own_same gy1
      have z2 : own_u [(-128 : Int32), ((y0.toInt8.toInt32).toInt8.toInt32), ((y1.toInt8.toInt32).toInt8.toInt32), ((y2.toInt8.toInt32).toInt8.toInt32), ((y3.toInt8.toInt32).toInt8.toInt32), (-128 : Int32)] 3 = y2.toInt := own_same gy2
      have z3 : own_u [(-128 : Int32), ((y0.toInt8.toInt32).toInt8.toInt32), ((y1.toInt8.toInt32).toInt8.toInt32), ((y2.toInt8.toInt32).toInt8.toInt32), ((y3.toInt8.toInt32).toInt8.toInt32), (-128 : Int32)] 4 = y3.toInt := own_same gy3
      refine own_st (fun t_ => XS.icmpNo (own_here Y227) hx rfl (hb hby at_320) rfl (XT.ii_ne_f rfl)) ?_
      show own_Ends _ _ _ _ (T226.setTop (mkF m 323 #[.val (.int x0), .val (.int x1), .val (.int x2), .val (.int x3), .val (.int x4), .val (.int (0 : Int32)), .val (.ref b138), .val (.ref b166), .val (.int (own_b (own_A1 y0.toInt))), .val (.int v2), .val (.int v3), .val (.int v4), .val (.int (1 : Int32))] []))
      refine own_st (fun t_ => XS.iconst (own_here Y227) hx rfl (hb hby at_323) ) ?_
      show own_Ends _ _ _ _ (T226.setTop (mkF m 324 #[.val (.int x0), .val (.int x1), .val (.int x2), .val (.int x3), .val (.int x4), .val (.int (0 : Int32)), .val (.ref b138), .val (.ref b166), .val (.int (own_b (own_A1 y0.toInt))), .val (.int v2), .val (.int v3), .val (.int v4), .val (.int (1 : Int32))] [(.int (1 : Int32))]))
      refine own_st (fun t_ => XS.goto (own_here Y227) hx rfl (pc0 := 324) (pc' := 328) rfl (hb hby at_324) (by decide) (by decide)) ?_
      show own_Ends _ _ _ _ (T226.setTop (mkF m 328 #[.val (.int x0), .val (.int x1), .val (.int x2), .val (.int x3), .val (.int x4), .val (.int (0 : Int32)), .val (.ref b138), .val (.ref b166), .val (.int (own_b (own_A1 y0.toInt))), .val (.int v2), .val (.int v3), .val (.int v4), .val (.int (1 : Int32))] [(.int (1 : Int32))]))
      refine own_retN Y227 hx hlk (t := .boolean) hret (by simp) (hb hby at_328) (by decide) (by decide) ?_
      exact rfl
     ·
      show own_Ends _ _ _ _ (T224.setTop (mkF m 254 #[.val (.int x0), .val (.int x1), .val (.int x2), .val (.int x3), .val (.int x4), .val (.int (1 : Int32)), .val (.ref b138), .val (.ref b166), .val (.int (own_b (own_A1 y0.toInt))), .val (.int v2), .val (.int v3), .val (.int v4), .unset] []))
      refine own_st (fun t_ => XS.iload (own_here Y225) hx rfl (hb hby at_254) rfl) ?_
      show own_Ends _ _ _ _ (T224.setTop (mkF m 256 #[.val (.int x0), .val (.int x1), .val (.int x2), .val (.int x3), .val (.int x4), .val (.int (1 : Int32)), .val (.ref b138), .val (.ref b166), .val (.int (own_b (own_A1 y0.toInt))), .val (.int v2), .val (.int v3), .val (.int v4), .unset] [(.int (1 : Int32))]))
      refine own_st (fun t_ => XS.ifYes (own_here Y225) hx rfl (pc0 := 256) (pc' := 265) rfl (hb hby at_256) rfl (XT.i0_ne_t (by decide)) (by decide) (by decide)) ?_
      show own_Ends _ _ _ _ (T224.setTop (mkF m 265 #[.val (.int x0), .val (.int x1), .val (.int x2), .val (.int x3), .val (.int x4), .val (.int (1 : Int32)), .val (.ref b138), .val (.ref b166), .val (.int (own_b (own_A1 y0.toInt))), .val (.int v2), .val (.int v3), .val (.int v4), .unset] []))
      refine own_st (fun t_ => XS.iload (own_here Y225) hx rfl (hb hby at_265) rfl) ?_
      show own_Ends _ _ _ _ (T224.setTop (mkF m 267 #[.val (.int x0), .val (.int x1), .val (.int x2), .val (.int x3), .val (.int x4), .val (.int (1 : Int32)), .val (.ref b138), .val (.ref b166), .val (.int (own_b (own_A1 y0.toInt))), .val (.int v2), .val (.int v3), .val (.int v4), .unset] [(.int (1 : Int32))]))
      refine own_st (fun t_ => XS.iconst (own_here Y225) hx rfl (hb hby at_267) ) ?_
      show own_Ends _ _ _ _ (T224.setTop (mkF m 268 #[.val (.int x0), .val (.int x1), .val (.int x2), .val (.int x3), .val (.int x4), .val (.int (1 : Int32)), .val (.ref b138), .val (.ref b166), .val (.int (own_b (own_A1 y0.toInt))), .val (.int v2), .val (.int v3), .val (.int v4), .unset] [(.int (1 : Int32)), (.int (1 : Int32))]))
      refine own_st (fun t_ => XS.icmpNo (own_here Y225) hx rfl (hb hby at_268) rfl (XT.ii_ne_f (by decide))) ?_
      show own_Ends _ _ _ _ (T224.setTop (mkF m 271 #[.val (.int x0), .val (.int x1), .val (.int x2), .val (.int x3), .val (.int x4), .val (.int (1 : Int32)), .val (.ref b138), .val (.ref b166), .val (.int (own_b (own_A1 y0.toInt))), .val (.int v2), .val (.int v3), .val (.int v4), .unset] []))
      refine own_st (fun t_ => XS.iload (own_here Y225) hx rfl (hb hby at_271) rfl) ?_
      show own_Ends _ _ _ _ (T224.setTop (mkF m 273 #[.val (.int x0), .val (.int x1), .val (.int x2), .val (.int x3), .val (.int x4), .val (.int (1 : Int32)), .val (.ref b138), .val (.ref b166), .val (.int (own_b (own_A1 y0.toInt))), .val (.int v2), .val (.int v3), .val (.int v4), .unset] [(.int (own_b (own_A1 y0.toInt)))]))
      refine own_st (fun t_ => XS.istore (own_here Y225) hx rfl (hb hby at_273) rfl (l' := #[.val (.int x0), .val (.int x1), .val (.int x2), .val (.int x3), .val (.int x4), .val (.int (1 : Int32)), .val (.ref b138), .val (.ref b166), .val (.int (own_b (own_A1 y0.toInt))), .val (.int v2), .val (.int v3), .val (.int v4), .val (.int (own_b (own_A1 y0.toInt)))]) rfl) ?_
      show own_Ends _ _ _ _ (T224.setTop (mkF m 275 #[.val (.int x0), .val (.int x1), .val (.int x2), .val (.int x3), .val (.int x4), .val (.int (1 : Int32)), .val (.ref b138), .val (.ref b166), .val (.int (own_b (own_A1 y0.toInt))), .val (.int v2), .val (.int v3), .val (.int v4), .val (.int (own_b (own_A1 y0.toInt)))] []))
      refine own_st (fun t_ => XS.goto (own_here Y225) hx rfl (pc0 := 275) (pc' := 308) rfl (hb hby at_275) (by decide) (by decide)) ?_
      show own_Ends _ _ _ _ (T224.setTop (mkF m 308 #[.val (.int x0), .val (.int x1), .val (.int x2), .val (.int x3), .val (.int x4), .val (.int (1 : Int32)), .val (.ref b138), .val (.ref b166), .val (.int (own_b (own_A1 y0.toInt))), .val (.int v2), .val (.int v3), .val (.int v4), .val (.int (own_b (own_A1 y0.toInt)))] []))
      refine own_st (fun t_ => XS.aload (own_here Y225) hx rfl (hb hby at_308) rfl rfl) ?_
      show own_Ends _ _ _ _ (T224.setTop (mkF m 310 #[.val (.int x0), .val (.int x1), .val (.int x2), .val (.int x3), .val (.int x4), .val (.int (1 : Int32)), .val (.ref b138), .val (.ref b166), .val (.int (own_b (own_A1 y0.toInt))), .val (.int v2), .val (.int v3), .val (.int v4), .val (.int (own_b (own_A1 y0.toInt)))] [(.ref b166)]))
      refine own_st (fun t_ => XS.iconst (own_here Y225) hx rfl (hb hby at_310) ) ?_
      show own_Ends _ _ _ _ (T224.setTop (mkF m 311 #[.val (.int x0), .val (.int x1), .val (.int x2), .val (.int x3), .val (.int x4), .val (.int (1 : Int32)), .val (.ref b138), .val (.ref b166), .val (.int (own_b (own_A1 y0.toInt))), .val (.int v2), .val (.int v3), .val (.int v4), .val (.int (own_b (own_A1 y0.toInt)))] [(.int (1 : Int32)), (.ref b166)]))
      refine own_st (fun t_ => XS.iconst (own_here Y225) hx rfl (hb hby at_311) ) ?_
      show own_Ends _ _ _ _ (T224.setTop (mkF m 312 #[.val (.int x0), .val (.int x1), .val (.int x2), .val (.int x3), .val (.int x4), .val (.int (1 : Int32)), .val (.ref b138), .val (.ref b166), .val (.int (own_b (own_A1 y0.toInt))), .val (.int v2), .val (.int v3), .val (.int v4), .val (.int (own_b (own_A1 y0.toInt)))] [(.int (1 : Int32)), (.int (1 : Int32)), (.ref b166)]))
      refine own_st (fun t_ => XS.iload (own_here Y225) hx rfl (hb hby at_312) rfl) ?_
      show own_Ends _ _ _ _ (T224.setTop (mkF m 314 #[.val (.int x0), .val (.int x1), .val (.int x2), .val (.int x3), .val (.int x4), .val (.int (1 : Int32)), .val (.ref b138), .val (.ref b166), .val (.int (own_b (own_A1 y0.toInt))), .val (.int v2), .val (.int v3), .val (.int v4), .val (.int (own_b (own_A1 y0.toInt)))] [(.int (1 : Int32)), (.int (1 : Int32)), (.int (1 : Int32)), (.ref b166)]))
      refine own_st (fun t_ => XS.iadd (own_here Y225) hx rfl (hb hby at_314) rfl) ?_
      show own_Ends _ _ _ _ (T224.setTop (mkF m 315 #[.val (.int x0), .val (.int x1), .val (.int x2), .val (.int x3), .val (.int x4), .val (.int (1 : Int32)), .val (.ref b138), .val (.ref b166), .val (.int (own_b (own_A1 y0.toInt))), .val (.int v2), .val (.int v3), .val (.int v4), .val (.int (own_b (own_A1 y0.toInt)))] [(.int (2 : Int32)), (.int (1 : Int32)), (.ref b166)]))
      refine own_callS Y225 hx hZ (y := (⟨"kombos/graph/Utf8", "isValid", "([BII)Z"⟩ : MethodName)) hown (hw _ (List.mem_of_getElem? (i := 7) rfl)) (hw _ (List.mem_of_getElem? (i := 8) rfl)) (hw _ (List.mem_of_getElem? (i := 9) rfl)) (hw _ (List.mem_of_getElem? (i := 10) rfl)) (by decide) (argsL := [(.ref b166), (.int (1 : Int32)), (.int (2 : Int32))]) (rest := []) (own_rm2 l Z a0 hw [] b166 (1 : Int32) (2 : Int32) [(-128 : Int32), ((y0.toInt8.toInt32).toInt8.toInt32), ((y1.toInt8.toInt32).toInt8.toInt32), ((y2.toInt8.toInt32).toInt8.toInt32), ((y3.toInt8.toInt32).toInt8.toInt32), (-128 : Int32)] 1 2 h207 n0  A209 rfl rfl (by decide) (Nat.le_of_ble_eq_true rfl) (by decide) (own_allB (P := fun x => -128 ≤ x.toInt ∧ x.toInt ≤ 127) (by intro x hx; simp only [List.mem_cons, List.not_mem_nil, or_false] at hx; rcases hx with rfl | rfl | rfl | rfl | rfl | rfl <;> first | decide | (have q := c_i2b ((y0).toInt8.toInt32); omega) | (have q := c_i2b ((y1).toInt8.toInt32); omega) | (have q := c_i2b ((y2).toInt8.toInt32); omega) | (have q := c_i2b ((y3).toInt8.toInt32); omega)) (by decide))) (W := 0) (by decide) (by decide) (by decide) (by decide) rfl (by rw [hml]; rfl) (lenOf own_pd2 rfl) rfl (by show 2 * 0 + _ ≤ _; exact Nat.le_of_eq rfl) (hb hby at_315) (fun T231 h233 v234 Y232 q235 => ?_)
      obtain ⟨rfl, rfl⟩ := q235
      show own_Ends _ _ _ _ (T231.setTop (mkF m 318 #[.val (.int x0), .val (.int x1), .val (.int x2), .val (.int x3), .val (.int x4), .val (.int (1 : Int32)), .val (.ref b138), .val (.ref b166), .val (.int (own_b (own_A1 y0.toInt))), .val (.int v2), .val (.int v3), .val (.int v4), .val (.int (own_b (own_A1 y0.toInt)))] [(.int (own_b (own_V (own_u [(-128 : Int32), ((y0.toInt8.toInt32).toInt8.toInt32), ((y1.toInt8.toInt32).toInt8.toInt32), ((y2.toInt8.toInt32).toInt8.toInt32), ((y3.toInt8.toInt32).toInt8.toInt32), (-128 : Int32)]) 2 (2 - 1) 1)))]))
      refine own_st (fun t_ => XS.iload (own_here Y232) hx rfl (hb hby at_318) rfl) ?_
      show own_Ends _ _ _ _ (T231.setTop (mkF m 320 #[.val (.int x0), .val (.int x1), .val (.int x2), .val (.int x3), .val (.int x4), .val (.int (1 : Int32)), .val (.ref b138), .val (.ref b166), .val (.int (own_b (own_A1 y0.toInt))), .val (.int v2), .val (.int v3), .val (.int v4), .val (.int (own_b (own_A1 y0.toInt)))] [(.int (own_b (own_A1 y0.toInt))), (.int (own_b (own_V (own_u [(-128 : Int32), ((y0.toInt8.toInt32).toInt8.toInt32), ((y1.toInt8.toInt32).toInt8.toInt32), ((y2.toInt8.toInt32).toInt8.toInt32), ((y3.toInt8.toInt32).toInt8.toInt32), (-128 : Int32)]) 2 (2 - 1) 1)))]))
      have z0 : own_u [(-128 : Int32), ((y0.toInt8.toInt32).toInt8.toInt32), ((y1.toInt8.toInt32).toInt8.toInt32), ((y2.toInt8.toInt32).toInt8.toInt32), ((y3.toInt8.toInt32).toInt8.toInt32), (-128 : Int32)] 1 = y0.toInt := own_same gy0
      have z1 : own_u [(-128 : Int32), ((y0.toInt8.toInt32).toInt8.toInt32), ((y1.toInt8.toInt32).toInt8.toInt32), ((y2.toInt8.toInt32).toInt8.toInt32), ((y3.toInt8.toInt32).toInt8.toInt32), (-128 : Int32)] 2 = y1.toInt := own_same gy1
      have z2 : own_u [(-128 : Int32), ((y0.toInt8.toInt32).toInt8.toInt32), ((y1.toInt8.toInt32).toInt8.toInt32), ((y2.toInt8.toInt32).toInt8.toInt32), ((y3.toInt8.toInt32).toInt8.toInt32), (-128 : Int32)] 3 = y2.toInt := own_same gy2
      have z3 : own_u [(-128 : Int32), ((y0.toInt8.toInt32).toInt8.toInt32), ((y1.toInt8.toInt32).toInt8.toInt32), ((y2.toInt8.toInt32).toInt8.toInt32), ((y3.toInt8.toInt32).toInt8.toInt32), (-128 : Int32)] 4 = y3.toInt := own_same gy3
      subst hB3
      subst hB2
      have hl : own_V (own_u [(-128 : Int32), ((y0.toInt8.toInt32).toInt8.toInt32), ((y1.toInt8.toInt32).toInt8.toInt32), ((y2.toInt8.toInt32).toInt8.toInt32), ((y3.toInt8.toInt32).toInt8.toInt32), (-128 : Int32)]) 2 (2 - 1) 1 = (own_A1 y0.toInt) := by
        generalize own_u [(-128 : Int32), ((y0.toInt8.toInt32).toInt8.toInt32), ((y1.toInt8.toInt32).toInt8.toInt32), ((y2.toInt8.toInt32).toInt8.toInt32), ((y3.toInt8.toInt32).toInt8.toInt32), (-128 : Int32)] = u_ at z0 z1 z2 z3 ⊢
        simp [own_V, z0, z1, z2, z3]
      refine own_st (fun t_ => XS.icmpNo (own_here Y232) hx rfl (hb hby at_320) rfl (XT.ii_ne_f (by rw [hl]))) ?_
      show own_Ends _ _ _ _ (T231.setTop (mkF m 323 #[.val (.int x0), .val (.int x1), .val (.int x2), .val (.int x3), .val (.int x4), .val (.int (1 : Int32)), .val (.ref b138), .val (.ref b166), .val (.int (own_b (own_A1 y0.toInt))), .val (.int v2), .val (.int v3), .val (.int v4), .val (.int (own_b (own_A1 y0.toInt)))] []))
      refine own_st (fun t_ => XS.iconst (own_here Y232) hx rfl (hb hby at_323) ) ?_
      show own_Ends _ _ _ _ (T231.setTop (mkF m 324 #[.val (.int x0), .val (.int x1), .val (.int x2), .val (.int x3), .val (.int x4), .val (.int (1 : Int32)), .val (.ref b138), .val (.ref b166), .val (.int (own_b (own_A1 y0.toInt))), .val (.int v2), .val (.int v3), .val (.int v4), .val (.int (own_b (own_A1 y0.toInt)))] [(.int (1 : Int32))]))
      refine own_st (fun t_ => XS.goto (own_here Y232) hx rfl (pc0 := 324) (pc' := 328) rfl (hb hby at_324) (by decide) (by decide)) ?_
      show own_Ends _ _ _ _ (T231.setTop (mkF m 328 #[.val (.int x0), .val (.int x1), .val (.int x2), .val (.int x3), .val (.int x4), .val (.int (1 : Int32)), .val (.ref b138), .val (.ref b166), .val (.int (own_b (own_A1 y0.toInt))), .val (.int v2), .val (.int v3), .val (.int v4), .val (.int (own_b (own_A1 y0.toInt)))] [(.int (1 : Int32))]))
      refine own_retN Y232 hx hlk (t := .boolean) hret (by simp) (hb hby at_328) (by decide) (by decide) ?_
      exact rfl
     ·
      show own_Ends _ _ _ _ (T224.setTop (mkF m 254 #[.val (.int x0), .val (.int x1), .val (.int x2), .val (.int x3), .val (.int x4), .val (.int (2 : Int32)), .val (.ref b138), .val (.ref b166), .val (.int (own_b (own_A1 y0.toInt))), .val (.int v2), .val (.int v3), .val (.int v4), .unset] []))
      refine own_st (fun t_ => XS.iload (own_here Y225) hx rfl (hb hby at_254) rfl) ?_
      show own_Ends _ _ _ _ (T224.setTop (mkF m 256 #[.val (.int x0), .val (.int x1), .val (.int x2), .val (.int x3), .val (.int x4), .val (.int (2 : Int32)), .val (.ref b138), .val (.ref b166), .val (.int (own_b (own_A1 y0.toInt))), .val (.int v2), .val (.int v3), .val (.int v4), .unset] [(.int (2 : Int32))]))
      refine own_st (fun t_ => XS.ifYes (own_here Y225) hx rfl (pc0 := 256) (pc' := 265) rfl (hb hby at_256) rfl (XT.i0_ne_t (by decide)) (by decide) (by decide)) ?_
      show own_Ends _ _ _ _ (T224.setTop (mkF m 265 #[.val (.int x0), .val (.int x1), .val (.int x2), .val (.int x3), .val (.int x4), .val (.int (2 : Int32)), .val (.ref b138), .val (.ref b166), .val (.int (own_b (own_A1 y0.toInt))), .val (.int v2), .val (.int v3), .val (.int v4), .unset] []))
      refine own_st (fun t_ => XS.iload (own_here Y225) hx rfl (hb hby at_265) rfl) ?_
      show own_Ends _ _ _ _ (T224.setTop (mkF m 267 #[.val (.int x0), .val (.int x1), .val (.int x2), .val (.int x3), .val (.int x4), .val (.int (2 : Int32)), .val (.ref b138), .val (.ref b166), .val (.int (own_b (own_A1 y0.toInt))), .val (.int v2), .val (.int v3), .val (.int v4), .unset] [(.int (2 : Int32))]))
      refine own_st (fun t_ => XS.iconst (own_here Y225) hx rfl (hb hby at_267) ) ?_
      show own_Ends _ _ _ _ (T224.setTop (mkF m 268 #[.val (.int x0), .val (.int x1), .val (.int x2), .val (.int x3), .val (.int x4), .val (.int (2 : Int32)), .val (.ref b138), .val (.ref b166), .val (.int (own_b (own_A1 y0.toInt))), .val (.int v2), .val (.int v3), .val (.int v4), .unset] [(.int (1 : Int32)), (.int (2 : Int32))]))
      refine own_st (fun t_ => XS.icmpYes (own_here Y225) hx rfl (pc0 := 268) (pc' := 278) rfl (hb hby at_268) rfl (XT.ii_ne_t (by decide)) (by decide) (by decide)) ?_
      show own_Ends _ _ _ _ (T224.setTop (mkF m 278 #[.val (.int x0), .val (.int x1), .val (.int x2), .val (.int x3), .val (.int x4), .val (.int (2 : Int32)), .val (.ref b138), .val (.ref b166), .val (.int (own_b (own_A1 y0.toInt))), .val (.int v2), .val (.int v3), .val (.int v4), .unset] []))
      refine own_st (fun t_ => XS.iload (own_here Y225) hx rfl (hb hby at_278) rfl) ?_
      show own_Ends _ _ _ _ (T224.setTop (mkF m 280 #[.val (.int x0), .val (.int x1), .val (.int x2), .val (.int x3), .val (.int x4), .val (.int (2 : Int32)), .val (.ref b138), .val (.ref b166), .val (.int (own_b (own_A1 y0.toInt))), .val (.int v2), .val (.int v3), .val (.int v4), .unset] [(.int (2 : Int32))]))
      refine own_st (fun t_ => XS.iconst (own_here Y225) hx rfl (hb hby at_280) ) ?_
      show own_Ends _ _ _ _ (T224.setTop (mkF m 281 #[.val (.int x0), .val (.int x1), .val (.int x2), .val (.int x3), .val (.int x4), .val (.int (2 : Int32)), .val (.ref b138), .val (.ref b166), .val (.int (own_b (own_A1 y0.toInt))), .val (.int v2), .val (.int v3), .val (.int v4), .unset] [(.int (2 : Int32)), (.int (2 : Int32))]))
      refine own_st (fun t_ => XS.icmpNo (own_here Y225) hx rfl (hb hby at_281) rfl (XT.ii_ne_f (by decide))) ?_
      show own_Ends _ _ _ _ (T224.setTop (mkF m 284 #[.val (.int x0), .val (.int x1), .val (.int x2), .val (.int x3), .val (.int x4), .val (.int (2 : Int32)), .val (.ref b138), .val (.ref b166), .val (.int (own_b (own_A1 y0.toInt))), .val (.int v2), .val (.int v3), .val (.int v4), .unset] []))
      refine own_st (fun t_ => XS.iload (own_here Y225) hx rfl (hb hby at_284) rfl) ?_
      show own_Ends _ _ _ _ (T224.setTop (mkF m 286 #[.val (.int x0), .val (.int x1), .val (.int x2), .val (.int x3), .val (.int x4), .val (.int (2 : Int32)), .val (.ref b138), .val (.ref b166), .val (.int (own_b (own_A1 y0.toInt))), .val (.int v2), .val (.int v3), .val (.int v4), .unset] [(.int v2)]))
      refine own_st (fun t_ => XS.istore (own_here Y225) hx rfl (hb hby at_286) rfl (l' := #[.val (.int x0), .val (.int x1), .val (.int x2), .val (.int x3), .val (.int x4), .val (.int (2 : Int32)), .val (.ref b138), .val (.ref b166), .val (.int (own_b (own_A1 y0.toInt))), .val (.int v2), .val (.int v3), .val (.int v4), .val (.int v2)]) rfl) ?_
      show own_Ends _ _ _ _ (T224.setTop (mkF m 288 #[.val (.int x0), .val (.int x1), .val (.int x2), .val (.int x3), .val (.int x4), .val (.int (2 : Int32)), .val (.ref b138), .val (.ref b166), .val (.int (own_b (own_A1 y0.toInt))), .val (.int v2), .val (.int v3), .val (.int v4), .val (.int v2)] []))
      refine own_st (fun t_ => XS.goto (own_here Y225) hx rfl (pc0 := 288) (pc' := 308) rfl (hb hby at_288) (by decide) (by decide)) ?_
      show own_Ends _ _ _ _ (T224.setTop (mkF m 308 #[.val (.int x0), .val (.int x1), .val (.int x2), .val (.int x3), .val (.int x4), .val (.int (2 : Int32)), .val (.ref b138), .val (.ref b166), .val (.int (own_b (own_A1 y0.toInt))), .val (.int v2), .val (.int v3), .val (.int v4), .val (.int v2)] []))
      refine own_st (fun t_ => XS.aload (own_here Y225) hx rfl (hb hby at_308) rfl rfl) ?_
      show own_Ends _ _ _ _ (T224.setTop (mkF m 310 #[.val (.int x0), .val (.int x1), .val (.int x2), .val (.int x3), .val (.int x4), .val (.int (2 : Int32)), .val (.ref b138), .val (.ref b166), .val (.int (own_b (own_A1 y0.toInt))), .val (.int v2), .val (.int v3), .val (.int v4), .val (.int v2)] [(.ref b166)]))
      refine own_st (fun t_ => XS.iconst (own_here Y225) hx rfl (hb hby at_310) ) ?_
      show own_Ends _ _ _ _ (T224.setTop (mkF m 311 #[.val (.int x0), .val (.int x1), .val (.int x2), .val (.int x3), .val (.int x4), .val (.int (2 : Int32)), .val (.ref b138), .val (.ref b166), .val (.int (own_b (own_A1 y0.toInt))), .val (.int v2), .val (.int v3), .val (.int v4), .val (.int v2)] [(.int (1 : Int32)), (.ref b166)]))
      refine own_st (fun t_ => XS.iconst (own_here Y225) hx rfl (hb hby at_311) ) ?_
      show own_Ends _ _ _ _ (T224.setTop (mkF m 312 #[.val (.int x0), .val (.int x1), .val (.int x2), .val (.int x3), .val (.int x4), .val (.int (2 : Int32)), .val (.ref b138), .val (.ref b166), .val (.int (own_b (own_A1 y0.toInt))), .val (.int v2), .val (.int v3), .val (.int v4), .val (.int v2)] [(.int (1 : Int32)), (.int (1 : Int32)), (.ref b166)]))
      refine own_st (fun t_ => XS.iload (own_here Y225) hx rfl (hb hby at_312) rfl) ?_
      show own_Ends _ _ _ _ (T224.setTop (mkF m 314 #[.val (.int x0), .val (.int x1), .val (.int x2), .val (.int x3), .val (.int x4), .val (.int (2 : Int32)), .val (.ref b138), .val (.ref b166), .val (.int (own_b (own_A1 y0.toInt))), .val (.int v2), .val (.int v3), .val (.int v4), .val (.int v2)] [(.int (2 : Int32)), (.int (1 : Int32)), (.int (1 : Int32)), (.ref b166)]))
      refine own_st (fun t_ => XS.iadd (own_here Y225) hx rfl (hb hby at_314) rfl) ?_
      show own_Ends _ _ _ _ (T224.setTop (mkF m 315 #[.val (.int x0), .val (.int x1), .val (.int x2), .val (.int x3), .val (.int x4), .val (.int (2 : Int32)), .val (.ref b138), .val (.ref b166), .val (.int (own_b (own_A1 y0.toInt))), .val (.int v2), .val (.int v3), .val (.int v4), .val (.int v2)] [(.int (3 : Int32)), (.int (1 : Int32)), (.ref b166)]))
      refine own_callS Y225 hx hZ (y := (⟨"kombos/graph/Utf8", "isValid", "([BII)Z"⟩ : MethodName)) hown (hw _ (List.mem_of_getElem? (i := 7) rfl)) (hw _ (List.mem_of_getElem? (i := 8) rfl)) (hw _ (List.mem_of_getElem? (i := 9) rfl)) (hw _ (List.mem_of_getElem? (i := 10) rfl)) (by decide) (argsL := [(.ref b166), (.int (1 : Int32)), (.int (3 : Int32))]) (rest := []) (own_rm2 l Z a0 hw [] b166 (1 : Int32) (3 : Int32) [(-128 : Int32), ((y0.toInt8.toInt32).toInt8.toInt32), ((y1.toInt8.toInt32).toInt8.toInt32), ((y2.toInt8.toInt32).toInt8.toInt32), ((y3.toInt8.toInt32).toInt8.toInt32), (-128 : Int32)] 1 3 h207 n0  A209 rfl rfl (by decide) (Nat.le_of_ble_eq_true rfl) (by decide) (own_allB (P := fun x => -128 ≤ x.toInt ∧ x.toInt ≤ 127) (by intro x hx; simp only [List.mem_cons, List.not_mem_nil, or_false] at hx; rcases hx with rfl | rfl | rfl | rfl | rfl | rfl <;> first | decide | (have q := c_i2b ((y0).toInt8.toInt32); omega) | (have q := c_i2b ((y1).toInt8.toInt32); omega) | (have q := c_i2b ((y2).toInt8.toInt32); omega) | (have q := c_i2b ((y3).toInt8.toInt32); omega)) (by decide))) (W := 0) (by decide) (by decide) (by decide) (by decide) rfl (by rw [hml]; rfl) (lenOf own_pd2 rfl) rfl (by show 2 * 0 + _ ≤ _; exact Nat.le_of_eq rfl) (hb hby at_315) (fun T236 h238 v239 Y237 q240 => ?_)
      obtain ⟨rfl, rfl⟩ := q240
      show own_Ends _ _ _ _ (T236.setTop (mkF m 318 #[.val (.int x0), .val (.int x1), .val (.int x2), .val (.int x3), .val (.int x4), .val (.int (2 : Int32)), .val (.ref b138), .val (.ref b166), .val (.int (own_b (own_A1 y0.toInt))), .val (.int v2), .val (.int v3), .val (.int v4), .val (.int v2)] [(.int (own_b (own_V (own_u [(-128 : Int32), ((y0.toInt8.toInt32).toInt8.toInt32), ((y1.toInt8.toInt32).toInt8.toInt32), ((y2.toInt8.toInt32).toInt8.toInt32), ((y3.toInt8.toInt32).toInt8.toInt32), (-128 : Int32)]) 3 (3 - 1) 1)))]))
      refine own_st (fun t_ => XS.iload (own_here Y237) hx rfl (hb hby at_318) rfl) ?_
      show own_Ends _ _ _ _ (T236.setTop (mkF m 320 #[.val (.int x0), .val (.int x1), .val (.int x2), .val (.int x3), .val (.int x4), .val (.int (2 : Int32)), .val (.ref b138), .val (.ref b166), .val (.int (own_b (own_A1 y0.toInt))), .val (.int v2), .val (.int v3), .val (.int v4), .val (.int v2)] [(.int v2), (.int (own_b (own_V (own_u [(-128 : Int32), ((y0.toInt8.toInt32).toInt8.toInt32), ((y1.toInt8.toInt32).toInt8.toInt32), ((y2.toInt8.toInt32).toInt8.toInt32), ((y3.toInt8.toInt32).toInt8.toInt32), (-128 : Int32)]) 3 (3 - 1) 1)))]))
      have z0 : own_u [(-128 : Int32), ((y0.toInt8.toInt32).toInt8.toInt32), ((y1.toInt8.toInt32).toInt8.toInt32), ((y2.toInt8.toInt32).toInt8.toInt32), ((y3.toInt8.toInt32).toInt8.toInt32), (-128 : Int32)] 1 = y0.toInt := own_same gy0
      have z1 : own_u [(-128 : Int32), ((y0.toInt8.toInt32).toInt8.toInt32), ((y1.toInt8.toInt32).toInt8.toInt32), ((y2.toInt8.toInt32).toInt8.toInt32), ((y3.toInt8.toInt32).toInt8.toInt32), (-128 : Int32)] 2 = y1.toInt := own_same gy1
      have z2 : own_u [(-128 : Int32), ((y0.toInt8.toInt32).toInt8.toInt32), ((y1.toInt8.toInt32).toInt8.toInt32), ((y2.toInt8.toInt32).toInt8.toInt32), ((y3.toInt8.toInt32).toInt8.toInt32), (-128 : Int32)] 3 = y2.toInt := own_same gy2
      have z3 : own_u [(-128 : Int32), ((y0.toInt8.toInt32).toInt8.toInt32), ((y1.toInt8.toInt32).toInt8.toInt32), ((y2.toInt8.toInt32).toInt8.toInt32), ((y3.toInt8.toInt32).toInt8.toInt32), (-128 : Int32)] 4 = y3.toInt := own_same gy3
      subst hB3
      subst hB2
      have hl : own_V (own_u [(-128 : Int32), ((y0.toInt8.toInt32).toInt8.toInt32), ((y1.toInt8.toInt32).toInt8.toInt32), ((y2.toInt8.toInt32).toInt8.toInt32), ((y3.toInt8.toInt32).toInt8.toInt32), (-128 : Int32)]) 3 (3 - 1) 1 = ((own_A1 y0.toInt) && (own_A1 y1.toInt) || (own_A2 y0.toInt y1.toInt)) := by
        generalize own_u [(-128 : Int32), ((y0.toInt8.toInt32).toInt8.toInt32), ((y1.toInt8.toInt32).toInt8.toInt32), ((y2.toInt8.toInt32).toInt8.toInt32), ((y3.toInt8.toInt32).toInt8.toInt32), (-128 : Int32)] = u_ at z0 z1 z2 z3 ⊢
        simp [own_V, z0, z1, z2, z3]
      refine own_st (fun t_ => XS.icmpNo (own_here Y237) hx rfl (hb hby at_320) rfl (XT.ii_ne_f (by rw [hl, hv2]))) ?_
      show own_Ends _ _ _ _ (T236.setTop (mkF m 323 #[.val (.int x0), .val (.int x1), .val (.int x2), .val (.int x3), .val (.int x4), .val (.int (2 : Int32)), .val (.ref b138), .val (.ref b166), .val (.int (own_b (own_A1 y0.toInt))), .val (.int v2), .val (.int v3), .val (.int v4), .val (.int v2)] []))
      refine own_st (fun t_ => XS.iconst (own_here Y237) hx rfl (hb hby at_323) ) ?_
      show own_Ends _ _ _ _ (T236.setTop (mkF m 324 #[.val (.int x0), .val (.int x1), .val (.int x2), .val (.int x3), .val (.int x4), .val (.int (2 : Int32)), .val (.ref b138), .val (.ref b166), .val (.int (own_b (own_A1 y0.toInt))), .val (.int v2), .val (.int v3), .val (.int v4), .val (.int v2)] [(.int (1 : Int32))]))
      refine own_st (fun t_ => XS.goto (own_here Y237) hx rfl (pc0 := 324) (pc' := 328) rfl (hb hby at_324) (by decide) (by decide)) ?_
      show own_Ends _ _ _ _ (T236.setTop (mkF m 328 #[.val (.int x0), .val (.int x1), .val (.int x2), .val (.int x3), .val (.int x4), .val (.int (2 : Int32)), .val (.ref b138), .val (.ref b166), .val (.int (own_b (own_A1 y0.toInt))), .val (.int v2), .val (.int v3), .val (.int v4), .val (.int v2)] [(.int (1 : Int32))]))
      refine own_retN Y237 hx hlk (t := .boolean) hret (by simp) (hb hby at_328) (by decide) (by decide) ?_
      exact rfl
     ·
      show own_Ends _ _ _ _ (T224.setTop (mkF m 254 #[.val (.int x0), .val (.int x1), .val (.int x2), .val (.int x3), .val (.int x4), .val (.int (3 : Int32)), .val (.ref b138), .val (.ref b166), .val (.int (own_b (own_A1 y0.toInt))), .val (.int v2), .val (.int v3), .val (.int v4), .unset] []))
      refine own_st (fun t_ => XS.iload (own_here Y225) hx rfl (hb hby at_254) rfl) ?_
      show own_Ends _ _ _ _ (T224.setTop (mkF m 256 #[.val (.int x0), .val (.int x1), .val (.int x2), .val (.int x3), .val (.int x4), .val (.int (3 : Int32)), .val (.ref b138), .val (.ref b166), .val (.int (own_b (own_A1 y0.toInt))), .val (.int v2), .val (.int v3), .val (.int v4), .unset] [(.int (3 : Int32))]))
      refine own_st (fun t_ => XS.ifYes (own_here Y225) hx rfl (pc0 := 256) (pc' := 265) rfl (hb hby at_256) rfl (XT.i0_ne_t (by decide)) (by decide) (by decide)) ?_
      show own_Ends _ _ _ _ (T224.setTop (mkF m 265 #[.val (.int x0), .val (.int x1), .val (.int x2), .val (.int x3), .val (.int x4), .val (.int (3 : Int32)), .val (.ref b138), .val (.ref b166), .val (.int (own_b (own_A1 y0.toInt))), .val (.int v2), .val (.int v3), .val (.int v4), .unset] []))
      refine own_st (fun t_ => XS.iload (own_here Y225) hx rfl (hb hby at_265) rfl) ?_
      show own_Ends _ _ _ _ (T224.setTop (mkF m 267 #[.val (.int x0), .val (.int x1), .val (.int x2), .val (.int x3), .val (.int x4), .val (.int (3 : Int32)), .val (.ref b138), .val (.ref b166), .val (.int (own_b (own_A1 y0.toInt))), .val (.int v2), .val (.int v3), .val (.int v4), .unset] [(.int (3 : Int32))]))
      refine own_st (fun t_ => XS.iconst (own_here Y225) hx rfl (hb hby at_267) ) ?_
      show own_Ends _ _ _ _ (T224.setTop (mkF m 268 #[.val (.int x0), .val (.int x1), .val (.int x2), .val (.int x3), .val (.int x4), .val (.int (3 : Int32)), .val (.ref b138), .val (.ref b166), .val (.int (own_b (own_A1 y0.toInt))), .val (.int v2), .val (.int v3), .val (.int v4), .unset] [(.int (1 : Int32)), (.int (3 : Int32))]))
      refine own_st (fun t_ => XS.icmpYes (own_here Y225) hx rfl (pc0 := 268) (pc' := 278) rfl (hb hby at_268) rfl (XT.ii_ne_t (by decide)) (by decide) (by decide)) ?_
      show own_Ends _ _ _ _ (T224.setTop (mkF m 278 #[.val (.int x0), .val (.int x1), .val (.int x2), .val (.int x3), .val (.int x4), .val (.int (3 : Int32)), .val (.ref b138), .val (.ref b166), .val (.int (own_b (own_A1 y0.toInt))), .val (.int v2), .val (.int v3), .val (.int v4), .unset] []))
      refine own_st (fun t_ => XS.iload (own_here Y225) hx rfl (hb hby at_278) rfl) ?_
      show own_Ends _ _ _ _ (T224.setTop (mkF m 280 #[.val (.int x0), .val (.int x1), .val (.int x2), .val (.int x3), .val (.int x4), .val (.int (3 : Int32)), .val (.ref b138), .val (.ref b166), .val (.int (own_b (own_A1 y0.toInt))), .val (.int v2), .val (.int v3), .val (.int v4), .unset] [(.int (3 : Int32))]))
      refine own_st (fun t_ => XS.iconst (own_here Y225) hx rfl (hb hby at_280) ) ?_
      show own_Ends _ _ _ _ (T224.setTop (mkF m 281 #[.val (.int x0), .val (.int x1), .val (.int x2), .val (.int x3), .val (.int x4), .val (.int (3 : Int32)), .val (.ref b138), .val (.ref b166), .val (.int (own_b (own_A1 y0.toInt))), .val (.int v2), .val (.int v3), .val (.int v4), .unset] [(.int (2 : Int32)), (.int (3 : Int32))]))
      refine own_st (fun t_ => XS.icmpYes (own_here Y225) hx rfl (pc0 := 281) (pc' := 291) rfl (hb hby at_281) rfl (XT.ii_ne_t (by decide)) (by decide) (by decide)) ?_
      show own_Ends _ _ _ _ (T224.setTop (mkF m 291 #[.val (.int x0), .val (.int x1), .val (.int x2), .val (.int x3), .val (.int x4), .val (.int (3 : Int32)), .val (.ref b138), .val (.ref b166), .val (.int (own_b (own_A1 y0.toInt))), .val (.int v2), .val (.int v3), .val (.int v4), .unset] []))
      refine own_st (fun t_ => XS.iload (own_here Y225) hx rfl (hb hby at_291) rfl) ?_
      show own_Ends _ _ _ _ (T224.setTop (mkF m 293 #[.val (.int x0), .val (.int x1), .val (.int x2), .val (.int x3), .val (.int x4), .val (.int (3 : Int32)), .val (.ref b138), .val (.ref b166), .val (.int (own_b (own_A1 y0.toInt))), .val (.int v2), .val (.int v3), .val (.int v4), .unset] [(.int (3 : Int32))]))
      refine own_st (fun t_ => XS.iconst (own_here Y225) hx rfl (hb hby at_293) ) ?_
      show own_Ends _ _ _ _ (T224.setTop (mkF m 294 #[.val (.int x0), .val (.int x1), .val (.int x2), .val (.int x3), .val (.int x4), .val (.int (3 : Int32)), .val (.ref b138), .val (.ref b166), .val (.int (own_b (own_A1 y0.toInt))), .val (.int v2), .val (.int v3), .val (.int v4), .unset] [(.int (3 : Int32)), (.int (3 : Int32))]))
      refine own_st (fun t_ => XS.icmpNo (own_here Y225) hx rfl (hb hby at_294) rfl (XT.ii_ne_f (by decide))) ?_
      show own_Ends _ _ _ _ (T224.setTop (mkF m 297 #[.val (.int x0), .val (.int x1), .val (.int x2), .val (.int x3), .val (.int x4), .val (.int (3 : Int32)), .val (.ref b138), .val (.ref b166), .val (.int (own_b (own_A1 y0.toInt))), .val (.int v2), .val (.int v3), .val (.int v4), .unset] []))
      refine own_st (fun t_ => XS.iload (own_here Y225) hx rfl (hb hby at_297) rfl) ?_
      show own_Ends _ _ _ _ (T224.setTop (mkF m 299 #[.val (.int x0), .val (.int x1), .val (.int x2), .val (.int x3), .val (.int x4), .val (.int (3 : Int32)), .val (.ref b138), .val (.ref b166), .val (.int (own_b (own_A1 y0.toInt))), .val (.int v2), .val (.int v3), .val (.int v4), .unset] [(.int v3)]))
      refine own_st (fun t_ => XS.istore (own_here Y225) hx rfl (hb hby at_299) rfl (l' := #[.val (.int x0), .val (.int x1), .val (.int x2), .val (.int x3), .val (.int x4), .val (.int (3 : Int32)), .val (.ref b138), .val (.ref b166), .val (.int (own_b (own_A1 y0.toInt))), .val (.int v2), .val (.int v3), .val (.int v4), .val (.int v3)]) rfl) ?_
      show own_Ends _ _ _ _ (T224.setTop (mkF m 301 #[.val (.int x0), .val (.int x1), .val (.int x2), .val (.int x3), .val (.int x4), .val (.int (3 : Int32)), .val (.ref b138), .val (.ref b166), .val (.int (own_b (own_A1 y0.toInt))), .val (.int v2), .val (.int v3), .val (.int v4), .val (.int v3)] []))
      refine own_st (fun t_ => XS.goto (own_here Y225) hx rfl (pc0 := 301) (pc' := 308) rfl (hb hby at_301) (by decide) (by decide)) ?_
      show own_Ends _ _ _ _ (T224.setTop (mkF m 308 #[.val (.int x0), .val (.int x1), .val (.int x2), .val (.int x3), .val (.int x4), .val (.int (3 : Int32)), .val (.ref b138), .val (.ref b166), .val (.int (own_b (own_A1 y0.toInt))), .val (.int v2), .val (.int v3), .val (.int v4), .val (.int v3)] []))
      refine own_st (fun t_ => XS.aload (own_here Y225) hx rfl (hb hby at_308) rfl rfl) ?_
      show own_Ends _ _ _ _ (T224.setTop (mkF m 310 #[.val (.int x0), .val (.int x1), .val (.int x2), .val (.int x3), .val (.int x4), .val (.int (3 : Int32)), .val (.ref b138), .val (.ref b166), .val (.int (own_b (own_A1 y0.toInt))), .val (.int v2), .val (.int v3), .val (.int v4), .val (.int v3)] [(.ref b166)]))
      refine own_st (fun t_ => XS.iconst (own_here Y225) hx rfl (hb hby at_310) ) ?_
      show own_Ends _ _ _ _ (T224.setTop (mkF m 311 #[.val (.int x0), .val (.int x1), .val (.int x2), .val (.int x3), .val (.int x4), .val (.int (3 : Int32)), .val (.ref b138), .val (.ref b166), .val (.int (own_b (own_A1 y0.toInt))), .val (.int v2), .val (.int v3), .val (.int v4), .val (.int v3)] [(.int (1 : Int32)), (.ref b166)]))
      refine own_st (fun t_ => XS.iconst (own_here Y225) hx rfl (hb hby at_311) ) ?_
      show own_Ends _ _ _ _ (T224.setTop (mkF m 312 #[.val (.int x0), .val (.int x1), .val (.int x2), .val (.int x3), .val (.int x4), .val (.int (3 : Int32)), .val (.ref b138), .val (.ref b166), .val (.int (own_b (own_A1 y0.toInt))), .val (.int v2), .val (.int v3), .val (.int v4), .val (.int v3)] [(.int (1 : Int32)), (.int (1 : Int32)), (.ref b166)]))
      refine own_st (fun t_ => XS.iload (own_here Y225) hx rfl (hb hby at_312) rfl) ?_
      show own_Ends _ _ _ _ (T224.setTop (mkF m 314 #[.val (.int x0), .val (.int x1), .val (.int x2), .val (.int x3), .val (.int x4), .val (.int (3 : Int32)), .val (.ref b138), .val (.ref b166), .val (.int (own_b (own_A1 y0.toInt))), .val (.int v2), .val (.int v3), .val (.int v4), .val (.int v3)] [(.int (3 : Int32)), (.int (1 : Int32)), (.int (1 : Int32)), (.ref b166)]))
      refine own_st (fun t_ => XS.iadd (own_here Y225) hx rfl (hb hby at_314) rfl) ?_
      show own_Ends _ _ _ _ (T224.setTop (mkF m 315 #[.val (.int x0), .val (.int x1), .val (.int x2), .val (.int x3), .val (.int x4), .val (.int (3 : Int32)), .val (.ref b138), .val (.ref b166), .val (.int (own_b (own_A1 y0.toInt))), .val (.int v2), .val (.int v3), .val (.int v4), .val (.int v3)] [(.int (4 : Int32)), (.int (1 : Int32)), (.ref b166)]))
      refine own_callS Y225 hx hZ (y := (⟨"kombos/graph/Utf8", "isValid", "([BII)Z"⟩ : MethodName)) hown (hw _ (List.mem_of_getElem? (i := 7) rfl)) (hw _ (List.mem_of_getElem? (i := 8) rfl)) (hw _ (List.mem_of_getElem? (i := 9) rfl)) (hw _ (List.mem_of_getElem? (i := 10) rfl)) (by decide) (argsL := [(.ref b166), (.int (1 : Int32)), (.int (4 : Int32))]) (rest := []) (own_rm2 l Z a0 hw [] b166 (1 : Int32) (4 : Int32) [(-128 : Int32), ((y0.toInt8.toInt32).toInt8.toInt32), ((y1.toInt8.toInt32).toInt8.toInt32), ((y2.toInt8.toInt32).toInt8.toInt32), ((y3.toInt8.toInt32).toInt8.toInt32), (-128 : Int32)] 1 4 h207 n0  A209 rfl rfl (by decide) (Nat.le_of_ble_eq_true rfl) (by decide) (own_allB (P := fun x => -128 ≤ x.toInt ∧ x.toInt ≤ 127) (by intro x hx; simp only [List.mem_cons, List.not_mem_nil, or_false] at hx; rcases hx with rfl | rfl | rfl | rfl | rfl | rfl <;> first | decide | (have q := c_i2b ((y0).toInt8.toInt32); omega) | (have q := c_i2b ((y1).toInt8.toInt32); omega) | (have q := c_i2b ((y2).toInt8.toInt32); omega) | (have q := c_i2b ((y3).toInt8.toInt32); omega)) (by decide))) (W := 0) (by decide) (by decide) (by decide) (by decide) rfl (by rw [hml]; rfl) (lenOf own_pd2 rfl) rfl (by show 2 * 0 + _ ≤ _; exact Nat.le_of_eq rfl) (hb hby at_315) (fun T241 h243 v244 Y242 q245 => ?_)
      obtain ⟨rfl, rfl⟩ := q245
      show own_Ends _ _ _ _ (T241.setTop (mkF m 318 #[.val (.int x0), .val (.int x1), .val (.int x2), .val (.int x3), .val (.int x4), .val (.int (3 : Int32)), .val (.ref b138), .val (.ref b166), .val (.int (own_b (own_A1 y0.toInt))), .val (.int v2), .val (.int v3), .val (.int v4), .val (.int v3)] [(.int (own_b (own_V (own_u [(-128 : Int32), ((y0.toInt8.toInt32).toInt8.toInt32), ((y1.toInt8.toInt32).toInt8.toInt32), ((y2.toInt8.toInt32).toInt8.toInt32), ((y3.toInt8.toInt32).toInt8.toInt32), (-128 : Int32)]) 4 (4 - 1) 1)))]))
      refine own_st (fun t_ => XS.iload (own_here Y242) hx rfl (hb hby at_318) rfl) ?_
      show own_Ends _ _ _ _ (T241.setTop (mkF m 320 #[.val (.int x0), .val (.int x1), .val (.int x2), .val (.int x3), .val (.int x4), .val (.int (3 : Int32)), .val (.ref b138), .val (.ref b166), .val (.int (own_b (own_A1 y0.toInt))), .val (.int v2), .val (.int v3), .val (.int v4), .val (.int v3)] [(.int v3), (.int (own_b (own_V (own_u [(-128 : Int32), ((y0.toInt8.toInt32).toInt8.toInt32), ((y1.toInt8.toInt32).toInt8.toInt32), ((y2.toInt8.toInt32).toInt8.toInt32), ((y3.toInt8.toInt32).toInt8.toInt32), (-128 : Int32)]) 4 (4 - 1) 1)))]))
      have z0 : own_u [(-128 : Int32), ((y0.toInt8.toInt32).toInt8.toInt32), ((y1.toInt8.toInt32).toInt8.toInt32), ((y2.toInt8.toInt32).toInt8.toInt32), ((y3.toInt8.toInt32).toInt8.toInt32), (-128 : Int32)] 1 = y0.toInt := own_same gy0
      have z1 : own_u [(-128 : Int32), ((y0.toInt8.toInt32).toInt8.toInt32), ((y1.toInt8.toInt32).toInt8.toInt32), ((y2.toInt8.toInt32).toInt8.toInt32), ((y3.toInt8.toInt32).toInt8.toInt32), (-128 : Int32)] 2 = y1.toInt := own_same gy1
      have z2 : own_u [(-128 : Int32), ((y0.toInt8.toInt32).toInt8.toInt32), ((y1.toInt8.toInt32).toInt8.toInt32), ((y2.toInt8.toInt32).toInt8.toInt32), ((y3.toInt8.toInt32).toInt8.toInt32), (-128 : Int32)] 3 = y2.toInt := own_same gy2
      have z3 : own_u [(-128 : Int32), ((y0.toInt8.toInt32).toInt8.toInt32), ((y1.toInt8.toInt32).toInt8.toInt32), ((y2.toInt8.toInt32).toInt8.toInt32), ((y3.toInt8.toInt32).toInt8.toInt32), (-128 : Int32)] 4 = y3.toInt := own_same gy3
      subst hB3
      subst hB2
      have hl : own_V (own_u [(-128 : Int32), ((y0.toInt8.toInt32).toInt8.toInt32), ((y1.toInt8.toInt32).toInt8.toInt32), ((y2.toInt8.toInt32).toInt8.toInt32), ((y3.toInt8.toInt32).toInt8.toInt32), (-128 : Int32)]) 4 (4 - 1) 1 = ((((own_A1 y0.toInt) && (own_A1 y1.toInt) || (own_A2 y0.toInt y1.toInt)) && (own_A1 y2.toInt)) || ((own_A1 y0.toInt) && (own_A2 y1.toInt y2.toInt)) || (own_A3 y0.toInt y1.toInt y2.toInt)) := by
        generalize own_u [(-128 : Int32), ((y0.toInt8.toInt32).toInt8.toInt32), ((y1.toInt8.toInt32).toInt8.toInt32), ((y2.toInt8.toInt32).toInt8.toInt32), ((y3.toInt8.toInt32).toInt8.toInt32), (-128 : Int32)] = u_ at z0 z1 z2 z3 ⊢
        have B := own_bools3 (own_A1 y0.toInt) (own_A2 y0.toInt y1.toInt) (own_A3 y0.toInt y1.toInt y2.toInt) (own_A1 y1.toInt) (own_A2 y1.toInt y2.toInt) (own_A1 y2.toInt)
        simpa [own_V, z0, z1, z2, z3] using B
      refine own_st (fun t_ => XS.icmpNo (own_here Y242) hx rfl (hb hby at_320) rfl (XT.ii_ne_f (by rw [hl, hv3]))) ?_
      show own_Ends _ _ _ _ (T241.setTop (mkF m 323 #[.val (.int x0), .val (.int x1), .val (.int x2), .val (.int x3), .val (.int x4), .val (.int (3 : Int32)), .val (.ref b138), .val (.ref b166), .val (.int (own_b (own_A1 y0.toInt))), .val (.int v2), .val (.int v3), .val (.int v4), .val (.int v3)] []))
      refine own_st (fun t_ => XS.iconst (own_here Y242) hx rfl (hb hby at_323) ) ?_
      show own_Ends _ _ _ _ (T241.setTop (mkF m 324 #[.val (.int x0), .val (.int x1), .val (.int x2), .val (.int x3), .val (.int x4), .val (.int (3 : Int32)), .val (.ref b138), .val (.ref b166), .val (.int (own_b (own_A1 y0.toInt))), .val (.int v2), .val (.int v3), .val (.int v4), .val (.int v3)] [(.int (1 : Int32))]))
      refine own_st (fun t_ => XS.goto (own_here Y242) hx rfl (pc0 := 324) (pc' := 328) rfl (hb hby at_324) (by decide) (by decide)) ?_
      show own_Ends _ _ _ _ (T241.setTop (mkF m 328 #[.val (.int x0), .val (.int x1), .val (.int x2), .val (.int x3), .val (.int x4), .val (.int (3 : Int32)), .val (.ref b138), .val (.ref b166), .val (.int (own_b (own_A1 y0.toInt))), .val (.int v2), .val (.int v3), .val (.int v4), .val (.int v3)] [(.int (1 : Int32))]))
      refine own_retN Y242 hx hlk (t := .boolean) hret (by simp) (hb hby at_328) (by decide) (by decide) ?_
      exact rfl
     ·
      show own_Ends _ _ _ _ (T224.setTop (mkF m 254 #[.val (.int x0), .val (.int x1), .val (.int x2), .val (.int x3), .val (.int x4), .val (.int (4 : Int32)), .val (.ref b138), .val (.ref b166), .val (.int (own_b (own_A1 y0.toInt))), .val (.int v2), .val (.int v3), .val (.int v4), .unset] []))
      refine own_st (fun t_ => XS.iload (own_here Y225) hx rfl (hb hby at_254) rfl) ?_
      show own_Ends _ _ _ _ (T224.setTop (mkF m 256 #[.val (.int x0), .val (.int x1), .val (.int x2), .val (.int x3), .val (.int x4), .val (.int (4 : Int32)), .val (.ref b138), .val (.ref b166), .val (.int (own_b (own_A1 y0.toInt))), .val (.int v2), .val (.int v3), .val (.int v4), .unset] [(.int (4 : Int32))]))
      refine own_st (fun t_ => XS.ifYes (own_here Y225) hx rfl (pc0 := 256) (pc' := 265) rfl (hb hby at_256) rfl (XT.i0_ne_t (by decide)) (by decide) (by decide)) ?_
      show own_Ends _ _ _ _ (T224.setTop (mkF m 265 #[.val (.int x0), .val (.int x1), .val (.int x2), .val (.int x3), .val (.int x4), .val (.int (4 : Int32)), .val (.ref b138), .val (.ref b166), .val (.int (own_b (own_A1 y0.toInt))), .val (.int v2), .val (.int v3), .val (.int v4), .unset] []))
      refine own_st (fun t_ => XS.iload (own_here Y225) hx rfl (hb hby at_265) rfl) ?_
      show own_Ends _ _ _ _ (T224.setTop (mkF m 267 #[.val (.int x0), .val (.int x1), .val (.int x2), .val (.int x3), .val (.int x4), .val (.int (4 : Int32)), .val (.ref b138), .val (.ref b166), .val (.int (own_b (own_A1 y0.toInt))), .val (.int v2), .val (.int v3), .val (.int v4), .unset] [(.int (4 : Int32))]))
      refine own_st (fun t_ => XS.iconst (own_here Y225) hx rfl (hb hby at_267) ) ?_
      show own_Ends _ _ _ _ (T224.setTop (mkF m 268 #[.val (.int x0), .val (.int x1), .val (.int x2), .val (.int x3), .val (.int x4), .val (.int (4 : Int32)), .val (.ref b138), .val (.ref b166), .val (.int (own_b (own_A1 y0.toInt))), .val (.int v2), .val (.int v3), .val (.int v4), .unset] [(.int (1 : Int32)), (.int (4 : Int32))]))
      refine own_st (fun t_ => XS.icmpYes (own_here Y225) hx rfl (pc0 := 268) (pc' := 278) rfl (hb hby at_268) rfl (XT.ii_ne_t (by decide)) (by decide) (by decide)) ?_
      show own_Ends _ _ _ _ (T224.setTop (mkF m 278 #[.val (.int x0), .val (.int x1), .val (.int x2), .val (.int x3), .val (.int x4), .val (.int (4 : Int32)), .val (.ref b138), .val (.ref b166), .val (.int (own_b (own_A1 y0.toInt))), .val (.int v2), .val (.int v3), .val (.int v4), .unset] []))
      refine own_st (fun t_ => XS.iload (own_here Y225) hx rfl (hb hby at_278) rfl) ?_
      show own_Ends _ _ _ _ (T224.setTop (mkF m 280 #[.val (.int x0), .val (.int x1), .val (.int x2), .val (.int x3), .val (.int x4), .val (.int (4 : Int32)), .val (.ref b138), .val (.ref b166), .val (.int (own_b (own_A1 y0.toInt))), .val (.int v2), .val (.int v3), .val (.int v4), .unset] [(.int (4 : Int32))]))
      refine own_st (fun t_ => XS.iconst (own_here Y225) hx rfl (hb hby at_280) ) ?_
      show own_Ends _ _ _ _ (T224.setTop (mkF m 281 #[.val (.int x0), .val (.int x1), .val (.int x2), .val (.int x3), .val (.int x4), .val (.int (4 : Int32)), .val (.ref b138), .val (.ref b166), .val (.int (own_b (own_A1 y0.toInt))), .val (.int v2), .val (.int v3), .val (.int v4), .unset] [(.int (2 : Int32)), (.int (4 : Int32))]))
      refine own_st (fun t_ => XS.icmpYes (own_here Y225) hx rfl (pc0 := 281) (pc' := 291) rfl (hb hby at_281) rfl (XT.ii_ne_t (by decide)) (by decide) (by decide)) ?_
      show own_Ends _ _ _ _ (T224.setTop (mkF m 291 #[.val (.int x0), .val (.int x1), .val (.int x2), .val (.int x3), .val (.int x4), .val (.int (4 : Int32)), .val (.ref b138), .val (.ref b166), .val (.int (own_b (own_A1 y0.toInt))), .val (.int v2), .val (.int v3), .val (.int v4), .unset] []))
      refine own_st (fun t_ => XS.iload (own_here Y225) hx rfl (hb hby at_291) rfl) ?_
      show own_Ends _ _ _ _ (T224.setTop (mkF m 293 #[.val (.int x0), .val (.int x1), .val (.int x2), .val (.int x3), .val (.int x4), .val (.int (4 : Int32)), .val (.ref b138), .val (.ref b166), .val (.int (own_b (own_A1 y0.toInt))), .val (.int v2), .val (.int v3), .val (.int v4), .unset] [(.int (4 : Int32))]))
      refine own_st (fun t_ => XS.iconst (own_here Y225) hx rfl (hb hby at_293) ) ?_
      show own_Ends _ _ _ _ (T224.setTop (mkF m 294 #[.val (.int x0), .val (.int x1), .val (.int x2), .val (.int x3), .val (.int x4), .val (.int (4 : Int32)), .val (.ref b138), .val (.ref b166), .val (.int (own_b (own_A1 y0.toInt))), .val (.int v2), .val (.int v3), .val (.int v4), .unset] [(.int (3 : Int32)), (.int (4 : Int32))]))
      refine own_st (fun t_ => XS.icmpYes (own_here Y225) hx rfl (pc0 := 294) (pc' := 304) rfl (hb hby at_294) rfl (XT.ii_ne_t (by decide)) (by decide) (by decide)) ?_
      show own_Ends _ _ _ _ (T224.setTop (mkF m 304 #[.val (.int x0), .val (.int x1), .val (.int x2), .val (.int x3), .val (.int x4), .val (.int (4 : Int32)), .val (.ref b138), .val (.ref b166), .val (.int (own_b (own_A1 y0.toInt))), .val (.int v2), .val (.int v3), .val (.int v4), .unset] []))
      refine own_st (fun t_ => XS.iload (own_here Y225) hx rfl (hb hby at_304) rfl) ?_
      show own_Ends _ _ _ _ (T224.setTop (mkF m 306 #[.val (.int x0), .val (.int x1), .val (.int x2), .val (.int x3), .val (.int x4), .val (.int (4 : Int32)), .val (.ref b138), .val (.ref b166), .val (.int (own_b (own_A1 y0.toInt))), .val (.int v2), .val (.int v3), .val (.int v4), .unset] [(.int v4)]))
      refine own_st (fun t_ => XS.istore (own_here Y225) hx rfl (hb hby at_306) rfl (l' := #[.val (.int x0), .val (.int x1), .val (.int x2), .val (.int x3), .val (.int x4), .val (.int (4 : Int32)), .val (.ref b138), .val (.ref b166), .val (.int (own_b (own_A1 y0.toInt))), .val (.int v2), .val (.int v3), .val (.int v4), .val (.int v4)]) rfl) ?_
      show own_Ends _ _ _ _ (T224.setTop (mkF m 308 #[.val (.int x0), .val (.int x1), .val (.int x2), .val (.int x3), .val (.int x4), .val (.int (4 : Int32)), .val (.ref b138), .val (.ref b166), .val (.int (own_b (own_A1 y0.toInt))), .val (.int v2), .val (.int v3), .val (.int v4), .val (.int v4)] []))
      refine own_st (fun t_ => XS.aload (own_here Y225) hx rfl (hb hby at_308) rfl rfl) ?_
      show own_Ends _ _ _ _ (T224.setTop (mkF m 310 #[.val (.int x0), .val (.int x1), .val (.int x2), .val (.int x3), .val (.int x4), .val (.int (4 : Int32)), .val (.ref b138), .val (.ref b166), .val (.int (own_b (own_A1 y0.toInt))), .val (.int v2), .val (.int v3), .val (.int v4), .val (.int v4)] [(.ref b166)]))
      refine own_st (fun t_ => XS.iconst (own_here Y225) hx rfl (hb hby at_310) ) ?_
      show own_Ends _ _ _ _ (T224.setTop (mkF m 311 #[.val (.int x0), .val (.int x1), .val (.int x2), .val (.int x3), .val (.int x4), .val (.int (4 : Int32)), .val (.ref b138), .val (.ref b166), .val (.int (own_b (own_A1 y0.toInt))), .val (.int v2), .val (.int v3), .val (.int v4), .val (.int v4)] [(.int (1 : Int32)), (.ref b166)]))
      refine own_st (fun t_ => XS.iconst (own_here Y225) hx rfl (hb hby at_311) ) ?_
      show own_Ends _ _ _ _ (T224.setTop (mkF m 312 #[.val (.int x0), .val (.int x1), .val (.int x2), .val (.int x3), .val (.int x4), .val (.int (4 : Int32)), .val (.ref b138), .val (.ref b166), .val (.int (own_b (own_A1 y0.toInt))), .val (.int v2), .val (.int v3), .val (.int v4), .val (.int v4)] [(.int (1 : Int32)), (.int (1 : Int32)), (.ref b166)]))
      refine own_st (fun t_ => XS.iload (own_here Y225) hx rfl (hb hby at_312) rfl) ?_
      show own_Ends _ _ _ _ (T224.setTop (mkF m 314 #[.val (.int x0), .val (.int x1), .val (.int x2), .val (.int x3), .val (.int x4), .val (.int (4 : Int32)), .val (.ref b138), .val (.ref b166), .val (.int (own_b (own_A1 y0.toInt))), .val (.int v2), .val (.int v3), .val (.int v4), .val (.int v4)] [(.int (4 : Int32)), (.int (1 : Int32)), (.int (1 : Int32)), (.ref b166)]))
      refine own_st (fun t_ => XS.iadd (own_here Y225) hx rfl (hb hby at_314) rfl) ?_
      show own_Ends _ _ _ _ (T224.setTop (mkF m 315 #[.val (.int x0), .val (.int x1), .val (.int x2), .val (.int x3), .val (.int x4), .val (.int (4 : Int32)), .val (.ref b138), .val (.ref b166), .val (.int (own_b (own_A1 y0.toInt))), .val (.int v2), .val (.int v3), .val (.int v4), .val (.int v4)] [(.int (5 : Int32)), (.int (1 : Int32)), (.ref b166)]))
      refine own_callS Y225 hx hZ (y := (⟨"kombos/graph/Utf8", "isValid", "([BII)Z"⟩ : MethodName)) hown (hw _ (List.mem_of_getElem? (i := 7) rfl)) (hw _ (List.mem_of_getElem? (i := 8) rfl)) (hw _ (List.mem_of_getElem? (i := 9) rfl)) (hw _ (List.mem_of_getElem? (i := 10) rfl)) (by decide) (argsL := [(.ref b166), (.int (1 : Int32)), (.int (5 : Int32))]) (rest := []) (own_rm2 l Z a0 hw [] b166 (1 : Int32) (5 : Int32) [(-128 : Int32), ((y0.toInt8.toInt32).toInt8.toInt32), ((y1.toInt8.toInt32).toInt8.toInt32), ((y2.toInt8.toInt32).toInt8.toInt32), ((y3.toInt8.toInt32).toInt8.toInt32), (-128 : Int32)] 1 5 h207 n0  A209 rfl rfl (by decide) (Nat.le_of_ble_eq_true rfl) (by decide) (own_allB (P := fun x => -128 ≤ x.toInt ∧ x.toInt ≤ 127) (by intro x hx; simp only [List.mem_cons, List.not_mem_nil, or_false] at hx; rcases hx with rfl | rfl | rfl | rfl | rfl | rfl <;> first | decide | (have q := c_i2b ((y0).toInt8.toInt32); omega) | (have q := c_i2b ((y1).toInt8.toInt32); omega) | (have q := c_i2b ((y2).toInt8.toInt32); omega) | (have q := c_i2b ((y3).toInt8.toInt32); omega)) (by decide))) (W := 0) (by decide) (by decide) (by decide) (by decide) rfl (by rw [hml]; rfl) (lenOf own_pd2 rfl) rfl (by show 2 * 0 + _ ≤ _; exact Nat.le_of_eq rfl) (hb hby at_315) (fun T246 h248 v249 Y247 q250 => ?_)
      obtain ⟨rfl, rfl⟩ := q250
      show own_Ends _ _ _ _ (T246.setTop (mkF m 318 #[.val (.int x0), .val (.int x1), .val (.int x2), .val (.int x3), .val (.int x4), .val (.int (4 : Int32)), .val (.ref b138), .val (.ref b166), .val (.int (own_b (own_A1 y0.toInt))), .val (.int v2), .val (.int v3), .val (.int v4), .val (.int v4)] [(.int (own_b (own_V (own_u [(-128 : Int32), ((y0.toInt8.toInt32).toInt8.toInt32), ((y1.toInt8.toInt32).toInt8.toInt32), ((y2.toInt8.toInt32).toInt8.toInt32), ((y3.toInt8.toInt32).toInt8.toInt32), (-128 : Int32)]) 5 (5 - 1) 1)))]))
      refine own_st (fun t_ => XS.iload (own_here Y247) hx rfl (hb hby at_318) rfl) ?_
      show own_Ends _ _ _ _ (T246.setTop (mkF m 320 #[.val (.int x0), .val (.int x1), .val (.int x2), .val (.int x3), .val (.int x4), .val (.int (4 : Int32)), .val (.ref b138), .val (.ref b166), .val (.int (own_b (own_A1 y0.toInt))), .val (.int v2), .val (.int v3), .val (.int v4), .val (.int v4)] [(.int v4), (.int (own_b (own_V (own_u [(-128 : Int32), ((y0.toInt8.toInt32).toInt8.toInt32), ((y1.toInt8.toInt32).toInt8.toInt32), ((y2.toInt8.toInt32).toInt8.toInt32), ((y3.toInt8.toInt32).toInt8.toInt32), (-128 : Int32)]) 5 (5 - 1) 1)))]))
      have z0 : own_u [(-128 : Int32), ((y0.toInt8.toInt32).toInt8.toInt32), ((y1.toInt8.toInt32).toInt8.toInt32), ((y2.toInt8.toInt32).toInt8.toInt32), ((y3.toInt8.toInt32).toInt8.toInt32), (-128 : Int32)] 1 = y0.toInt := own_same gy0
      have z1 : own_u [(-128 : Int32), ((y0.toInt8.toInt32).toInt8.toInt32), ((y1.toInt8.toInt32).toInt8.toInt32), ((y2.toInt8.toInt32).toInt8.toInt32), ((y3.toInt8.toInt32).toInt8.toInt32), (-128 : Int32)] 2 = y1.toInt := own_same gy1
      have z2 : own_u [(-128 : Int32), ((y0.toInt8.toInt32).toInt8.toInt32), ((y1.toInt8.toInt32).toInt8.toInt32), ((y2.toInt8.toInt32).toInt8.toInt32), ((y3.toInt8.toInt32).toInt8.toInt32), (-128 : Int32)] 3 = y2.toInt := own_same gy2
      have z3 : own_u [(-128 : Int32), ((y0.toInt8.toInt32).toInt8.toInt32), ((y1.toInt8.toInt32).toInt8.toInt32), ((y2.toInt8.toInt32).toInt8.toInt32), ((y3.toInt8.toInt32).toInt8.toInt32), (-128 : Int32)] 4 = y3.toInt := own_same gy3
      subst hB3
      subst hB2
      have hl : own_V (own_u [(-128 : Int32), ((y0.toInt8.toInt32).toInt8.toInt32), ((y1.toInt8.toInt32).toInt8.toInt32), ((y2.toInt8.toInt32).toInt8.toInt32), ((y3.toInt8.toInt32).toInt8.toInt32), (-128 : Int32)]) 5 (5 - 1) 1 = ((((((own_A1 y0.toInt) && (own_A1 y1.toInt) || (own_A2 y0.toInt y1.toInt)) && (own_A1 y2.toInt)) || ((own_A1 y0.toInt) && (own_A2 y1.toInt y2.toInt)) || (own_A3 y0.toInt y1.toInt y2.toInt)) && (own_A1 y3.toInt)) || (((own_A1 y0.toInt) && (own_A1 y1.toInt) || (own_A2 y0.toInt y1.toInt)) && (own_A2 y2.toInt y3.toInt)) || ((own_A1 y0.toInt) && (own_A3 y1.toInt y2.toInt y3.toInt)) || (own_A4 y0.toInt y1.toInt y2.toInt y3.toInt)) := by
        generalize own_u [(-128 : Int32), ((y0.toInt8.toInt32).toInt8.toInt32), ((y1.toInt8.toInt32).toInt8.toInt32), ((y2.toInt8.toInt32).toInt8.toInt32), ((y3.toInt8.toInt32).toInt8.toInt32), (-128 : Int32)] = u_ at z0 z1 z2 z3 ⊢
        have B := own_bools (own_A1 y0.toInt) (own_A2 y0.toInt y1.toInt) (own_A3 y0.toInt y1.toInt y2.toInt) (own_A4 y0.toInt y1.toInt y2.toInt y3.toInt) (own_A1 y1.toInt) (own_A2 y1.toInt y2.toInt) (own_A3 y1.toInt y2.toInt y3.toInt) (own_A1 y2.toInt) (own_A2 y2.toInt y3.toInt) (own_A1 y3.toInt)
        simpa [own_V, z0, z1, z2, z3] using B
      refine own_st (fun t_ => XS.icmpNo (own_here Y247) hx rfl (hb hby at_320) rfl (XT.ii_ne_f (by rw [hl, hv4]))) ?_
      show own_Ends _ _ _ _ (T246.setTop (mkF m 323 #[.val (.int x0), .val (.int x1), .val (.int x2), .val (.int x3), .val (.int x4), .val (.int (4 : Int32)), .val (.ref b138), .val (.ref b166), .val (.int (own_b (own_A1 y0.toInt))), .val (.int v2), .val (.int v3), .val (.int v4), .val (.int v4)] []))
      refine own_st (fun t_ => XS.iconst (own_here Y247) hx rfl (hb hby at_323) ) ?_
      show own_Ends _ _ _ _ (T246.setTop (mkF m 324 #[.val (.int x0), .val (.int x1), .val (.int x2), .val (.int x3), .val (.int x4), .val (.int (4 : Int32)), .val (.ref b138), .val (.ref b166), .val (.int (own_b (own_A1 y0.toInt))), .val (.int v2), .val (.int v3), .val (.int v4), .val (.int v4)] [(.int (1 : Int32))]))
      refine own_st (fun t_ => XS.goto (own_here Y247) hx rfl (pc0 := 324) (pc' := 328) rfl (hb hby at_324) (by decide) (by decide)) ?_
      show own_Ends _ _ _ _ (T246.setTop (mkF m 328 #[.val (.int x0), .val (.int x1), .val (.int x2), .val (.int x3), .val (.int x4), .val (.int (4 : Int32)), .val (.ref b138), .val (.ref b166), .val (.int (own_b (own_A1 y0.toInt))), .val (.int v2), .val (.int v3), .val (.int v4), .val (.int v4)] [(.int (1 : Int32))]))
      refine own_retN Y247 hx hlk (t := .boolean) hret (by simp) (hb hby at_328) (by decide) (by decide) ?_
      exact rfl
    by_cases c194_251 : v3 = (0 : Int32)
    ·
     refine own_st (fun t_ => XS.ifYes (own_here Y222) hx rfl (pc0 := 194) (pc' := 207) rfl (hb hby at_194) rfl (XT.i0_eq_t c194_251) (by decide) (by decide)) ?_
     show own_Ends _ _ _ _ (T221.setTop (mkF m 207 #[.val (.int x0), .val (.int x1), .val (.int x2), .val (.int x3), .val (.int x4), .val (.int n_), .val (.ref b138), .val (.ref b166), .val (.int (own_b (own_A1 y0.toInt))), .val (.int v2), .val (.int v3), .unset, .unset] []))
     refine own_st (fun t_ => XS.iload (own_here Y222) hx rfl (hb hby at_207) rfl) ?_
     show own_Ends _ _ _ _ (T221.setTop (mkF m 209 #[.val (.int x0), .val (.int x1), .val (.int x2), .val (.int x3), .val (.int x4), .val (.int n_), .val (.ref b138), .val (.ref b166), .val (.int (own_b (own_A1 y0.toInt))), .val (.int v2), .val (.int v3), .unset, .unset] [(.int v2)]))
     by_cases c209_252 : v2 = (0 : Int32)
     ·
      refine own_st (fun t_ => XS.ifYes (own_here Y222) hx rfl (pc0 := 209) (pc' := 222) rfl (hb hby at_209) rfl (XT.i0_eq_t c209_252) (by decide) (by decide)) ?_
      show own_Ends _ _ _ _ (T221.setTop (mkF m 222 #[.val (.int x0), .val (.int x1), .val (.int x2), .val (.int x3), .val (.int x4), .val (.int n_), .val (.ref b138), .val (.ref b166), .val (.int (own_b (own_A1 y0.toInt))), .val (.int v2), .val (.int v3), .unset, .unset] []))
      refine own_st (fun t_ => XS.iload (own_here Y222) hx rfl (hb hby at_222) rfl) ?_
      show own_Ends _ _ _ _ (T221.setTop (mkF m 224 #[.val (.int x0), .val (.int x1), .val (.int x2), .val (.int x3), .val (.int x4), .val (.int n_), .val (.ref b138), .val (.ref b166), .val (.int (own_b (own_A1 y0.toInt))), .val (.int v2), .val (.int v3), .unset, .unset] [(.int (own_b (own_A1 y0.toInt)))]))
      by_cases c224_253 : (own_b (own_A1 y0.toInt)) = (0 : Int32)
      ·
       refine own_st (fun t_ => XS.ifYes (own_here Y222) hx rfl (pc0 := 224) (pc' := 237) rfl (hb hby at_224) rfl (XT.i0_eq_t c224_253) (by decide) (by decide)) ?_
       show own_Ends _ _ _ _ (T221.setTop (mkF m 237 #[.val (.int x0), .val (.int x1), .val (.int x2), .val (.int x3), .val (.int x4), .val (.int n_), .val (.ref b138), .val (.ref b166), .val (.int (own_b (own_A1 y0.toInt))), .val (.int v2), .val (.int v3), .unset, .unset] []))
       refine own_st (fun t_ => XS.aload (own_here Y222) hx rfl (hb hby at_237) rfl rfl) ?_
       show own_Ends _ _ _ _ (T221.setTop (mkF m 239 #[.val (.int x0), .val (.int x1), .val (.int x2), .val (.int x3), .val (.int x4), .val (.int n_), .val (.ref b138), .val (.ref b166), .val (.int (own_b (own_A1 y0.toInt))), .val (.int v2), .val (.int v3), .unset, .unset] [(.ref b138)]))
       refine own_st (fun t_ => XS.iconst (own_here Y222) hx rfl (hb hby at_239) ) ?_
       show own_Ends _ _ _ _ (T221.setTop (mkF m 240 #[.val (.int x0), .val (.int x1), .val (.int x2), .val (.int x3), .val (.int x4), .val (.int n_), .val (.ref b138), .val (.ref b166), .val (.int (own_b (own_A1 y0.toInt))), .val (.int v2), .val (.int v3), .unset, .unset] [(.int (0 : Int32)), (.ref b138)]))
       refine own_st (fun t_ => XS.iconst (own_here Y222) hx rfl (hb hby at_240) ) ?_
       show own_Ends _ _ _ _ (T221.setTop (mkF m 241 #[.val (.int x0), .val (.int x1), .val (.int x2), .val (.int x3), .val (.int x4), .val (.int n_), .val (.ref b138), .val (.ref b166), .val (.int (own_b (own_A1 y0.toInt))), .val (.int v2), .val (.int v3), .unset, .unset] [(.int (4 : Int32)), (.int (0 : Int32)), (.ref b138)]))
       refine own_callS Y222 hx hZ (y := (⟨"kombos/graph/Utf8IsValidPinLaw", "ok", "([III)Z"⟩ : MethodName)) hown (hw _ (List.mem_of_getElem? (i := 3) rfl)) (hw _ (List.mem_of_getElem? (i := 4) rfl)) (hw _ (List.mem_of_getElem? (i := 5) rfl)) (hw _ (List.mem_of_getElem? (i := 6) rfl)) (by decide) (argsL := [(.ref b138), (.int (0 : Int32)), (.int (4 : Int32))]) (rest := []) (own_rm1_0_4 l Z a0 hw [] b138 y0 y1 y2 y3 h207 n0  f211 gy0 gy1 gy2 gy3) (W := 0) (by decide) (by decide) (by decide) (by decide) rfl (by rw [hml]; rfl) (lenOf own_pd1 rfl) rfl (by show 2 * 0 + _ ≤ _; exact Nat.le_of_eq rfl) (hb hby at_241) (fun T254 h256 v257 Y255 q258 => ?_)
       obtain ⟨rfl, rfl⟩ := q258
       show own_Ends _ _ _ _ (T254.setTop (mkF m 244 #[.val (.int x0), .val (.int x1), .val (.int x2), .val (.int x3), .val (.int x4), .val (.int n_), .val (.ref b138), .val (.ref b166), .val (.int (own_b (own_A1 y0.toInt))), .val (.int v2), .val (.int v3), .unset, .unset] [(.int (own_b (own_A4 y0.toInt y1.toInt y2.toInt y3.toInt)))]))
       by_cases c244_259 : (own_b (own_A4 y0.toInt y1.toInt y2.toInt y3.toInt)) = (0 : Int32)
       ·
        refine own_st (fun t_ => XS.ifYes (own_here Y255) hx rfl (pc0 := 244) (pc' := 251) rfl (hb hby at_244) rfl (XT.i0_eq_t c244_259) (by decide) (by decide)) ?_
        show own_Ends _ _ _ _ (T254.setTop (mkF m 251 #[.val (.int x0), .val (.int x1), .val (.int x2), .val (.int x3), .val (.int x4), .val (.int n_), .val (.ref b138), .val (.ref b166), .val (.int (own_b (own_A1 y0.toInt))), .val (.int v2), .val (.int v3), .unset, .unset] []))
        refine own_st (fun t_ => XS.iconst (own_here Y255) hx rfl (hb hby at_251) ) ?_
        show own_Ends _ _ _ _ (T254.setTop (mkF m 252 #[.val (.int x0), .val (.int x1), .val (.int x2), .val (.int x3), .val (.int x4), .val (.int n_), .val (.ref b138), .val (.ref b166), .val (.int (own_b (own_A1 y0.toInt))), .val (.int v2), .val (.int v3), .unset, .unset] [(.int (0 : Int32))]))
        exact hJ223 T254   ((0 : Int32)) Y255  (by simp only [hv2, hv3, own_b_0, Bool.not_eq_false] at c194_251 c209_252 c224_253 c244_259; simp [own_b, c194_251, c209_252, c224_253, c244_259])
       ·
        refine own_st (fun t_ => XS.ifNo (own_here Y255) hx rfl (hb hby at_244) rfl (XT.i0_eq_f c244_259)) ?_
        show own_Ends _ _ _ _ (T254.setTop (mkF m 247 #[.val (.int x0), .val (.int x1), .val (.int x2), .val (.int x3), .val (.int x4), .val (.int n_), .val (.ref b138), .val (.ref b166), .val (.int (own_b (own_A1 y0.toInt))), .val (.int v2), .val (.int v3), .unset, .unset] []))
        refine own_st (fun t_ => XS.iconst (own_here Y255) hx rfl (hb hby at_247) ) ?_
        show own_Ends _ _ _ _ (T254.setTop (mkF m 248 #[.val (.int x0), .val (.int x1), .val (.int x2), .val (.int x3), .val (.int x4), .val (.int n_), .val (.ref b138), .val (.ref b166), .val (.int (own_b (own_A1 y0.toInt))), .val (.int v2), .val (.int v3), .unset, .unset] [(.int (1 : Int32))]))
        refine own_st (fun t_ => XS.goto (own_here Y255) hx rfl (pc0 := 248) (pc' := 252) rfl (hb hby at_248) (by decide) (by decide)) ?_
        show own_Ends _ _ _ _ (T254.setTop (mkF m 252 #[.val (.int x0), .val (.int x1), .val (.int x2), .val (.int x3), .val (.int x4), .val (.int n_), .val (.ref b138), .val (.ref b166), .val (.int (own_b (own_A1 y0.toInt))), .val (.int v2), .val (.int v3), .unset, .unset] [(.int (1 : Int32))]))
        exact hJ223 T254   ((1 : Int32)) Y255  (by simp only [hv2, hv3, own_b_0, Bool.not_eq_false] at c194_251 c209_252 c224_253 c244_259; simp [own_b, c194_251, c209_252, c224_253, c244_259])
      ·
       refine own_st (fun t_ => XS.ifNo (own_here Y222) hx rfl (hb hby at_224) rfl (XT.i0_eq_f c224_253)) ?_
       show own_Ends _ _ _ _ (T221.setTop (mkF m 227 #[.val (.int x0), .val (.int x1), .val (.int x2), .val (.int x3), .val (.int x4), .val (.int n_), .val (.ref b138), .val (.ref b166), .val (.int (own_b (own_A1 y0.toInt))), .val (.int v2), .val (.int v3), .unset, .unset] []))
       refine own_st (fun t_ => XS.aload (own_here Y222) hx rfl (hb hby at_227) rfl rfl) ?_
       show own_Ends _ _ _ _ (T221.setTop (mkF m 229 #[.val (.int x0), .val (.int x1), .val (.int x2), .val (.int x3), .val (.int x4), .val (.int n_), .val (.ref b138), .val (.ref b166), .val (.int (own_b (own_A1 y0.toInt))), .val (.int v2), .val (.int v3), .unset, .unset] [(.ref b138)]))
       refine own_st (fun t_ => XS.iconst (own_here Y222) hx rfl (hb hby at_229) ) ?_
       show own_Ends _ _ _ _ (T221.setTop (mkF m 230 #[.val (.int x0), .val (.int x1), .val (.int x2), .val (.int x3), .val (.int x4), .val (.int n_), .val (.ref b138), .val (.ref b166), .val (.int (own_b (own_A1 y0.toInt))), .val (.int v2), .val (.int v3), .unset, .unset] [(.int (1 : Int32)), (.ref b138)]))
       refine own_st (fun t_ => XS.iconst (own_here Y222) hx rfl (hb hby at_230) ) ?_
       show own_Ends _ _ _ _ (T221.setTop (mkF m 231 #[.val (.int x0), .val (.int x1), .val (.int x2), .val (.int x3), .val (.int x4), .val (.int n_), .val (.ref b138), .val (.ref b166), .val (.int (own_b (own_A1 y0.toInt))), .val (.int v2), .val (.int v3), .unset, .unset] [(.int (3 : Int32)), (.int (1 : Int32)), (.ref b138)]))
       refine own_callS Y222 hx hZ (y := (⟨"kombos/graph/Utf8IsValidPinLaw", "ok", "([III)Z"⟩ : MethodName)) hown (hw _ (List.mem_of_getElem? (i := 3) rfl)) (hw _ (List.mem_of_getElem? (i := 4) rfl)) (hw _ (List.mem_of_getElem? (i := 5) rfl)) (hw _ (List.mem_of_getElem? (i := 6) rfl)) (by decide) (argsL := [(.ref b138), (.int (1 : Int32)), (.int (3 : Int32))]) (rest := []) (own_rm1_1_3 l Z a0 hw [] b138 y0 y1 y2 y3 h207 n0  f211 gy0 gy1 gy2 gy3) (W := 0) (by decide) (by decide) (by decide) (by decide) rfl (by rw [hml]; rfl) (lenOf own_pd1 rfl) rfl (by show 2 * 0 + _ ≤ _; exact Nat.le_of_eq rfl) (hb hby at_231) (fun T260 h262 v263 Y261 q264 => ?_)
       obtain ⟨rfl, rfl⟩ := q264
       show own_Ends _ _ _ _ (T260.setTop (mkF m 234 #[.val (.int x0), .val (.int x1), .val (.int x2), .val (.int x3), .val (.int x4), .val (.int n_), .val (.ref b138), .val (.ref b166), .val (.int (own_b (own_A1 y0.toInt))), .val (.int v2), .val (.int v3), .unset, .unset] [(.int (own_b (own_A3 y1.toInt y2.toInt y3.toInt)))]))
       by_cases c234_265 : (own_b (own_A3 y1.toInt y2.toInt y3.toInt)) = (0 : Int32)
       ·
        refine own_st (fun t_ => XS.ifNo (own_here Y261) hx rfl (hb hby at_234) rfl (XT.i0_ne_f c234_265)) ?_
        show own_Ends _ _ _ _ (T260.setTop (mkF m 237 #[.val (.int x0), .val (.int x1), .val (.int x2), .val (.int x3), .val (.int x4), .val (.int n_), .val (.ref b138), .val (.ref b166), .val (.int (own_b (own_A1 y0.toInt))), .val (.int v2), .val (.int v3), .unset, .unset] []))
        refine own_st (fun t_ => XS.aload (own_here Y261) hx rfl (hb hby at_237) rfl rfl) ?_
        show own_Ends _ _ _ _ (T260.setTop (mkF m 239 #[.val (.int x0), .val (.int x1), .val (.int x2), .val (.int x3), .val (.int x4), .val (.int n_), .val (.ref b138), .val (.ref b166), .val (.int (own_b (own_A1 y0.toInt))), .val (.int v2), .val (.int v3), .unset, .unset] [(.ref b138)]))
        refine own_st (fun t_ => XS.iconst (own_here Y261) hx rfl (hb hby at_239) ) ?_
        show own_Ends _ _ _ _ (T260.setTop (mkF m 240 #[.val (.int x0), .val (.int x1), .val (.int x2), .val (.int x3), .val (.int x4), .val (.int n_), .val (.ref b138), .val (.ref b166), .val (.int (own_b (own_A1 y0.toInt))), .val (.int v2), .val (.int v3), .unset, .unset] [(.int (0 : Int32)), (.ref b138)]))
        refine own_st (fun t_ => XS.iconst (own_here Y261) hx rfl (hb hby at_240) ) ?_
        show own_Ends _ _ _ _ (T260.setTop (mkF m 241 #[.val (.int x0), .val (.int x1), .val (.int x2), .val (.int x3), .val (.int x4), .val (.int n_), .val (.ref b138), .val (.ref b166), .val (.int (own_b (own_A1 y0.toInt))), .val (.int v2), .val (.int v3), .unset, .unset] [(.int (4 : Int32)), (.int (0 : Int32)), (.ref b138)]))
        refine own_callS Y261 hx hZ (y := (⟨"kombos/graph/Utf8IsValidPinLaw", "ok", "([III)Z"⟩ : MethodName)) hown (hw _ (List.mem_of_getElem? (i := 3) rfl)) (hw _ (List.mem_of_getElem? (i := 4) rfl)) (hw _ (List.mem_of_getElem? (i := 5) rfl)) (hw _ (List.mem_of_getElem? (i := 6) rfl)) (by decide) (argsL := [(.ref b138), (.int (0 : Int32)), (.int (4 : Int32))]) (rest := []) (own_rm1_0_4 l Z a0 hw [] b138 y0 y1 y2 y3 h207 n0  f211 gy0 gy1 gy2 gy3) (W := 0) (by decide) (by decide) (by decide) (by decide) rfl (by rw [hml]; rfl) (lenOf own_pd1 rfl) rfl (by show 2 * 0 + _ ≤ _; exact Nat.le_of_eq rfl) (hb hby at_241) (fun T266 h268 v269 Y267 q270 => ?_)
        obtain ⟨rfl, rfl⟩ := q270
        show own_Ends _ _ _ _ (T266.setTop (mkF m 244 #[.val (.int x0), .val (.int x1), .val (.int x2), .val (.int x3), .val (.int x4), .val (.int n_), .val (.ref b138), .val (.ref b166), .val (.int (own_b (own_A1 y0.toInt))), .val (.int v2), .val (.int v3), .unset, .unset] [(.int (own_b (own_A4 y0.toInt y1.toInt y2.toInt y3.toInt)))]))
        by_cases c244_271 : (own_b (own_A4 y0.toInt y1.toInt y2.toInt y3.toInt)) = (0 : Int32)
        ·
         refine own_st (fun t_ => XS.ifYes (own_here Y267) hx rfl (pc0 := 244) (pc' := 251) rfl (hb hby at_244) rfl (XT.i0_eq_t c244_271) (by decide) (by decide)) ?_
         show own_Ends _ _ _ _ (T266.setTop (mkF m 251 #[.val (.int x0), .val (.int x1), .val (.int x2), .val (.int x3), .val (.int x4), .val (.int n_), .val (.ref b138), .val (.ref b166), .val (.int (own_b (own_A1 y0.toInt))), .val (.int v2), .val (.int v3), .unset, .unset] []))
         refine own_st (fun t_ => XS.iconst (own_here Y267) hx rfl (hb hby at_251) ) ?_
         show own_Ends _ _ _ _ (T266.setTop (mkF m 252 #[.val (.int x0), .val (.int x1), .val (.int x2), .val (.int x3), .val (.int x4), .val (.int n_), .val (.ref b138), .val (.ref b166), .val (.int (own_b (own_A1 y0.toInt))), .val (.int v2), .val (.int v3), .unset, .unset] [(.int (0 : Int32))]))
         exact hJ223 T266   ((0 : Int32)) Y267  (by simp only [hv2, hv3, own_b_0, Bool.not_eq_false] at c194_251 c209_252 c224_253 c234_265 c244_271; simp [own_b, c194_251, c209_252, c224_253, c234_265, c244_271])
        ·
         refine own_st (fun t_ => XS.ifNo (own_here Y267) hx rfl (hb hby at_244) rfl (XT.i0_eq_f c244_271)) ?_
         show own_Ends _ _ _ _ (T266.setTop (mkF m 247 #[.val (.int x0), .val (.int x1), .val (.int x2), .val (.int x3), .val (.int x4), .val (.int n_), .val (.ref b138), .val (.ref b166), .val (.int (own_b (own_A1 y0.toInt))), .val (.int v2), .val (.int v3), .unset, .unset] []))
         refine own_st (fun t_ => XS.iconst (own_here Y267) hx rfl (hb hby at_247) ) ?_
         show own_Ends _ _ _ _ (T266.setTop (mkF m 248 #[.val (.int x0), .val (.int x1), .val (.int x2), .val (.int x3), .val (.int x4), .val (.int n_), .val (.ref b138), .val (.ref b166), .val (.int (own_b (own_A1 y0.toInt))), .val (.int v2), .val (.int v3), .unset, .unset] [(.int (1 : Int32))]))
         refine own_st (fun t_ => XS.goto (own_here Y267) hx rfl (pc0 := 248) (pc' := 252) rfl (hb hby at_248) (by decide) (by decide)) ?_
         show own_Ends _ _ _ _ (T266.setTop (mkF m 252 #[.val (.int x0), .val (.int x1), .val (.int x2), .val (.int x3), .val (.int x4), .val (.int n_), .val (.ref b138), .val (.ref b166), .val (.int (own_b (own_A1 y0.toInt))), .val (.int v2), .val (.int v3), .unset, .unset] [(.int (1 : Int32))]))
         exact hJ223 T266   ((1 : Int32)) Y267  (by simp only [hv2, hv3, own_b_0, Bool.not_eq_false] at c194_251 c209_252 c224_253 c234_265 c244_271; simp [own_b, c194_251, c209_252, c224_253, c234_265, c244_271])
       ·
        refine own_st (fun t_ => XS.ifYes (own_here Y261) hx rfl (pc0 := 234) (pc' := 247) rfl (hb hby at_234) rfl (XT.i0_ne_t c234_265) (by decide) (by decide)) ?_
        show own_Ends _ _ _ _ (T260.setTop (mkF m 247 #[.val (.int x0), .val (.int x1), .val (.int x2), .val (.int x3), .val (.int x4), .val (.int n_), .val (.ref b138), .val (.ref b166), .val (.int (own_b (own_A1 y0.toInt))), .val (.int v2), .val (.int v3), .unset, .unset] []))
        refine own_st (fun t_ => XS.iconst (own_here Y261) hx rfl (hb hby at_247) ) ?_
        show own_Ends _ _ _ _ (T260.setTop (mkF m 248 #[.val (.int x0), .val (.int x1), .val (.int x2), .val (.int x3), .val (.int x4), .val (.int n_), .val (.ref b138), .val (.ref b166), .val (.int (own_b (own_A1 y0.toInt))), .val (.int v2), .val (.int v3), .unset, .unset] [(.int (1 : Int32))]))
        refine own_st (fun t_ => XS.goto (own_here Y261) hx rfl (pc0 := 248) (pc' := 252) rfl (hb hby at_248) (by decide) (by decide)) ?_
        show own_Ends _ _ _ _ (T260.setTop (mkF m 252 #[.val (.int x0), .val (.int x1), .val (.int x2), .val (.int x3), .val (.int x4), .val (.int n_), .val (.ref b138), .val (.ref b166), .val (.int (own_b (own_A1 y0.toInt))), .val (.int v2), .val (.int v3), .unset, .unset] [(.int (1 : Int32))]))
        exact hJ223 T260   ((1 : Int32)) Y261  (by simp only [hv2, hv3, own_b_0, Bool.not_eq_false] at c194_251 c209_252 c224_253 c234_265; simp [own_b, c194_251, c209_252, c224_253, c234_265])
     ·
      refine own_st (fun t_ => XS.ifNo (own_here Y222) hx rfl (hb hby at_209) rfl (XT.i0_eq_f c209_252)) ?_
      show own_Ends _ _ _ _ (T221.setTop (mkF m 212 #[.val (.int x0), .val (.int x1), .val (.int x2), .val (.int x3), .val (.int x4), .val (.int n_), .val (.ref b138), .val (.ref b166), .val (.int (own_b (own_A1 y0.toInt))), .val (.int v2), .val (.int v3), .unset, .unset] []))
      refine own_st (fun t_ => XS.aload (own_here Y222) hx rfl (hb hby at_212) rfl rfl) ?_
      show own_Ends _ _ _ _ (T221.setTop (mkF m 214 #[.val (.int x0), .val (.int x1), .val (.int x2), .val (.int x3), .val (.int x4), .val (.int n_), .val (.ref b138), .val (.ref b166), .val (.int (own_b (own_A1 y0.toInt))), .val (.int v2), .val (.int v3), .unset, .unset] [(.ref b138)]))
      refine own_st (fun t_ => XS.iconst (own_here Y222) hx rfl (hb hby at_214) ) ?_
      show own_Ends _ _ _ _ (T221.setTop (mkF m 215 #[.val (.int x0), .val (.int x1), .val (.int x2), .val (.int x3), .val (.int x4), .val (.int n_), .val (.ref b138), .val (.ref b166), .val (.int (own_b (own_A1 y0.toInt))), .val (.int v2), .val (.int v3), .unset, .unset] [(.int (2 : Int32)), (.ref b138)]))
      refine own_st (fun t_ => XS.iconst (own_here Y222) hx rfl (hb hby at_215) ) ?_
      show own_Ends _ _ _ _ (T221.setTop (mkF m 216 #[.val (.int x0), .val (.int x1), .val (.int x2), .val (.int x3), .val (.int x4), .val (.int n_), .val (.ref b138), .val (.ref b166), .val (.int (own_b (own_A1 y0.toInt))), .val (.int v2), .val (.int v3), .unset, .unset] [(.int (2 : Int32)), (.int (2 : Int32)), (.ref b138)]))
      refine own_callS Y222 hx hZ (y := (⟨"kombos/graph/Utf8IsValidPinLaw", "ok", "([III)Z"⟩ : MethodName)) hown (hw _ (List.mem_of_getElem? (i := 3) rfl)) (hw _ (List.mem_of_getElem? (i := 4) rfl)) (hw _ (List.mem_of_getElem? (i := 5) rfl)) (hw _ (List.mem_of_getElem? (i := 6) rfl)) (by decide) (argsL := [(.ref b138), (.int (2 : Int32)), (.int (2 : Int32))]) (rest := []) (own_rm1_2_2 l Z a0 hw [] b138 y0 y1 y2 y3 h207 n0  f211 gy0 gy1 gy2 gy3) (W := 0) (by decide) (by decide) (by decide) (by decide) rfl (by rw [hml]; rfl) (lenOf own_pd1 rfl) rfl (by show 2 * 0 + _ ≤ _; exact Nat.le_of_eq rfl) (hb hby at_216) (fun T272 h274 v275 Y273 q276 => ?_)
      obtain ⟨rfl, rfl⟩ := q276
      show own_Ends _ _ _ _ (T272.setTop (mkF m 219 #[.val (.int x0), .val (.int x1), .val (.int x2), .val (.int x3), .val (.int x4), .val (.int n_), .val (.ref b138), .val (.ref b166), .val (.int (own_b (own_A1 y0.toInt))), .val (.int v2), .val (.int v3), .unset, .unset] [(.int (own_b (own_A2 y2.toInt y3.toInt)))]))
      by_cases c219_277 : (own_b (own_A2 y2.toInt y3.toInt)) = (0 : Int32)
      ·
       refine own_st (fun t_ => XS.ifNo (own_here Y273) hx rfl (hb hby at_219) rfl (XT.i0_ne_f c219_277)) ?_
       show own_Ends _ _ _ _ (T272.setTop (mkF m 222 #[.val (.int x0), .val (.int x1), .val (.int x2), .val (.int x3), .val (.int x4), .val (.int n_), .val (.ref b138), .val (.ref b166), .val (.int (own_b (own_A1 y0.toInt))), .val (.int v2), .val (.int v3), .unset, .unset] []))
       refine own_st (fun t_ => XS.iload (own_here Y273) hx rfl (hb hby at_222) rfl) ?_
       show own_Ends _ _ _ _ (T272.setTop (mkF m 224 #[.val (.int x0), .val (.int x1), .val (.int x2), .val (.int x3), .val (.int x4), .val (.int n_), .val (.ref b138), .val (.ref b166), .val (.int (own_b (own_A1 y0.toInt))), .val (.int v2), .val (.int v3), .unset, .unset] [(.int (own_b (own_A1 y0.toInt)))]))
       by_cases c224_278 : (own_b (own_A1 y0.toInt)) = (0 : Int32)
       ·
        refine own_st (fun t_ => XS.ifYes (own_here Y273) hx rfl (pc0 := 224) (pc' := 237) rfl (hb hby at_224) rfl (XT.i0_eq_t c224_278) (by decide) (by decide)) ?_
        show own_Ends _ _ _ _ (T272.setTop (mkF m 237 #[.val (.int x0), .val (.int x1), .val (.int x2), .val (.int x3), .val (.int x4), .val (.int n_), .val (.ref b138), .val (.ref b166), .val (.int (own_b (own_A1 y0.toInt))), .val (.int v2), .val (.int v3), .unset, .unset] []))
        refine own_st (fun t_ => XS.aload (own_here Y273) hx rfl (hb hby at_237) rfl rfl) ?_
        show own_Ends _ _ _ _ (T272.setTop (mkF m 239 #[.val (.int x0), .val (.int x1), .val (.int x2), .val (.int x3), .val (.int x4), .val (.int n_), .val (.ref b138), .val (.ref b166), .val (.int (own_b (own_A1 y0.toInt))), .val (.int v2), .val (.int v3), .unset, .unset] [(.ref b138)]))
        refine own_st (fun t_ => XS.iconst (own_here Y273) hx rfl (hb hby at_239) ) ?_
        show own_Ends _ _ _ _ (T272.setTop (mkF m 240 #[.val (.int x0), .val (.int x1), .val (.int x2), .val (.int x3), .val (.int x4), .val (.int n_), .val (.ref b138), .val (.ref b166), .val (.int (own_b (own_A1 y0.toInt))), .val (.int v2), .val (.int v3), .unset, .unset] [(.int (0 : Int32)), (.ref b138)]))
        refine own_st (fun t_ => XS.iconst (own_here Y273) hx rfl (hb hby at_240) ) ?_
        show own_Ends _ _ _ _ (T272.setTop (mkF m 241 #[.val (.int x0), .val (.int x1), .val (.int x2), .val (.int x3), .val (.int x4), .val (.int n_), .val (.ref b138), .val (.ref b166), .val (.int (own_b (own_A1 y0.toInt))), .val (.int v2), .val (.int v3), .unset, .unset] [(.int (4 : Int32)), (.int (0 : Int32)), (.ref b138)]))
        refine own_callS Y273 hx hZ (y := (⟨"kombos/graph/Utf8IsValidPinLaw", "ok", "([III)Z"⟩ : MethodName)) hown (hw _ (List.mem_of_getElem? (i := 3) rfl)) (hw _ (List.mem_of_getElem? (i := 4) rfl)) (hw _ (List.mem_of_getElem? (i := 5) rfl)) (hw _ (List.mem_of_getElem? (i := 6) rfl)) (by decide) (argsL := [(.ref b138), (.int (0 : Int32)), (.int (4 : Int32))]) (rest := []) (own_rm1_0_4 l Z a0 hw [] b138 y0 y1 y2 y3 h207 n0  f211 gy0 gy1 gy2 gy3) (W := 0) (by decide) (by decide) (by decide) (by decide) rfl (by rw [hml]; rfl) (lenOf own_pd1 rfl) rfl (by show 2 * 0 + _ ≤ _; exact Nat.le_of_eq rfl) (hb hby at_241) (fun T279 h281 v282 Y280 q283 => ?_)
        obtain ⟨rfl, rfl⟩ := q283
        show own_Ends _ _ _ _ (T279.setTop (mkF m 244 #[.val (.int x0), .val (.int x1), .val (.int x2), .val (.int x3), .val (.int x4), .val (.int n_), .val (.ref b138), .val (.ref b166), .val (.int (own_b (own_A1 y0.toInt))), .val (.int v2), .val (.int v3), .unset, .unset] [(.int (own_b (own_A4 y0.toInt y1.toInt y2.toInt y3.toInt)))]))
        by_cases c244_284 : (own_b (own_A4 y0.toInt y1.toInt y2.toInt y3.toInt)) = (0 : Int32)
        ·
         refine own_st (fun t_ => XS.ifYes (own_here Y280) hx rfl (pc0 := 244) (pc' := 251) rfl (hb hby at_244) rfl (XT.i0_eq_t c244_284) (by decide) (by decide)) ?_
         show own_Ends _ _ _ _ (T279.setTop (mkF m 251 #[.val (.int x0), .val (.int x1), .val (.int x2), .val (.int x3), .val (.int x4), .val (.int n_), .val (.ref b138), .val (.ref b166), .val (.int (own_b (own_A1 y0.toInt))), .val (.int v2), .val (.int v3), .unset, .unset] []))
         refine own_st (fun t_ => XS.iconst (own_here Y280) hx rfl (hb hby at_251) ) ?_
         show own_Ends _ _ _ _ (T279.setTop (mkF m 252 #[.val (.int x0), .val (.int x1), .val (.int x2), .val (.int x3), .val (.int x4), .val (.int n_), .val (.ref b138), .val (.ref b166), .val (.int (own_b (own_A1 y0.toInt))), .val (.int v2), .val (.int v3), .unset, .unset] [(.int (0 : Int32))]))
         exact hJ223 T279   ((0 : Int32)) Y280  (by simp only [hv2, hv3, own_b_0, Bool.not_eq_false] at c194_251 c209_252 c219_277 c224_278 c244_284; simp [own_b, c194_251, c209_252, c219_277, c224_278, c244_284])
        ·
         refine own_st (fun t_ => XS.ifNo (own_here Y280) hx rfl (hb hby at_244) rfl (XT.i0_eq_f c244_284)) ?_
         show own_Ends _ _ _ _ (T279.setTop (mkF m 247 #[.val (.int x0), .val (.int x1), .val (.int x2), .val (.int x3), .val (.int x4), .val (.int n_), .val (.ref b138), .val (.ref b166), .val (.int (own_b (own_A1 y0.toInt))), .val (.int v2), .val (.int v3), .unset, .unset] []))
         refine own_st (fun t_ => XS.iconst (own_here Y280) hx rfl (hb hby at_247) ) ?_
         show own_Ends _ _ _ _ (T279.setTop (mkF m 248 #[.val (.int x0), .val (.int x1), .val (.int x2), .val (.int x3), .val (.int x4), .val (.int n_), .val (.ref b138), .val (.ref b166), .val (.int (own_b (own_A1 y0.toInt))), .val (.int v2), .val (.int v3), .unset, .unset] [(.int (1 : Int32))]))
         refine own_st (fun t_ => XS.goto (own_here Y280) hx rfl (pc0 := 248) (pc' := 252) rfl (hb hby at_248) (by decide) (by decide)) ?_
         show own_Ends _ _ _ _ (T279.setTop (mkF m 252 #[.val (.int x0), .val (.int x1), .val (.int x2), .val (.int x3), .val (.int x4), .val (.int n_), .val (.ref b138), .val (.ref b166), .val (.int (own_b (own_A1 y0.toInt))), .val (.int v2), .val (.int v3), .unset, .unset] [(.int (1 : Int32))]))
         exact hJ223 T279   ((1 : Int32)) Y280  (by simp only [hv2, hv3, own_b_0, Bool.not_eq_false] at c194_251 c209_252 c219_277 c224_278 c244_284; simp [own_b, c194_251, c209_252, c219_277, c224_278, c244_284])
       ·
        refine own_st (fun t_ => XS.ifNo (own_here Y273) hx rfl (hb hby at_224) rfl (XT.i0_eq_f c224_278)) ?_
        show own_Ends _ _ _ _ (T272.setTop (mkF m 227 #[.val (.int x0), .val (.int x1), .val (.int x2), .val (.int x3), .val (.int x4), .val (.int n_), .val (.ref b138), .val (.ref b166), .val (.int (own_b (own_A1 y0.toInt))), .val (.int v2), .val (.int v3), .unset, .unset] []))
        refine own_st (fun t_ => XS.aload (own_here Y273) hx rfl (hb hby at_227) rfl rfl) ?_
        show own_Ends _ _ _ _ (T272.setTop (mkF m 229 #[.val (.int x0), .val (.int x1), .val (.int x2), .val (.int x3), .val (.int x4), .val (.int n_), .val (.ref b138), .val (.ref b166), .val (.int (own_b (own_A1 y0.toInt))), .val (.int v2), .val (.int v3), .unset, .unset] [(.ref b138)]))
        refine own_st (fun t_ => XS.iconst (own_here Y273) hx rfl (hb hby at_229) ) ?_
        show own_Ends _ _ _ _ (T272.setTop (mkF m 230 #[.val (.int x0), .val (.int x1), .val (.int x2), .val (.int x3), .val (.int x4), .val (.int n_), .val (.ref b138), .val (.ref b166), .val (.int (own_b (own_A1 y0.toInt))), .val (.int v2), .val (.int v3), .unset, .unset] [(.int (1 : Int32)), (.ref b138)]))
        refine own_st (fun t_ => XS.iconst (own_here Y273) hx rfl (hb hby at_230) ) ?_
        show own_Ends _ _ _ _ (T272.setTop (mkF m 231 #[.val (.int x0), .val (.int x1), .val (.int x2), .val (.int x3), .val (.int x4), .val (.int n_), .val (.ref b138), .val (.ref b166), .val (.int (own_b (own_A1 y0.toInt))), .val (.int v2), .val (.int v3), .unset, .unset] [(.int (3 : Int32)), (.int (1 : Int32)), (.ref b138)]))
        refine own_callS Y273 hx hZ (y := (⟨"kombos/graph/Utf8IsValidPinLaw", "ok", "([III)Z"⟩ : MethodName)) hown (hw _ (List.mem_of_getElem? (i := 3) rfl)) (hw _ (List.mem_of_getElem? (i := 4) rfl)) (hw _ (List.mem_of_getElem? (i := 5) rfl)) (hw _ (List.mem_of_getElem? (i := 6) rfl)) (by decide) (argsL := [(.ref b138), (.int (1 : Int32)), (.int (3 : Int32))]) (rest := []) (own_rm1_1_3 l Z a0 hw [] b138 y0 y1 y2 y3 h207 n0  f211 gy0 gy1 gy2 gy3) (W := 0) (by decide) (by decide) (by decide) (by decide) rfl (by rw [hml]; rfl) (lenOf own_pd1 rfl) rfl (by show 2 * 0 + _ ≤ _; exact Nat.le_of_eq rfl) (hb hby at_231) (fun T285 h287 v288 Y286 q289 => ?_)
        obtain ⟨rfl, rfl⟩ := q289
        show own_Ends _ _ _ _ (T285.setTop (mkF m 234 #[.val (.int x0), .val (.int x1), .val (.int x2), .val (.int x3), .val (.int x4), .val (.int n_), .val (.ref b138), .val (.ref b166), .val (.int (own_b (own_A1 y0.toInt))), .val (.int v2), .val (.int v3), .unset, .unset] [(.int (own_b (own_A3 y1.toInt y2.toInt y3.toInt)))]))
        by_cases c234_290 : (own_b (own_A3 y1.toInt y2.toInt y3.toInt)) = (0 : Int32)
        ·
         refine own_st (fun t_ => XS.ifNo (own_here Y286) hx rfl (hb hby at_234) rfl (XT.i0_ne_f c234_290)) ?_
         show own_Ends _ _ _ _ (T285.setTop (mkF m 237 #[.val (.int x0), .val (.int x1), .val (.int x2), .val (.int x3), .val (.int x4), .val (.int n_), .val (.ref b138), .val (.ref b166), .val (.int (own_b (own_A1 y0.toInt))), .val (.int v2), .val (.int v3), .unset, .unset] []))
         refine own_st (fun t_ => XS.aload (own_here Y286) hx rfl (hb hby at_237) rfl rfl) ?_
         show own_Ends _ _ _ _ (T285.setTop (mkF m 239 #[.val (.int x0), .val (.int x1), .val (.int x2), .val (.int x3), .val (.int x4), .val (.int n_), .val (.ref b138), .val (.ref b166), .val (.int (own_b (own_A1 y0.toInt))), .val (.int v2), .val (.int v3), .unset, .unset] [(.ref b138)]))
         refine own_st (fun t_ => XS.iconst (own_here Y286) hx rfl (hb hby at_239) ) ?_
         show own_Ends _ _ _ _ (T285.setTop (mkF m 240 #[.val (.int x0), .val (.int x1), .val (.int x2), .val (.int x3), .val (.int x4), .val (.int n_), .val (.ref b138), .val (.ref b166), .val (.int (own_b (own_A1 y0.toInt))), .val (.int v2), .val (.int v3), .unset, .unset] [(.int (0 : Int32)), (.ref b138)]))
         refine own_st (fun t_ => XS.iconst (own_here Y286) hx rfl (hb hby at_240) ) ?_
         show own_Ends _ _ _ _ (T285.setTop (mkF m 241 #[.val (.int x0), .val (.int x1), .val (.int x2), .val (.int x3), .val (.int x4), .val (.int n_), .val (.ref b138), .val (.ref b166), .val (.int (own_b (own_A1 y0.toInt))), .val (.int v2), .val (.int v3), .unset, .unset] [(.int (4 : Int32)), (.int (0 : Int32)), (.ref b138)]))
         refine own_callS Y286 hx hZ (y := (⟨"kombos/graph/Utf8IsValidPinLaw", "ok", "([III)Z"⟩ : MethodName)) hown (hw _ (List.mem_of_getElem? (i := 3) rfl)) (hw _ (List.mem_of_getElem? (i := 4) rfl)) (hw _ (List.mem_of_getElem? (i := 5) rfl)) (hw _ (List.mem_of_getElem? (i := 6) rfl)) (by decide) (argsL := [(.ref b138), (.int (0 : Int32)), (.int (4 : Int32))]) (rest := []) (own_rm1_0_4 l Z a0 hw [] b138 y0 y1 y2 y3 h207 n0  f211 gy0 gy1 gy2 gy3) (W := 0) (by decide) (by decide) (by decide) (by decide) rfl (by rw [hml]; rfl) (lenOf own_pd1 rfl) rfl (by show 2 * 0 + _ ≤ _; exact Nat.le_of_eq rfl) (hb hby at_241) (fun T291 h293 v294 Y292 q295 => ?_)
         obtain ⟨rfl, rfl⟩ := q295
         show own_Ends _ _ _ _ (T291.setTop (mkF m 244 #[.val (.int x0), .val (.int x1), .val (.int x2), .val (.int x3), .val (.int x4), .val (.int n_), .val (.ref b138), .val (.ref b166), .val (.int (own_b (own_A1 y0.toInt))), .val (.int v2), .val (.int v3), .unset, .unset] [(.int (own_b (own_A4 y0.toInt y1.toInt y2.toInt y3.toInt)))]))
         by_cases c244_296 : (own_b (own_A4 y0.toInt y1.toInt y2.toInt y3.toInt)) = (0 : Int32)
         ·
          refine own_st (fun t_ => XS.ifYes (own_here Y292) hx rfl (pc0 := 244) (pc' := 251) rfl (hb hby at_244) rfl (XT.i0_eq_t c244_296) (by decide) (by decide)) ?_
          show own_Ends _ _ _ _ (T291.setTop (mkF m 251 #[.val (.int x0), .val (.int x1), .val (.int x2), .val (.int x3), .val (.int x4), .val (.int n_), .val (.ref b138), .val (.ref b166), .val (.int (own_b (own_A1 y0.toInt))), .val (.int v2), .val (.int v3), .unset, .unset] []))
          refine own_st (fun t_ => XS.iconst (own_here Y292) hx rfl (hb hby at_251) ) ?_
          show own_Ends _ _ _ _ (T291.setTop (mkF m 252 #[.val (.int x0), .val (.int x1), .val (.int x2), .val (.int x3), .val (.int x4), .val (.int n_), .val (.ref b138), .val (.ref b166), .val (.int (own_b (own_A1 y0.toInt))), .val (.int v2), .val (.int v3), .unset, .unset] [(.int (0 : Int32))]))
          exact hJ223 T291   ((0 : Int32)) Y292  (by simp only [hv2, hv3, own_b_0, Bool.not_eq_false] at c194_251 c209_252 c219_277 c224_278 c234_290 c244_296; simp [own_b, c194_251, c209_252, c219_277, c224_278, c234_290, c244_296])
         ·
          refine own_st (fun t_ => XS.ifNo (own_here Y292) hx rfl (hb hby at_244) rfl (XT.i0_eq_f c244_296)) ?_
          show own_Ends _ _ _ _ (T291.setTop (mkF m 247 #[.val (.int x0), .val (.int x1), .val (.int x2), .val (.int x3), .val (.int x4), .val (.int n_), .val (.ref b138), .val (.ref b166), .val (.int (own_b (own_A1 y0.toInt))), .val (.int v2), .val (.int v3), .unset, .unset] []))
          refine own_st (fun t_ => XS.iconst (own_here Y292) hx rfl (hb hby at_247) ) ?_
          show own_Ends _ _ _ _ (T291.setTop (mkF m 248 #[.val (.int x0), .val (.int x1), .val (.int x2), .val (.int x3), .val (.int x4), .val (.int n_), .val (.ref b138), .val (.ref b166), .val (.int (own_b (own_A1 y0.toInt))), .val (.int v2), .val (.int v3), .unset, .unset] [(.int (1 : Int32))]))
          refine own_st (fun t_ => XS.goto (own_here Y292) hx rfl (pc0 := 248) (pc' := 252) rfl (hb hby at_248) (by decide) (by decide)) ?_
          show own_Ends _ _ _ _ (T291.setTop (mkF m 252 #[.val (.int x0), .val (.int x1), .val (.int x2), .val (.int x3), .val (.int x4), .val (.int n_), .val (.ref b138), .val (.ref b166), .val (.int (own_b (own_A1 y0.toInt))), .val (.int v2), .val (.int v3), .unset, .unset] [(.int (1 : Int32))]))
          exact hJ223 T291   ((1 : Int32)) Y292  (by simp only [hv2, hv3, own_b_0, Bool.not_eq_false] at c194_251 c209_252 c219_277 c224_278 c234_290 c244_296; simp [own_b, c194_251, c209_252, c219_277, c224_278, c234_290, c244_296])
        ·
         refine own_st (fun t_ => XS.ifYes (own_here Y286) hx rfl (pc0 := 234) (pc' := 247) rfl (hb hby at_234) rfl (XT.i0_ne_t c234_290) (by decide) (by decide)) ?_
         show own_Ends _ _ _ _ (T285.setTop (mkF m 247 #[.val (.int x0), .val (.int x1), .val (.int x2), .val (.int x3), .val (.int x4), .val (.int n_), .val (.ref b138), .val (.ref b166), .val (.int (own_b (own_A1 y0.toInt))), .val (.int v2), .val (.int v3), .unset, .unset] []))
         refine own_st (fun t_ => XS.iconst (own_here Y286) hx rfl (hb hby at_247) ) ?_
         show own_Ends _ _ _ _ (T285.setTop (mkF m 248 #[.val (.int x0), .val (.int x1), .val (.int x2), .val (.int x3), .val (.int x4), .val (.int n_), .val (.ref b138), .val (.ref b166), .val (.int (own_b (own_A1 y0.toInt))), .val (.int v2), .val (.int v3), .unset, .unset] [(.int (1 : Int32))]))
         refine own_st (fun t_ => XS.goto (own_here Y286) hx rfl (pc0 := 248) (pc' := 252) rfl (hb hby at_248) (by decide) (by decide)) ?_
         show own_Ends _ _ _ _ (T285.setTop (mkF m 252 #[.val (.int x0), .val (.int x1), .val (.int x2), .val (.int x3), .val (.int x4), .val (.int n_), .val (.ref b138), .val (.ref b166), .val (.int (own_b (own_A1 y0.toInt))), .val (.int v2), .val (.int v3), .unset, .unset] [(.int (1 : Int32))]))
         exact hJ223 T285   ((1 : Int32)) Y286  (by simp only [hv2, hv3, own_b_0, Bool.not_eq_false] at c194_251 c209_252 c219_277 c224_278 c234_290; simp [own_b, c194_251, c209_252, c219_277, c224_278, c234_290])
      ·
       refine own_st (fun t_ => XS.ifYes (own_here Y273) hx rfl (pc0 := 219) (pc' := 247) rfl (hb hby at_219) rfl (XT.i0_ne_t c219_277) (by decide) (by decide)) ?_
       show own_Ends _ _ _ _ (T272.setTop (mkF m 247 #[.val (.int x0), .val (.int x1), .val (.int x2), .val (.int x3), .val (.int x4), .val (.int n_), .val (.ref b138), .val (.ref b166), .val (.int (own_b (own_A1 y0.toInt))), .val (.int v2), .val (.int v3), .unset, .unset] []))
       refine own_st (fun t_ => XS.iconst (own_here Y273) hx rfl (hb hby at_247) ) ?_
       show own_Ends _ _ _ _ (T272.setTop (mkF m 248 #[.val (.int x0), .val (.int x1), .val (.int x2), .val (.int x3), .val (.int x4), .val (.int n_), .val (.ref b138), .val (.ref b166), .val (.int (own_b (own_A1 y0.toInt))), .val (.int v2), .val (.int v3), .unset, .unset] [(.int (1 : Int32))]))
       refine own_st (fun t_ => XS.goto (own_here Y273) hx rfl (pc0 := 248) (pc' := 252) rfl (hb hby at_248) (by decide) (by decide)) ?_
       show own_Ends _ _ _ _ (T272.setTop (mkF m 252 #[.val (.int x0), .val (.int x1), .val (.int x2), .val (.int x3), .val (.int x4), .val (.int n_), .val (.ref b138), .val (.ref b166), .val (.int (own_b (own_A1 y0.toInt))), .val (.int v2), .val (.int v3), .unset, .unset] [(.int (1 : Int32))]))
       exact hJ223 T272   ((1 : Int32)) Y273  (by simp only [hv2, hv3, own_b_0, Bool.not_eq_false] at c194_251 c209_252 c219_277; simp [own_b, c194_251, c209_252, c219_277])
    ·
     refine own_st (fun t_ => XS.ifNo (own_here Y222) hx rfl (hb hby at_194) rfl (XT.i0_eq_f c194_251)) ?_
     show own_Ends _ _ _ _ (T221.setTop (mkF m 197 #[.val (.int x0), .val (.int x1), .val (.int x2), .val (.int x3), .val (.int x4), .val (.int n_), .val (.ref b138), .val (.ref b166), .val (.int (own_b (own_A1 y0.toInt))), .val (.int v2), .val (.int v3), .unset, .unset] []))
     refine own_st (fun t_ => XS.aload (own_here Y222) hx rfl (hb hby at_197) rfl rfl) ?_
     show own_Ends _ _ _ _ (T221.setTop (mkF m 199 #[.val (.int x0), .val (.int x1), .val (.int x2), .val (.int x3), .val (.int x4), .val (.int n_), .val (.ref b138), .val (.ref b166), .val (.int (own_b (own_A1 y0.toInt))), .val (.int v2), .val (.int v3), .unset, .unset] [(.ref b138)]))
     refine own_st (fun t_ => XS.iconst (own_here Y222) hx rfl (hb hby at_199) ) ?_
     show own_Ends _ _ _ _ (T221.setTop (mkF m 200 #[.val (.int x0), .val (.int x1), .val (.int x2), .val (.int x3), .val (.int x4), .val (.int n_), .val (.ref b138), .val (.ref b166), .val (.int (own_b (own_A1 y0.toInt))), .val (.int v2), .val (.int v3), .unset, .unset] [(.int (3 : Int32)), (.ref b138)]))
     refine own_st (fun t_ => XS.iconst (own_here Y222) hx rfl (hb hby at_200) ) ?_
     show own_Ends _ _ _ _ (T221.setTop (mkF m 201 #[.val (.int x0), .val (.int x1), .val (.int x2), .val (.int x3), .val (.int x4), .val (.int n_), .val (.ref b138), .val (.ref b166), .val (.int (own_b (own_A1 y0.toInt))), .val (.int v2), .val (.int v3), .unset, .unset] [(.int (1 : Int32)), (.int (3 : Int32)), (.ref b138)]))
     refine own_callS Y222 hx hZ (y := (⟨"kombos/graph/Utf8IsValidPinLaw", "ok", "([III)Z"⟩ : MethodName)) hown (hw _ (List.mem_of_getElem? (i := 3) rfl)) (hw _ (List.mem_of_getElem? (i := 4) rfl)) (hw _ (List.mem_of_getElem? (i := 5) rfl)) (hw _ (List.mem_of_getElem? (i := 6) rfl)) (by decide) (argsL := [(.ref b138), (.int (3 : Int32)), (.int (1 : Int32))]) (rest := []) (own_rm1_3_1 l Z a0 hw [] b138 y0 y1 y2 y3 h207 n0  f211 gy0 gy1 gy2 gy3) (W := 0) (by decide) (by decide) (by decide) (by decide) rfl (by rw [hml]; rfl) (lenOf own_pd1 rfl) rfl (by show 2 * 0 + _ ≤ _; exact Nat.le_of_eq rfl) (hb hby at_201) (fun T297 h299 v300 Y298 q301 => ?_)
     obtain ⟨rfl, rfl⟩ := q301
     show own_Ends _ _ _ _ (T297.setTop (mkF m 204 #[.val (.int x0), .val (.int x1), .val (.int x2), .val (.int x3), .val (.int x4), .val (.int n_), .val (.ref b138), .val (.ref b166), .val (.int (own_b (own_A1 y0.toInt))), .val (.int v2), .val (.int v3), .unset, .unset] [(.int (own_b (own_A1 y3.toInt)))]))
     by_cases c204_302 : (own_b (own_A1 y3.toInt)) = (0 : Int32)
     ·
      refine own_st (fun t_ => XS.ifNo (own_here Y298) hx rfl (hb hby at_204) rfl (XT.i0_ne_f c204_302)) ?_
      show own_Ends _ _ _ _ (T297.setTop (mkF m 207 #[.val (.int x0), .val (.int x1), .val (.int x2), .val (.int x3), .val (.int x4), .val (.int n_), .val (.ref b138), .val (.ref b166), .val (.int (own_b (own_A1 y0.toInt))), .val (.int v2), .val (.int v3), .unset, .unset] []))
      refine own_st (fun t_ => XS.iload (own_here Y298) hx rfl (hb hby at_207) rfl) ?_
      show own_Ends _ _ _ _ (T297.setTop (mkF m 209 #[.val (.int x0), .val (.int x1), .val (.int x2), .val (.int x3), .val (.int x4), .val (.int n_), .val (.ref b138), .val (.ref b166), .val (.int (own_b (own_A1 y0.toInt))), .val (.int v2), .val (.int v3), .unset, .unset] [(.int v2)]))
      by_cases c209_303 : v2 = (0 : Int32)
      ·
       refine own_st (fun t_ => XS.ifYes (own_here Y298) hx rfl (pc0 := 209) (pc' := 222) rfl (hb hby at_209) rfl (XT.i0_eq_t c209_303) (by decide) (by decide)) ?_
       show own_Ends _ _ _ _ (T297.setTop (mkF m 222 #[.val (.int x0), .val (.int x1), .val (.int x2), .val (.int x3), .val (.int x4), .val (.int n_), .val (.ref b138), .val (.ref b166), .val (.int (own_b (own_A1 y0.toInt))), .val (.int v2), .val (.int v3), .unset, .unset] []))
       refine own_st (fun t_ => XS.iload (own_here Y298) hx rfl (hb hby at_222) rfl) ?_
       show own_Ends _ _ _ _ (T297.setTop (mkF m 224 #[.val (.int x0), .val (.int x1), .val (.int x2), .val (.int x3), .val (.int x4), .val (.int n_), .val (.ref b138), .val (.ref b166), .val (.int (own_b (own_A1 y0.toInt))), .val (.int v2), .val (.int v3), .unset, .unset] [(.int (own_b (own_A1 y0.toInt)))]))
       by_cases c224_304 : (own_b (own_A1 y0.toInt)) = (0 : Int32)
       ·
        refine own_st (fun t_ => XS.ifYes (own_here Y298) hx rfl (pc0 := 224) (pc' := 237) rfl (hb hby at_224) rfl (XT.i0_eq_t c224_304) (by decide) (by decide)) ?_
        show own_Ends _ _ _ _ (T297.setTop (mkF m 237 #[.val (.int x0), .val (.int x1), .val (.int x2), .val (.int x3), .val (.int x4), .val (.int n_), .val (.ref b138), .val (.ref b166), .val (.int (own_b (own_A1 y0.toInt))), .val (.int v2), .val (.int v3), .unset, .unset] []))
        refine own_st (fun t_ => XS.aload (own_here Y298) hx rfl (hb hby at_237) rfl rfl) ?_
        show own_Ends _ _ _ _ (T297.setTop (mkF m 239 #[.val (.int x0), .val (.int x1), .val (.int x2), .val (.int x3), .val (.int x4), .val (.int n_), .val (.ref b138), .val (.ref b166), .val (.int (own_b (own_A1 y0.toInt))), .val (.int v2), .val (.int v3), .unset, .unset] [(.ref b138)]))
        refine own_st (fun t_ => XS.iconst (own_here Y298) hx rfl (hb hby at_239) ) ?_
        show own_Ends _ _ _ _ (T297.setTop (mkF m 240 #[.val (.int x0), .val (.int x1), .val (.int x2), .val (.int x3), .val (.int x4), .val (.int n_), .val (.ref b138), .val (.ref b166), .val (.int (own_b (own_A1 y0.toInt))), .val (.int v2), .val (.int v3), .unset, .unset] [(.int (0 : Int32)), (.ref b138)]))
        refine own_st (fun t_ => XS.iconst (own_here Y298) hx rfl (hb hby at_240) ) ?_
        show own_Ends _ _ _ _ (T297.setTop (mkF m 241 #[.val (.int x0), .val (.int x1), .val (.int x2), .val (.int x3), .val (.int x4), .val (.int n_), .val (.ref b138), .val (.ref b166), .val (.int (own_b (own_A1 y0.toInt))), .val (.int v2), .val (.int v3), .unset, .unset] [(.int (4 : Int32)), (.int (0 : Int32)), (.ref b138)]))
        refine own_callS Y298 hx hZ (y := (⟨"kombos/graph/Utf8IsValidPinLaw", "ok", "([III)Z"⟩ : MethodName)) hown (hw _ (List.mem_of_getElem? (i := 3) rfl)) (hw _ (List.mem_of_getElem? (i := 4) rfl)) (hw _ (List.mem_of_getElem? (i := 5) rfl)) (hw _ (List.mem_of_getElem? (i := 6) rfl)) (by decide) (argsL := [(.ref b138), (.int (0 : Int32)), (.int (4 : Int32))]) (rest := []) (own_rm1_0_4 l Z a0 hw [] b138 y0 y1 y2 y3 h207 n0  f211 gy0 gy1 gy2 gy3) (W := 0) (by decide) (by decide) (by decide) (by decide) rfl (by rw [hml]; rfl) (lenOf own_pd1 rfl) rfl (by show 2 * 0 + _ ≤ _; exact Nat.le_of_eq rfl) (hb hby at_241) (fun T305 h307 v308 Y306 q309 => ?_)
        obtain ⟨rfl, rfl⟩ := q309
        show own_Ends _ _ _ _ (T305.setTop (mkF m 244 #[.val (.int x0), .val (.int x1), .val (.int x2), .val (.int x3), .val (.int x4), .val (.int n_), .val (.ref b138), .val (.ref b166), .val (.int (own_b (own_A1 y0.toInt))), .val (.int v2), .val (.int v3), .unset, .unset] [(.int (own_b (own_A4 y0.toInt y1.toInt y2.toInt y3.toInt)))]))
        by_cases c244_310 : (own_b (own_A4 y0.toInt y1.toInt y2.toInt y3.toInt)) = (0 : Int32)
        ·
         refine own_st (fun t_ => XS.ifYes (own_here Y306) hx rfl (pc0 := 244) (pc' := 251) rfl (hb hby at_244) rfl (XT.i0_eq_t c244_310) (by decide) (by decide)) ?_
         show own_Ends _ _ _ _ (T305.setTop (mkF m 251 #[.val (.int x0), .val (.int x1), .val (.int x2), .val (.int x3), .val (.int x4), .val (.int n_), .val (.ref b138), .val (.ref b166), .val (.int (own_b (own_A1 y0.toInt))), .val (.int v2), .val (.int v3), .unset, .unset] []))
         refine own_st (fun t_ => XS.iconst (own_here Y306) hx rfl (hb hby at_251) ) ?_
         show own_Ends _ _ _ _ (T305.setTop (mkF m 252 #[.val (.int x0), .val (.int x1), .val (.int x2), .val (.int x3), .val (.int x4), .val (.int n_), .val (.ref b138), .val (.ref b166), .val (.int (own_b (own_A1 y0.toInt))), .val (.int v2), .val (.int v3), .unset, .unset] [(.int (0 : Int32))]))
         exact hJ223 T305   ((0 : Int32)) Y306  (by simp only [hv2, hv3, own_b_0, Bool.not_eq_false] at c194_251 c204_302 c209_303 c224_304 c244_310; simp [own_b, c194_251, c204_302, c209_303, c224_304, c244_310])
        ·
         refine own_st (fun t_ => XS.ifNo (own_here Y306) hx rfl (hb hby at_244) rfl (XT.i0_eq_f c244_310)) ?_
         show own_Ends _ _ _ _ (T305.setTop (mkF m 247 #[.val (.int x0), .val (.int x1), .val (.int x2), .val (.int x3), .val (.int x4), .val (.int n_), .val (.ref b138), .val (.ref b166), .val (.int (own_b (own_A1 y0.toInt))), .val (.int v2), .val (.int v3), .unset, .unset] []))
         refine own_st (fun t_ => XS.iconst (own_here Y306) hx rfl (hb hby at_247) ) ?_
         show own_Ends _ _ _ _ (T305.setTop (mkF m 248 #[.val (.int x0), .val (.int x1), .val (.int x2), .val (.int x3), .val (.int x4), .val (.int n_), .val (.ref b138), .val (.ref b166), .val (.int (own_b (own_A1 y0.toInt))), .val (.int v2), .val (.int v3), .unset, .unset] [(.int (1 : Int32))]))
         refine own_st (fun t_ => XS.goto (own_here Y306) hx rfl (pc0 := 248) (pc' := 252) rfl (hb hby at_248) (by decide) (by decide)) ?_
         show own_Ends _ _ _ _ (T305.setTop (mkF m 252 #[.val (.int x0), .val (.int x1), .val (.int x2), .val (.int x3), .val (.int x4), .val (.int n_), .val (.ref b138), .val (.ref b166), .val (.int (own_b (own_A1 y0.toInt))), .val (.int v2), .val (.int v3), .unset, .unset] [(.int (1 : Int32))]))
         exact hJ223 T305   ((1 : Int32)) Y306  (by simp only [hv2, hv3, own_b_0, Bool.not_eq_false] at c194_251 c204_302 c209_303 c224_304 c244_310; simp [own_b, c194_251, c204_302, c209_303, c224_304, c244_310])
       ·
        refine own_st (fun t_ => XS.ifNo (own_here Y298) hx rfl (hb hby at_224) rfl (XT.i0_eq_f c224_304)) ?_
        show own_Ends _ _ _ _ (T297.setTop (mkF m 227 #[.val (.int x0), .val (.int x1), .val (.int x2), .val (.int x3), .val (.int x4), .val (.int n_), .val (.ref b138), .val (.ref b166), .val (.int (own_b (own_A1 y0.toInt))), .val (.int v2), .val (.int v3), .unset, .unset] []))
        refine own_st (fun t_ => XS.aload (own_here Y298) hx rfl (hb hby at_227) rfl rfl) ?_
        show own_Ends _ _ _ _ (T297.setTop (mkF m 229 #[.val (.int x0), .val (.int x1), .val (.int x2), .val (.int x3), .val (.int x4), .val (.int n_), .val (.ref b138), .val (.ref b166), .val (.int (own_b (own_A1 y0.toInt))), .val (.int v2), .val (.int v3), .unset, .unset] [(.ref b138)]))
        refine own_st (fun t_ => XS.iconst (own_here Y298) hx rfl (hb hby at_229) ) ?_
        show own_Ends _ _ _ _ (T297.setTop (mkF m 230 #[.val (.int x0), .val (.int x1), .val (.int x2), .val (.int x3), .val (.int x4), .val (.int n_), .val (.ref b138), .val (.ref b166), .val (.int (own_b (own_A1 y0.toInt))), .val (.int v2), .val (.int v3), .unset, .unset] [(.int (1 : Int32)), (.ref b138)]))
        refine own_st (fun t_ => XS.iconst (own_here Y298) hx rfl (hb hby at_230) ) ?_
        show own_Ends _ _ _ _ (T297.setTop (mkF m 231 #[.val (.int x0), .val (.int x1), .val (.int x2), .val (.int x3), .val (.int x4), .val (.int n_), .val (.ref b138), .val (.ref b166), .val (.int (own_b (own_A1 y0.toInt))), .val (.int v2), .val (.int v3), .unset, .unset] [(.int (3 : Int32)), (.int (1 : Int32)), (.ref b138)]))
        refine own_callS Y298 hx hZ (y := (⟨"kombos/graph/Utf8IsValidPinLaw", "ok", "([III)Z"⟩ : MethodName)) hown (hw _ (List.mem_of_getElem? (i := 3) rfl)) (hw _ (List.mem_of_getElem? (i := 4) rfl)) (hw _ (List.mem_of_getElem? (i := 5) rfl)) (hw _ (List.mem_of_getElem? (i := 6) rfl)) (by decide) (argsL := [(.ref b138), (.int (1 : Int32)), (.int (3 : Int32))]) (rest := []) (own_rm1_1_3 l Z a0 hw [] b138 y0 y1 y2 y3 h207 n0  f211 gy0 gy1 gy2 gy3) (W := 0) (by decide) (by decide) (by decide) (by decide) rfl (by rw [hml]; rfl) (lenOf own_pd1 rfl) rfl (by show 2 * 0 + _ ≤ _; exact Nat.le_of_eq rfl) (hb hby at_231) (fun T311 h313 v314 Y312 q315 => ?_)
        obtain ⟨rfl, rfl⟩ := q315
        show own_Ends _ _ _ _ (T311.setTop (mkF m 234 #[.val (.int x0), .val (.int x1), .val (.int x2), .val (.int x3), .val (.int x4), .val (.int n_), .val (.ref b138), .val (.ref b166), .val (.int (own_b (own_A1 y0.toInt))), .val (.int v2), .val (.int v3), .unset, .unset] [(.int (own_b (own_A3 y1.toInt y2.toInt y3.toInt)))]))
        by_cases c234_316 : (own_b (own_A3 y1.toInt y2.toInt y3.toInt)) = (0 : Int32)
        ·
         refine own_st (fun t_ => XS.ifNo (own_here Y312) hx rfl (hb hby at_234) rfl (XT.i0_ne_f c234_316)) ?_
         show own_Ends _ _ _ _ (T311.setTop (mkF m 237 #[.val (.int x0), .val (.int x1), .val (.int x2), .val (.int x3), .val (.int x4), .val (.int n_), .val (.ref b138), .val (.ref b166), .val (.int (own_b (own_A1 y0.toInt))), .val (.int v2), .val (.int v3), .unset, .unset] []))
         refine own_st (fun t_ => XS.aload (own_here Y312) hx rfl (hb hby at_237) rfl rfl) ?_
         show own_Ends _ _ _ _ (T311.setTop (mkF m 239 #[.val (.int x0), .val (.int x1), .val (.int x2), .val (.int x3), .val (.int x4), .val (.int n_), .val (.ref b138), .val (.ref b166), .val (.int (own_b (own_A1 y0.toInt))), .val (.int v2), .val (.int v3), .unset, .unset] [(.ref b138)]))
         refine own_st (fun t_ => XS.iconst (own_here Y312) hx rfl (hb hby at_239) ) ?_
         show own_Ends _ _ _ _ (T311.setTop (mkF m 240 #[.val (.int x0), .val (.int x1), .val (.int x2), .val (.int x3), .val (.int x4), .val (.int n_), .val (.ref b138), .val (.ref b166), .val (.int (own_b (own_A1 y0.toInt))), .val (.int v2), .val (.int v3), .unset, .unset] [(.int (0 : Int32)), (.ref b138)]))
         refine own_st (fun t_ => XS.iconst (own_here Y312) hx rfl (hb hby at_240) ) ?_
         show own_Ends _ _ _ _ (T311.setTop (mkF m 241 #[.val (.int x0), .val (.int x1), .val (.int x2), .val (.int x3), .val (.int x4), .val (.int n_), .val (.ref b138), .val (.ref b166), .val (.int (own_b (own_A1 y0.toInt))), .val (.int v2), .val (.int v3), .unset, .unset] [(.int (4 : Int32)), (.int (0 : Int32)), (.ref b138)]))
         refine own_callS Y312 hx hZ (y := (⟨"kombos/graph/Utf8IsValidPinLaw", "ok", "([III)Z"⟩ : MethodName)) hown (hw _ (List.mem_of_getElem? (i := 3) rfl)) (hw _ (List.mem_of_getElem? (i := 4) rfl)) (hw _ (List.mem_of_getElem? (i := 5) rfl)) (hw _ (List.mem_of_getElem? (i := 6) rfl)) (by decide) (argsL := [(.ref b138), (.int (0 : Int32)), (.int (4 : Int32))]) (rest := []) (own_rm1_0_4 l Z a0 hw [] b138 y0 y1 y2 y3 h207 n0  f211 gy0 gy1 gy2 gy3) (W := 0) (by decide) (by decide) (by decide) (by decide) rfl (by rw [hml]; rfl) (lenOf own_pd1 rfl) rfl (by show 2 * 0 + _ ≤ _; exact Nat.le_of_eq rfl) (hb hby at_241) (fun T317 h319 v320 Y318 q321 => ?_)
         obtain ⟨rfl, rfl⟩ := q321
         show own_Ends _ _ _ _ (T317.setTop (mkF m 244 #[.val (.int x0), .val (.int x1), .val (.int x2), .val (.int x3), .val (.int x4), .val (.int n_), .val (.ref b138), .val (.ref b166), .val (.int (own_b (own_A1 y0.toInt))), .val (.int v2), .val (.int v3), .unset, .unset] [(.int (own_b (own_A4 y0.toInt y1.toInt y2.toInt y3.toInt)))]))
         by_cases c244_322 : (own_b (own_A4 y0.toInt y1.toInt y2.toInt y3.toInt)) = (0 : Int32)
         ·
          refine own_st (fun t_ => XS.ifYes (own_here Y318) hx rfl (pc0 := 244) (pc' := 251) rfl (hb hby at_244) rfl (XT.i0_eq_t c244_322) (by decide) (by decide)) ?_
          show own_Ends _ _ _ _ (T317.setTop (mkF m 251 #[.val (.int x0), .val (.int x1), .val (.int x2), .val (.int x3), .val (.int x4), .val (.int n_), .val (.ref b138), .val (.ref b166), .val (.int (own_b (own_A1 y0.toInt))), .val (.int v2), .val (.int v3), .unset, .unset] []))
          refine own_st (fun t_ => XS.iconst (own_here Y318) hx rfl (hb hby at_251) ) ?_
          show own_Ends _ _ _ _ (T317.setTop (mkF m 252 #[.val (.int x0), .val (.int x1), .val (.int x2), .val (.int x3), .val (.int x4), .val (.int n_), .val (.ref b138), .val (.ref b166), .val (.int (own_b (own_A1 y0.toInt))), .val (.int v2), .val (.int v3), .unset, .unset] [(.int (0 : Int32))]))
          exact hJ223 T317   ((0 : Int32)) Y318  (by simp only [hv2, hv3, own_b_0, Bool.not_eq_false] at c194_251 c204_302 c209_303 c224_304 c234_316 c244_322; simp [own_b, c194_251, c204_302, c209_303, c224_304, c234_316, c244_322])
         ·
          refine own_st (fun t_ => XS.ifNo (own_here Y318) hx rfl (hb hby at_244) rfl (XT.i0_eq_f c244_322)) ?_
          show own_Ends _ _ _ _ (T317.setTop (mkF m 247 #[.val (.int x0), .val (.int x1), .val (.int x2), .val (.int x3), .val (.int x4), .val (.int n_), .val (.ref b138), .val (.ref b166), .val (.int (own_b (own_A1 y0.toInt))), .val (.int v2), .val (.int v3), .unset, .unset] []))
          refine own_st (fun t_ => XS.iconst (own_here Y318) hx rfl (hb hby at_247) ) ?_
          show own_Ends _ _ _ _ (T317.setTop (mkF m 248 #[.val (.int x0), .val (.int x1), .val (.int x2), .val (.int x3), .val (.int x4), .val (.int n_), .val (.ref b138), .val (.ref b166), .val (.int (own_b (own_A1 y0.toInt))), .val (.int v2), .val (.int v3), .unset, .unset] [(.int (1 : Int32))]))
          refine own_st (fun t_ => XS.goto (own_here Y318) hx rfl (pc0 := 248) (pc' := 252) rfl (hb hby at_248) (by decide) (by decide)) ?_
          show own_Ends _ _ _ _ (T317.setTop (mkF m 252 #[.val (.int x0), .val (.int x1), .val (.int x2), .val (.int x3), .val (.int x4), .val (.int n_), .val (.ref b138), .val (.ref b166), .val (.int (own_b (own_A1 y0.toInt))), .val (.int v2), .val (.int v3), .unset, .unset] [(.int (1 : Int32))]))
          exact hJ223 T317   ((1 : Int32)) Y318  (by simp only [hv2, hv3, own_b_0, Bool.not_eq_false] at c194_251 c204_302 c209_303 c224_304 c234_316 c244_322; simp [own_b, c194_251, c204_302, c209_303, c224_304, c234_316, c244_322])
        ·
         refine own_st (fun t_ => XS.ifYes (own_here Y312) hx rfl (pc0 := 234) (pc' := 247) rfl (hb hby at_234) rfl (XT.i0_ne_t c234_316) (by decide) (by decide)) ?_
         show own_Ends _ _ _ _ (T311.setTop (mkF m 247 #[.val (.int x0), .val (.int x1), .val (.int x2), .val (.int x3), .val (.int x4), .val (.int n_), .val (.ref b138), .val (.ref b166), .val (.int (own_b (own_A1 y0.toInt))), .val (.int v2), .val (.int v3), .unset, .unset] []))
         refine own_st (fun t_ => XS.iconst (own_here Y312) hx rfl (hb hby at_247) ) ?_
         show own_Ends _ _ _ _ (T311.setTop (mkF m 248 #[.val (.int x0), .val (.int x1), .val (.int x2), .val (.int x3), .val (.int x4), .val (.int n_), .val (.ref b138), .val (.ref b166), .val (.int (own_b (own_A1 y0.toInt))), .val (.int v2), .val (.int v3), .unset, .unset] [(.int (1 : Int32))]))
         refine own_st (fun t_ => XS.goto (own_here Y312) hx rfl (pc0 := 248) (pc' := 252) rfl (hb hby at_248) (by decide) (by decide)) ?_
         show own_Ends _ _ _ _ (T311.setTop (mkF m 252 #[.val (.int x0), .val (.int x1), .val (.int x2), .val (.int x3), .val (.int x4), .val (.int n_), .val (.ref b138), .val (.ref b166), .val (.int (own_b (own_A1 y0.toInt))), .val (.int v2), .val (.int v3), .unset, .unset] [(.int (1 : Int32))]))
         exact hJ223 T311   ((1 : Int32)) Y312  (by simp only [hv2, hv3, own_b_0, Bool.not_eq_false] at c194_251 c204_302 c209_303 c224_304 c234_316; simp [own_b, c194_251, c204_302, c209_303, c224_304, c234_316])
      ·
       refine own_st (fun t_ => XS.ifNo (own_here Y298) hx rfl (hb hby at_209) rfl (XT.i0_eq_f c209_303)) ?_
       show own_Ends _ _ _ _ (T297.setTop (mkF m 212 #[.val (.int x0), .val (.int x1), .val (.int x2), .val (.int x3), .val (.int x4), .val (.int n_), .val (.ref b138), .val (.ref b166), .val (.int (own_b (own_A1 y0.toInt))), .val (.int v2), .val (.int v3), .unset, .unset] []))
       refine own_st (fun t_ => XS.aload (own_here Y298) hx rfl (hb hby at_212) rfl rfl) ?_
       show own_Ends _ _ _ _ (T297.setTop (mkF m 214 #[.val (.int x0), .val (.int x1), .val (.int x2), .val (.int x3), .val (.int x4), .val (.int n_), .val (.ref b138), .val (.ref b166), .val (.int (own_b (own_A1 y0.toInt))), .val (.int v2), .val (.int v3), .unset, .unset] [(.ref b138)]))
       refine own_st (fun t_ => XS.iconst (own_here Y298) hx rfl (hb hby at_214) ) ?_
       show own_Ends _ _ _ _ (T297.setTop (mkF m 215 #[.val (.int x0), .val (.int x1), .val (.int x2), .val (.int x3), .val (.int x4), .val (.int n_), .val (.ref b138), .val (.ref b166), .val (.int (own_b (own_A1 y0.toInt))), .val (.int v2), .val (.int v3), .unset, .unset] [(.int (2 : Int32)), (.ref b138)]))
       refine own_st (fun t_ => XS.iconst (own_here Y298) hx rfl (hb hby at_215) ) ?_
       show own_Ends _ _ _ _ (T297.setTop (mkF m 216 #[.val (.int x0), .val (.int x1), .val (.int x2), .val (.int x3), .val (.int x4), .val (.int n_), .val (.ref b138), .val (.ref b166), .val (.int (own_b (own_A1 y0.toInt))), .val (.int v2), .val (.int v3), .unset, .unset] [(.int (2 : Int32)), (.int (2 : Int32)), (.ref b138)]))
       refine own_callS Y298 hx hZ (y := (⟨"kombos/graph/Utf8IsValidPinLaw", "ok", "([III)Z"⟩ : MethodName)) hown (hw _ (List.mem_of_getElem? (i := 3) rfl)) (hw _ (List.mem_of_getElem? (i := 4) rfl)) (hw _ (List.mem_of_getElem? (i := 5) rfl)) (hw _ (List.mem_of_getElem? (i := 6) rfl)) (by decide) (argsL := [(.ref b138), (.int (2 : Int32)), (.int (2 : Int32))]) (rest := []) (own_rm1_2_2 l Z a0 hw [] b138 y0 y1 y2 y3 h207 n0  f211 gy0 gy1 gy2 gy3) (W := 0) (by decide) (by decide) (by decide) (by decide) rfl (by rw [hml]; rfl) (lenOf own_pd1 rfl) rfl (by show 2 * 0 + _ ≤ _; exact Nat.le_of_eq rfl) (hb hby at_216) (fun T323 h325 v326 Y324 q327 => ?_)
       obtain ⟨rfl, rfl⟩ := q327
       show own_Ends _ _ _ _ (T323.setTop (mkF m 219 #[.val (.int x0), .val (.int x1), .val (.int x2), .val (.int x3), .val (.int x4), .val (.int n_), .val (.ref b138), .val (.ref b166), .val (.int (own_b (own_A1 y0.toInt))), .val (.int v2), .val (.int v3), .unset, .unset] [(.int (own_b (own_A2 y2.toInt y3.toInt)))]))
       by_cases c219_328 : (own_b (own_A2 y2.toInt y3.toInt)) = (0 : Int32)
       ·
        refine own_st (fun t_ => XS.ifNo (own_here Y324) hx rfl (hb hby at_219) rfl (XT.i0_ne_f c219_328)) ?_
        show own_Ends _ _ _ _ (T323.setTop (mkF m 222 #[.val (.int x0), .val (.int x1), .val (.int x2), .val (.int x3), .val (.int x4), .val (.int n_), .val (.ref b138), .val (.ref b166), .val (.int (own_b (own_A1 y0.toInt))), .val (.int v2), .val (.int v3), .unset, .unset] []))
        refine own_st (fun t_ => XS.iload (own_here Y324) hx rfl (hb hby at_222) rfl) ?_
        show own_Ends _ _ _ _ (T323.setTop (mkF m 224 #[.val (.int x0), .val (.int x1), .val (.int x2), .val (.int x3), .val (.int x4), .val (.int n_), .val (.ref b138), .val (.ref b166), .val (.int (own_b (own_A1 y0.toInt))), .val (.int v2), .val (.int v3), .unset, .unset] [(.int (own_b (own_A1 y0.toInt)))]))
        by_cases c224_329 : (own_b (own_A1 y0.toInt)) = (0 : Int32)
        ·
         refine own_st (fun t_ => XS.ifYes (own_here Y324) hx rfl (pc0 := 224) (pc' := 237) rfl (hb hby at_224) rfl (XT.i0_eq_t c224_329) (by decide) (by decide)) ?_
         show own_Ends _ _ _ _ (T323.setTop (mkF m 237 #[.val (.int x0), .val (.int x1), .val (.int x2), .val (.int x3), .val (.int x4), .val (.int n_), .val (.ref b138), .val (.ref b166), .val (.int (own_b (own_A1 y0.toInt))), .val (.int v2), .val (.int v3), .unset, .unset] []))
         refine own_st (fun t_ => XS.aload (own_here Y324) hx rfl (hb hby at_237) rfl rfl) ?_
         show own_Ends _ _ _ _ (T323.setTop (mkF m 239 #[.val (.int x0), .val (.int x1), .val (.int x2), .val (.int x3), .val (.int x4), .val (.int n_), .val (.ref b138), .val (.ref b166), .val (.int (own_b (own_A1 y0.toInt))), .val (.int v2), .val (.int v3), .unset, .unset] [(.ref b138)]))
         refine own_st (fun t_ => XS.iconst (own_here Y324) hx rfl (hb hby at_239) ) ?_
         show own_Ends _ _ _ _ (T323.setTop (mkF m 240 #[.val (.int x0), .val (.int x1), .val (.int x2), .val (.int x3), .val (.int x4), .val (.int n_), .val (.ref b138), .val (.ref b166), .val (.int (own_b (own_A1 y0.toInt))), .val (.int v2), .val (.int v3), .unset, .unset] [(.int (0 : Int32)), (.ref b138)]))
         refine own_st (fun t_ => XS.iconst (own_here Y324) hx rfl (hb hby at_240) ) ?_
         show own_Ends _ _ _ _ (T323.setTop (mkF m 241 #[.val (.int x0), .val (.int x1), .val (.int x2), .val (.int x3), .val (.int x4), .val (.int n_), .val (.ref b138), .val (.ref b166), .val (.int (own_b (own_A1 y0.toInt))), .val (.int v2), .val (.int v3), .unset, .unset] [(.int (4 : Int32)), (.int (0 : Int32)), (.ref b138)]))
         refine own_callS Y324 hx hZ (y := (⟨"kombos/graph/Utf8IsValidPinLaw", "ok", "([III)Z"⟩ : MethodName)) hown (hw _ (List.mem_of_getElem? (i := 3) rfl)) (hw _ (List.mem_of_getElem? (i := 4) rfl)) (hw _ (List.mem_of_getElem? (i := 5) rfl)) (hw _ (List.mem_of_getElem? (i := 6) rfl)) (by decide) (argsL := [(.ref b138), (.int (0 : Int32)), (.int (4 : Int32))]) (rest := []) (own_rm1_0_4 l Z a0 hw [] b138 y0 y1 y2 y3 h207 n0  f211 gy0 gy1 gy2 gy3) (W := 0) (by decide) (by decide) (by decide) (by decide) rfl (by rw [hml]; rfl) (lenOf own_pd1 rfl) rfl (by show 2 * 0 + _ ≤ _; exact Nat.le_of_eq rfl) (hb hby at_241) (fun T330 h332 v333 Y331 q334 => ?_)
         obtain ⟨rfl, rfl⟩ := q334
         show own_Ends _ _ _ _ (T330.setTop (mkF m 244 #[.val (.int x0), .val (.int x1), .val (.int x2), .val (.int x3), .val (.int x4), .val (.int n_), .val (.ref b138), .val (.ref b166), .val (.int (own_b (own_A1 y0.toInt))), .val (.int v2), .val (.int v3), .unset, .unset] [(.int (own_b (own_A4 y0.toInt y1.toInt y2.toInt y3.toInt)))]))
         by_cases c244_335 : (own_b (own_A4 y0.toInt y1.toInt y2.toInt y3.toInt)) = (0 : Int32)
         ·
          refine own_st (fun t_ => XS.ifYes (own_here Y331) hx rfl (pc0 := 244) (pc' := 251) rfl (hb hby at_244) rfl (XT.i0_eq_t c244_335) (by decide) (by decide)) ?_
          show own_Ends _ _ _ _ (T330.setTop (mkF m 251 #[.val (.int x0), .val (.int x1), .val (.int x2), .val (.int x3), .val (.int x4), .val (.int n_), .val (.ref b138), .val (.ref b166), .val (.int (own_b (own_A1 y0.toInt))), .val (.int v2), .val (.int v3), .unset, .unset] []))
          refine own_st (fun t_ => XS.iconst (own_here Y331) hx rfl (hb hby at_251) ) ?_
          show own_Ends _ _ _ _ (T330.setTop (mkF m 252 #[.val (.int x0), .val (.int x1), .val (.int x2), .val (.int x3), .val (.int x4), .val (.int n_), .val (.ref b138), .val (.ref b166), .val (.int (own_b (own_A1 y0.toInt))), .val (.int v2), .val (.int v3), .unset, .unset] [(.int (0 : Int32))]))
          exact hJ223 T330   ((0 : Int32)) Y331  (by simp only [hv2, hv3, own_b_0, Bool.not_eq_false] at c194_251 c204_302 c209_303 c219_328 c224_329 c244_335; simp [own_b, c194_251, c204_302, c209_303, c219_328, c224_329, c244_335])
         ·
          refine own_st (fun t_ => XS.ifNo (own_here Y331) hx rfl (hb hby at_244) rfl (XT.i0_eq_f c244_335)) ?_
          show own_Ends _ _ _ _ (T330.setTop (mkF m 247 #[.val (.int x0), .val (.int x1), .val (.int x2), .val (.int x3), .val (.int x4), .val (.int n_), .val (.ref b138), .val (.ref b166), .val (.int (own_b (own_A1 y0.toInt))), .val (.int v2), .val (.int v3), .unset, .unset] []))
          refine own_st (fun t_ => XS.iconst (own_here Y331) hx rfl (hb hby at_247) ) ?_
          show own_Ends _ _ _ _ (T330.setTop (mkF m 248 #[.val (.int x0), .val (.int x1), .val (.int x2), .val (.int x3), .val (.int x4), .val (.int n_), .val (.ref b138), .val (.ref b166), .val (.int (own_b (own_A1 y0.toInt))), .val (.int v2), .val (.int v3), .unset, .unset] [(.int (1 : Int32))]))
          refine own_st (fun t_ => XS.goto (own_here Y331) hx rfl (pc0 := 248) (pc' := 252) rfl (hb hby at_248) (by decide) (by decide)) ?_
          show own_Ends _ _ _ _ (T330.setTop (mkF m 252 #[.val (.int x0), .val (.int x1), .val (.int x2), .val (.int x3), .val (.int x4), .val (.int n_), .val (.ref b138), .val (.ref b166), .val (.int (own_b (own_A1 y0.toInt))), .val (.int v2), .val (.int v3), .unset, .unset] [(.int (1 : Int32))]))
          exact hJ223 T330   ((1 : Int32)) Y331  (by simp only [hv2, hv3, own_b_0, Bool.not_eq_false] at c194_251 c204_302 c209_303 c219_328 c224_329 c244_335; simp [own_b, c194_251, c204_302, c209_303, c219_328, c224_329, c244_335])
        ·
         refine own_st (fun t_ => XS.ifNo (own_here Y324) hx rfl (hb hby at_224) rfl (XT.i0_eq_f c224_329)) ?_
         show own_Ends _ _ _ _ (T323.setTop (mkF m 227 #[.val (.int x0), .val (.int x1), .val (.int x2), .val (.int x3), .val (.int x4), .val (.int n_), .val (.ref b138), .val (.ref b166), .val (.int (own_b (own_A1 y0.toInt))), .val (.int v2), .val (.int v3), .unset, .unset] []))
         refine own_st (fun t_ => XS.aload (own_here Y324) hx rfl (hb hby at_227) rfl rfl) ?_
         show own_Ends _ _ _ _ (T323.setTop (mkF m 229 #[.val (.int x0), .val (.int x1), .val (.int x2), .val (.int x3), .val (.int x4), .val (.int n_), .val (.ref b138), .val (.ref b166), .val (.int (own_b (own_A1 y0.toInt))), .val (.int v2), .val (.int v3), .unset, .unset] [(.ref b138)]))
         refine own_st (fun t_ => XS.iconst (own_here Y324) hx rfl (hb hby at_229) ) ?_
         show own_Ends _ _ _ _ (T323.setTop (mkF m 230 #[.val (.int x0), .val (.int x1), .val (.int x2), .val (.int x3), .val (.int x4), .val (.int n_), .val (.ref b138), .val (.ref b166), .val (.int (own_b (own_A1 y0.toInt))), .val (.int v2), .val (.int v3), .unset, .unset] [(.int (1 : Int32)), (.ref b138)]))
         refine own_st (fun t_ => XS.iconst (own_here Y324) hx rfl (hb hby at_230) ) ?_
         show own_Ends _ _ _ _ (T323.setTop (mkF m 231 #[.val (.int x0), .val (.int x1), .val (.int x2), .val (.int x3), .val (.int x4), .val (.int n_), .val (.ref b138), .val (.ref b166), .val (.int (own_b (own_A1 y0.toInt))), .val (.int v2), .val (.int v3), .unset, .unset] [(.int (3 : Int32)), (.int (1 : Int32)), (.ref b138)]))
         refine own_callS Y324 hx hZ (y := (⟨"kombos/graph/Utf8IsValidPinLaw", "ok", "([III)Z"⟩ : MethodName)) hown (hw _ (List.mem_of_getElem? (i := 3) rfl)) (hw _ (List.mem_of_getElem? (i := 4) rfl)) (hw _ (List.mem_of_getElem? (i := 5) rfl)) (hw _ (List.mem_of_getElem? (i := 6) rfl)) (by decide) (argsL := [(.ref b138), (.int (1 : Int32)), (.int (3 : Int32))]) (rest := []) (own_rm1_1_3 l Z a0 hw [] b138 y0 y1 y2 y3 h207 n0  f211 gy0 gy1 gy2 gy3) (W := 0) (by decide) (by decide) (by decide) (by decide) rfl (by rw [hml]; rfl) (lenOf own_pd1 rfl) rfl (by show 2 * 0 + _ ≤ _; exact Nat.le_of_eq rfl) (hb hby at_231) (fun T336 h338 v339 Y337 q340 => ?_)
         obtain ⟨rfl, rfl⟩ := q340
         show own_Ends _ _ _ _ (T336.setTop (mkF m 234 #[.val (.int x0), .val (.int x1), .val (.int x2), .val (.int x3), .val (.int x4), .val (.int n_), .val (.ref b138), .val (.ref b166), .val (.int (own_b (own_A1 y0.toInt))), .val (.int v2), .val (.int v3), .unset, .unset] [(.int (own_b (own_A3 y1.toInt y2.toInt y3.toInt)))]))
         by_cases c234_341 : (own_b (own_A3 y1.toInt y2.toInt y3.toInt)) = (0 : Int32)
         ·
          refine own_st (fun t_ => XS.ifNo (own_here Y337) hx rfl (hb hby at_234) rfl (XT.i0_ne_f c234_341)) ?_
          show own_Ends _ _ _ _ (T336.setTop (mkF m 237 #[.val (.int x0), .val (.int x1), .val (.int x2), .val (.int x3), .val (.int x4), .val (.int n_), .val (.ref b138), .val (.ref b166), .val (.int (own_b (own_A1 y0.toInt))), .val (.int v2), .val (.int v3), .unset, .unset] []))
          refine own_st (fun t_ => XS.aload (own_here Y337) hx rfl (hb hby at_237) rfl rfl) ?_
          show own_Ends _ _ _ _ (T336.setTop (mkF m 239 #[.val (.int x0), .val (.int x1), .val (.int x2), .val (.int x3), .val (.int x4), .val (.int n_), .val (.ref b138), .val (.ref b166), .val (.int (own_b (own_A1 y0.toInt))), .val (.int v2), .val (.int v3), .unset, .unset] [(.ref b138)]))
          refine own_st (fun t_ => XS.iconst (own_here Y337) hx rfl (hb hby at_239) ) ?_
          show own_Ends _ _ _ _ (T336.setTop (mkF m 240 #[.val (.int x0), .val (.int x1), .val (.int x2), .val (.int x3), .val (.int x4), .val (.int n_), .val (.ref b138), .val (.ref b166), .val (.int (own_b (own_A1 y0.toInt))), .val (.int v2), .val (.int v3), .unset, .unset] [(.int (0 : Int32)), (.ref b138)]))
          refine own_st (fun t_ => XS.iconst (own_here Y337) hx rfl (hb hby at_240) ) ?_
          show own_Ends _ _ _ _ (T336.setTop (mkF m 241 #[.val (.int x0), .val (.int x1), .val (.int x2), .val (.int x3), .val (.int x4), .val (.int n_), .val (.ref b138), .val (.ref b166), .val (.int (own_b (own_A1 y0.toInt))), .val (.int v2), .val (.int v3), .unset, .unset] [(.int (4 : Int32)), (.int (0 : Int32)), (.ref b138)]))
          refine own_callS Y337 hx hZ (y := (⟨"kombos/graph/Utf8IsValidPinLaw", "ok", "([III)Z"⟩ : MethodName)) hown (hw _ (List.mem_of_getElem? (i := 3) rfl)) (hw _ (List.mem_of_getElem? (i := 4) rfl)) (hw _ (List.mem_of_getElem? (i := 5) rfl)) (hw _ (List.mem_of_getElem? (i := 6) rfl)) (by decide) (argsL := [(.ref b138), (.int (0 : Int32)), (.int (4 : Int32))]) (rest := []) (own_rm1_0_4 l Z a0 hw [] b138 y0 y1 y2 y3 h207 n0  f211 gy0 gy1 gy2 gy3) (W := 0) (by decide) (by decide) (by decide) (by decide) rfl (by rw [hml]; rfl) (lenOf own_pd1 rfl) rfl (by show 2 * 0 + _ ≤ _; exact Nat.le_of_eq rfl) (hb hby at_241) (fun T342 h344 v345 Y343 q346 => ?_)
          obtain ⟨rfl, rfl⟩ := q346
          show own_Ends _ _ _ _ (T342.setTop (mkF m 244 #[.val (.int x0), .val (.int x1), .val (.int x2), .val (.int x3), .val (.int x4), .val (.int n_), .val (.ref b138), .val (.ref b166), .val (.int (own_b (own_A1 y0.toInt))), .val (.int v2), .val (.int v3), .unset, .unset] [(.int (own_b (own_A4 y0.toInt y1.toInt y2.toInt y3.toInt)))]))
          by_cases c244_347 : (own_b (own_A4 y0.toInt y1.toInt y2.toInt y3.toInt)) = (0 : Int32)
          ·
           refine own_st (fun t_ => XS.ifYes (own_here Y343) hx rfl (pc0 := 244) (pc' := 251) rfl (hb hby at_244) rfl (XT.i0_eq_t c244_347) (by decide) (by decide)) ?_
           show own_Ends _ _ _ _ (T342.setTop (mkF m 251 #[.val (.int x0), .val (.int x1), .val (.int x2), .val (.int x3), .val (.int x4), .val (.int n_), .val (.ref b138), .val (.ref b166), .val (.int (own_b (own_A1 y0.toInt))), .val (.int v2), .val (.int v3), .unset, .unset] []))
           refine own_st (fun t_ => XS.iconst (own_here Y343) hx rfl (hb hby at_251) ) ?_
           show own_Ends _ _ _ _ (T342.setTop (mkF m 252 #[.val (.int x0), .val (.int x1), .val (.int x2), .val (.int x3), .val (.int x4), .val (.int n_), .val (.ref b138), .val (.ref b166), .val (.int (own_b (own_A1 y0.toInt))), .val (.int v2), .val (.int v3), .unset, .unset] [(.int (0 : Int32))]))
           exact hJ223 T342   ((0 : Int32)) Y343  (by simp only [hv2, hv3, own_b_0, Bool.not_eq_false] at c194_251 c204_302 c209_303 c219_328 c224_329 c234_341 c244_347; simp [own_b, c194_251, c204_302, c209_303, c219_328, c224_329, c234_341, c244_347])
          ·
           refine own_st (fun t_ => XS.ifNo (own_here Y343) hx rfl (hb hby at_244) rfl (XT.i0_eq_f c244_347)) ?_
           show own_Ends _ _ _ _ (T342.setTop (mkF m 247 #[.val (.int x0), .val (.int x1), .val (.int x2), .val (.int x3), .val (.int x4), .val (.int n_), .val (.ref b138), .val (.ref b166), .val (.int (own_b (own_A1 y0.toInt))), .val (.int v2), .val (.int v3), .unset, .unset] []))
           refine own_st (fun t_ => XS.iconst (own_here Y343) hx rfl (hb hby at_247) ) ?_
           show own_Ends _ _ _ _ (T342.setTop (mkF m 248 #[.val (.int x0), .val (.int x1), .val (.int x2), .val (.int x3), .val (.int x4), .val (.int n_), .val (.ref b138), .val (.ref b166), .val (.int (own_b (own_A1 y0.toInt))), .val (.int v2), .val (.int v3), .unset, .unset] [(.int (1 : Int32))]))
           refine own_st (fun t_ => XS.goto (own_here Y343) hx rfl (pc0 := 248) (pc' := 252) rfl (hb hby at_248) (by decide) (by decide)) ?_
           show own_Ends _ _ _ _ (T342.setTop (mkF m 252 #[.val (.int x0), .val (.int x1), .val (.int x2), .val (.int x3), .val (.int x4), .val (.int n_), .val (.ref b138), .val (.ref b166), .val (.int (own_b (own_A1 y0.toInt))), .val (.int v2), .val (.int v3), .unset, .unset] [(.int (1 : Int32))]))
           exact hJ223 T342   ((1 : Int32)) Y343  (by simp only [hv2, hv3, own_b_0, Bool.not_eq_false] at c194_251 c204_302 c209_303 c219_328 c224_329 c234_341 c244_347; simp [own_b, c194_251, c204_302, c209_303, c219_328, c224_329, c234_341, c244_347])
         ·
          refine own_st (fun t_ => XS.ifYes (own_here Y337) hx rfl (pc0 := 234) (pc' := 247) rfl (hb hby at_234) rfl (XT.i0_ne_t c234_341) (by decide) (by decide)) ?_
          show own_Ends _ _ _ _ (T336.setTop (mkF m 247 #[.val (.int x0), .val (.int x1), .val (.int x2), .val (.int x3), .val (.int x4), .val (.int n_), .val (.ref b138), .val (.ref b166), .val (.int (own_b (own_A1 y0.toInt))), .val (.int v2), .val (.int v3), .unset, .unset] []))
          refine own_st (fun t_ => XS.iconst (own_here Y337) hx rfl (hb hby at_247) ) ?_
          show own_Ends _ _ _ _ (T336.setTop (mkF m 248 #[.val (.int x0), .val (.int x1), .val (.int x2), .val (.int x3), .val (.int x4), .val (.int n_), .val (.ref b138), .val (.ref b166), .val (.int (own_b (own_A1 y0.toInt))), .val (.int v2), .val (.int v3), .unset, .unset] [(.int (1 : Int32))]))
          refine own_st (fun t_ => XS.goto (own_here Y337) hx rfl (pc0 := 248) (pc' := 252) rfl (hb hby at_248) (by decide) (by decide)) ?_
          show own_Ends _ _ _ _ (T336.setTop (mkF m 252 #[.val (.int x0), .val (.int x1), .val (.int x2), .val (.int x3), .val (.int x4), .val (.int n_), .val (.ref b138), .val (.ref b166), .val (.int (own_b (own_A1 y0.toInt))), .val (.int v2), .val (.int v3), .unset, .unset] [(.int (1 : Int32))]))
          exact hJ223 T336   ((1 : Int32)) Y337  (by simp only [hv2, hv3, own_b_0, Bool.not_eq_false] at c194_251 c204_302 c209_303 c219_328 c224_329 c234_341; simp [own_b, c194_251, c204_302, c209_303, c219_328, c224_329, c234_341])
       ·
        refine own_st (fun t_ => XS.ifYes (own_here Y324) hx rfl (pc0 := 219) (pc' := 247) rfl (hb hby at_219) rfl (XT.i0_ne_t c219_328) (by decide) (by decide)) ?_
        show own_Ends _ _ _ _ (T323.setTop (mkF m 247 #[.val (.int x0), .val (.int x1), .val (.int x2), .val (.int x3), .val (.int x4), .val (.int n_), .val (.ref b138), .val (.ref b166), .val (.int (own_b (own_A1 y0.toInt))), .val (.int v2), .val (.int v3), .unset, .unset] []))
        refine own_st (fun t_ => XS.iconst (own_here Y324) hx rfl (hb hby at_247) ) ?_
        show own_Ends _ _ _ _ (T323.setTop (mkF m 248 #[.val (.int x0), .val (.int x1), .val (.int x2), .val (.int x3), .val (.int x4), .val (.int n_), .val (.ref b138), .val (.ref b166), .val (.int (own_b (own_A1 y0.toInt))), .val (.int v2), .val (.int v3), .unset, .unset] [(.int (1 : Int32))]))
        refine own_st (fun t_ => XS.goto (own_here Y324) hx rfl (pc0 := 248) (pc' := 252) rfl (hb hby at_248) (by decide) (by decide)) ?_
        show own_Ends _ _ _ _ (T323.setTop (mkF m 252 #[.val (.int x0), .val (.int x1), .val (.int x2), .val (.int x3), .val (.int x4), .val (.int n_), .val (.ref b138), .val (.ref b166), .val (.int (own_b (own_A1 y0.toInt))), .val (.int v2), .val (.int v3), .unset, .unset] [(.int (1 : Int32))]))
        exact hJ223 T323   ((1 : Int32)) Y324  (by simp only [hv2, hv3, own_b_0, Bool.not_eq_false] at c194_251 c204_302 c209_303 c219_328; simp [own_b, c194_251, c204_302, c209_303, c219_328])
     ·
      refine own_st (fun t_ => XS.ifYes (own_here Y298) hx rfl (pc0 := 204) (pc' := 247) rfl (hb hby at_204) rfl (XT.i0_ne_t c204_302) (by decide) (by decide)) ?_
      show own_Ends _ _ _ _ (T297.setTop (mkF m 247 #[.val (.int x0), .val (.int x1), .val (.int x2), .val (.int x3), .val (.int x4), .val (.int n_), .val (.ref b138), .val (.ref b166), .val (.int (own_b (own_A1 y0.toInt))), .val (.int v2), .val (.int v3), .unset, .unset] []))
      refine own_st (fun t_ => XS.iconst (own_here Y298) hx rfl (hb hby at_247) ) ?_
      show own_Ends _ _ _ _ (T297.setTop (mkF m 248 #[.val (.int x0), .val (.int x1), .val (.int x2), .val (.int x3), .val (.int x4), .val (.int n_), .val (.ref b138), .val (.ref b166), .val (.int (own_b (own_A1 y0.toInt))), .val (.int v2), .val (.int v3), .unset, .unset] [(.int (1 : Int32))]))
      refine own_st (fun t_ => XS.goto (own_here Y298) hx rfl (pc0 := 248) (pc' := 252) rfl (hb hby at_248) (by decide) (by decide)) ?_
      show own_Ends _ _ _ _ (T297.setTop (mkF m 252 #[.val (.int x0), .val (.int x1), .val (.int x2), .val (.int x3), .val (.int x4), .val (.int n_), .val (.ref b138), .val (.ref b166), .val (.int (own_b (own_A1 y0.toInt))), .val (.int v2), .val (.int v3), .unset, .unset] [(.int (1 : Int32))]))
      exact hJ223 T297   ((1 : Int32)) Y298  (by simp only [hv2, hv3, own_b_0, Bool.not_eq_false] at c194_251 c204_302; simp [own_b, c194_251, c204_302])
   by_cases c147_348 : v2 = (0 : Int32)
   ·
    refine own_st (fun t_ => XS.ifYes (own_here Y219) hx rfl (pc0 := 147) (pc' := 160) rfl (hb hby at_147) rfl (XT.i0_eq_t c147_348) (by decide) (by decide)) ?_
    show own_Ends _ _ _ _ (T218.setTop (mkF m 160 #[.val (.int x0), .val (.int x1), .val (.int x2), .val (.int x3), .val (.int x4), .val (.int n_), .val (.ref b138), .val (.ref b166), .val (.int (own_b (own_A1 y0.toInt))), .val (.int v2), .unset, .unset, .unset] []))
    refine own_st (fun t_ => XS.iload (own_here Y219) hx rfl (hb hby at_160) rfl) ?_
    show own_Ends _ _ _ _ (T218.setTop (mkF m 162 #[.val (.int x0), .val (.int x1), .val (.int x2), .val (.int x3), .val (.int x4), .val (.int n_), .val (.ref b138), .val (.ref b166), .val (.int (own_b (own_A1 y0.toInt))), .val (.int v2), .unset, .unset, .unset] [(.int (own_b (own_A1 y0.toInt)))]))
    by_cases c162_349 : (own_b (own_A1 y0.toInt)) = (0 : Int32)
    ·
     refine own_st (fun t_ => XS.ifYes (own_here Y219) hx rfl (pc0 := 162) (pc' := 175) rfl (hb hby at_162) rfl (XT.i0_eq_t c162_349) (by decide) (by decide)) ?_
     show own_Ends _ _ _ _ (T218.setTop (mkF m 175 #[.val (.int x0), .val (.int x1), .val (.int x2), .val (.int x3), .val (.int x4), .val (.int n_), .val (.ref b138), .val (.ref b166), .val (.int (own_b (own_A1 y0.toInt))), .val (.int v2), .unset, .unset, .unset] []))
     refine own_st (fun t_ => XS.aload (own_here Y219) hx rfl (hb hby at_175) rfl rfl) ?_
     show own_Ends _ _ _ _ (T218.setTop (mkF m 177 #[.val (.int x0), .val (.int x1), .val (.int x2), .val (.int x3), .val (.int x4), .val (.int n_), .val (.ref b138), .val (.ref b166), .val (.int (own_b (own_A1 y0.toInt))), .val (.int v2), .unset, .unset, .unset] [(.ref b138)]))
     refine own_st (fun t_ => XS.iconst (own_here Y219) hx rfl (hb hby at_177) ) ?_
     show own_Ends _ _ _ _ (T218.setTop (mkF m 178 #[.val (.int x0), .val (.int x1), .val (.int x2), .val (.int x3), .val (.int x4), .val (.int n_), .val (.ref b138), .val (.ref b166), .val (.int (own_b (own_A1 y0.toInt))), .val (.int v2), .unset, .unset, .unset] [(.int (0 : Int32)), (.ref b138)]))
     refine own_st (fun t_ => XS.iconst (own_here Y219) hx rfl (hb hby at_178) ) ?_
     show own_Ends _ _ _ _ (T218.setTop (mkF m 179 #[.val (.int x0), .val (.int x1), .val (.int x2), .val (.int x3), .val (.int x4), .val (.int n_), .val (.ref b138), .val (.ref b166), .val (.int (own_b (own_A1 y0.toInt))), .val (.int v2), .unset, .unset, .unset] [(.int (3 : Int32)), (.int (0 : Int32)), (.ref b138)]))
     refine own_callS Y219 hx hZ (y := (⟨"kombos/graph/Utf8IsValidPinLaw", "ok", "([III)Z"⟩ : MethodName)) hown (hw _ (List.mem_of_getElem? (i := 3) rfl)) (hw _ (List.mem_of_getElem? (i := 4) rfl)) (hw _ (List.mem_of_getElem? (i := 5) rfl)) (hw _ (List.mem_of_getElem? (i := 6) rfl)) (by decide) (argsL := [(.ref b138), (.int (0 : Int32)), (.int (3 : Int32))]) (rest := []) (own_rm1_0_3 l Z a0 hw [] b138 y0 y1 y2 y3 h207 n0  f211 gy0 gy1 gy2 gy3) (W := 0) (by decide) (by decide) (by decide) (by decide) rfl (by rw [hml]; rfl) (lenOf own_pd1 rfl) rfl (by show 2 * 0 + _ ≤ _; exact Nat.le_of_eq rfl) (hb hby at_179) (fun T350 h352 v353 Y351 q354 => ?_)
     obtain ⟨rfl, rfl⟩ := q354
     show own_Ends _ _ _ _ (T350.setTop (mkF m 182 #[.val (.int x0), .val (.int x1), .val (.int x2), .val (.int x3), .val (.int x4), .val (.int n_), .val (.ref b138), .val (.ref b166), .val (.int (own_b (own_A1 y0.toInt))), .val (.int v2), .unset, .unset, .unset] [(.int (own_b (own_A3 y0.toInt y1.toInt y2.toInt)))]))
     by_cases c182_355 : (own_b (own_A3 y0.toInt y1.toInt y2.toInt)) = (0 : Int32)
     ·
      refine own_st (fun t_ => XS.ifYes (own_here Y351) hx rfl (pc0 := 182) (pc' := 189) rfl (hb hby at_182) rfl (XT.i0_eq_t c182_355) (by decide) (by decide)) ?_
      show own_Ends _ _ _ _ (T350.setTop (mkF m 189 #[.val (.int x0), .val (.int x1), .val (.int x2), .val (.int x3), .val (.int x4), .val (.int n_), .val (.ref b138), .val (.ref b166), .val (.int (own_b (own_A1 y0.toInt))), .val (.int v2), .unset, .unset, .unset] []))
      refine own_st (fun t_ => XS.iconst (own_here Y351) hx rfl (hb hby at_189) ) ?_
      show own_Ends _ _ _ _ (T350.setTop (mkF m 190 #[.val (.int x0), .val (.int x1), .val (.int x2), .val (.int x3), .val (.int x4), .val (.int n_), .val (.ref b138), .val (.ref b166), .val (.int (own_b (own_A1 y0.toInt))), .val (.int v2), .unset, .unset, .unset] [(.int (0 : Int32))]))
      exact hJ220 T350   ((0 : Int32)) Y351  (by simp only [hv2, own_b_0, Bool.not_eq_false] at c147_348 c162_349 c182_355; simp [own_b, c147_348, c162_349, c182_355])
     ·
      refine own_st (fun t_ => XS.ifNo (own_here Y351) hx rfl (hb hby at_182) rfl (XT.i0_eq_f c182_355)) ?_
      show own_Ends _ _ _ _ (T350.setTop (mkF m 185 #[.val (.int x0), .val (.int x1), .val (.int x2), .val (.int x3), .val (.int x4), .val (.int n_), .val (.ref b138), .val (.ref b166), .val (.int (own_b (own_A1 y0.toInt))), .val (.int v2), .unset, .unset, .unset] []))
      refine own_st (fun t_ => XS.iconst (own_here Y351) hx rfl (hb hby at_185) ) ?_
      show own_Ends _ _ _ _ (T350.setTop (mkF m 186 #[.val (.int x0), .val (.int x1), .val (.int x2), .val (.int x3), .val (.int x4), .val (.int n_), .val (.ref b138), .val (.ref b166), .val (.int (own_b (own_A1 y0.toInt))), .val (.int v2), .unset, .unset, .unset] [(.int (1 : Int32))]))
      refine own_st (fun t_ => XS.goto (own_here Y351) hx rfl (pc0 := 186) (pc' := 190) rfl (hb hby at_186) (by decide) (by decide)) ?_
      show own_Ends _ _ _ _ (T350.setTop (mkF m 190 #[.val (.int x0), .val (.int x1), .val (.int x2), .val (.int x3), .val (.int x4), .val (.int n_), .val (.ref b138), .val (.ref b166), .val (.int (own_b (own_A1 y0.toInt))), .val (.int v2), .unset, .unset, .unset] [(.int (1 : Int32))]))
      exact hJ220 T350   ((1 : Int32)) Y351  (by simp only [hv2, own_b_0, Bool.not_eq_false] at c147_348 c162_349 c182_355; simp [own_b, c147_348, c162_349, c182_355])
    ·
     refine own_st (fun t_ => XS.ifNo (own_here Y219) hx rfl (hb hby at_162) rfl (XT.i0_eq_f c162_349)) ?_
     show own_Ends _ _ _ _ (T218.setTop (mkF m 165 #[.val (.int x0), .val (.int x1), .val (.int x2), .val (.int x3), .val (.int x4), .val (.int n_), .val (.ref b138), .val (.ref b166), .val (.int (own_b (own_A1 y0.toInt))), .val (.int v2), .unset, .unset, .unset] []))
     refine own_st (fun t_ => XS.aload (own_here Y219) hx rfl (hb hby at_165) rfl rfl) ?_
     show own_Ends _ _ _ _ (T218.setTop (mkF m 167 #[.val (.int x0), .val (.int x1), .val (.int x2), .val (.int x3), .val (.int x4), .val (.int n_), .val (.ref b138), .val (.ref b166), .val (.int (own_b (own_A1 y0.toInt))), .val (.int v2), .unset, .unset, .unset] [(.ref b138)]))
     refine own_st (fun t_ => XS.iconst (own_here Y219) hx rfl (hb hby at_167) ) ?_
     show own_Ends _ _ _ _ (T218.setTop (mkF m 168 #[.val (.int x0), .val (.int x1), .val (.int x2), .val (.int x3), .val (.int x4), .val (.int n_), .val (.ref b138), .val (.ref b166), .val (.int (own_b (own_A1 y0.toInt))), .val (.int v2), .unset, .unset, .unset] [(.int (1 : Int32)), (.ref b138)]))
     refine own_st (fun t_ => XS.iconst (own_here Y219) hx rfl (hb hby at_168) ) ?_
     show own_Ends _ _ _ _ (T218.setTop (mkF m 169 #[.val (.int x0), .val (.int x1), .val (.int x2), .val (.int x3), .val (.int x4), .val (.int n_), .val (.ref b138), .val (.ref b166), .val (.int (own_b (own_A1 y0.toInt))), .val (.int v2), .unset, .unset, .unset] [(.int (2 : Int32)), (.int (1 : Int32)), (.ref b138)]))
     refine own_callS Y219 hx hZ (y := (⟨"kombos/graph/Utf8IsValidPinLaw", "ok", "([III)Z"⟩ : MethodName)) hown (hw _ (List.mem_of_getElem? (i := 3) rfl)) (hw _ (List.mem_of_getElem? (i := 4) rfl)) (hw _ (List.mem_of_getElem? (i := 5) rfl)) (hw _ (List.mem_of_getElem? (i := 6) rfl)) (by decide) (argsL := [(.ref b138), (.int (1 : Int32)), (.int (2 : Int32))]) (rest := []) (own_rm1_1_2 l Z a0 hw [] b138 y0 y1 y2 y3 h207 n0  f211 gy0 gy1 gy2 gy3) (W := 0) (by decide) (by decide) (by decide) (by decide) rfl (by rw [hml]; rfl) (lenOf own_pd1 rfl) rfl (by show 2 * 0 + _ ≤ _; exact Nat.le_of_eq rfl) (hb hby at_169) (fun T356 h358 v359 Y357 q360 => ?_)
     obtain ⟨rfl, rfl⟩ := q360
     show own_Ends _ _ _ _ (T356.setTop (mkF m 172 #[.val (.int x0), .val (.int x1), .val (.int x2), .val (.int x3), .val (.int x4), .val (.int n_), .val (.ref b138), .val (.ref b166), .val (.int (own_b (own_A1 y0.toInt))), .val (.int v2), .unset, .unset, .unset] [(.int (own_b (own_A2 y1.toInt y2.toInt)))]))
     by_cases c172_361 : (own_b (own_A2 y1.toInt y2.toInt)) = (0 : Int32)
     ·
      refine own_st (fun t_ => XS.ifNo (own_here Y357) hx rfl (hb hby at_172) rfl (XT.i0_ne_f c172_361)) ?_
      show own_Ends _ _ _ _ (T356.setTop (mkF m 175 #[.val (.int x0), .val (.int x1), .val (.int x2), .val (.int x3), .val (.int x4), .val (.int n_), .val (.ref b138), .val (.ref b166), .val (.int (own_b (own_A1 y0.toInt))), .val (.int v2), .unset, .unset, .unset] []))
      refine own_st (fun t_ => XS.aload (own_here Y357) hx rfl (hb hby at_175) rfl rfl) ?_
      show own_Ends _ _ _ _ (T356.setTop (mkF m 177 #[.val (.int x0), .val (.int x1), .val (.int x2), .val (.int x3), .val (.int x4), .val (.int n_), .val (.ref b138), .val (.ref b166), .val (.int (own_b (own_A1 y0.toInt))), .val (.int v2), .unset, .unset, .unset] [(.ref b138)]))
      refine own_st (fun t_ => XS.iconst (own_here Y357) hx rfl (hb hby at_177) ) ?_
      show own_Ends _ _ _ _ (T356.setTop (mkF m 178 #[.val (.int x0), .val (.int x1), .val (.int x2), .val (.int x3), .val (.int x4), .val (.int n_), .val (.ref b138), .val (.ref b166), .val (.int (own_b (own_A1 y0.toInt))), .val (.int v2), .unset, .unset, .unset] [(.int (0 : Int32)), (.ref b138)]))
      refine own_st (fun t_ => XS.iconst (own_here Y357) hx rfl (hb hby at_178) ) ?_
      show own_Ends _ _ _ _ (T356.setTop (mkF m 179 #[.val (.int x0), .val (.int x1), .val (.int x2), .val (.int x3), .val (.int x4), .val (.int n_), .val (.ref b138), .val (.ref b166), .val (.int (own_b (own_A1 y0.toInt))), .val (.int v2), .unset, .unset, .unset] [(.int (3 : Int32)), (.int (0 : Int32)), (.ref b138)]))
      refine own_callS Y357 hx hZ (y := (⟨"kombos/graph/Utf8IsValidPinLaw", "ok", "([III)Z"⟩ : MethodName)) hown (hw _ (List.mem_of_getElem? (i := 3) rfl)) (hw _ (List.mem_of_getElem? (i := 4) rfl)) (hw _ (List.mem_of_getElem? (i := 5) rfl)) (hw _ (List.mem_of_getElem? (i := 6) rfl)) (by decide) (argsL := [(.ref b138), (.int (0 : Int32)), (.int (3 : Int32))]) (rest := []) (own_rm1_0_3 l Z a0 hw [] b138 y0 y1 y2 y3 h207 n0  f211 gy0 gy1 gy2 gy3) (W := 0) (by decide) (by decide) (by decide) (by decide) rfl (by rw [hml]; rfl) (lenOf own_pd1 rfl) rfl (by show 2 * 0 + _ ≤ _; exact Nat.le_of_eq rfl) (hb hby at_179) (fun T362 h364 v365 Y363 q366 => ?_)
      obtain ⟨rfl, rfl⟩ := q366
      show own_Ends _ _ _ _ (T362.setTop (mkF m 182 #[.val (.int x0), .val (.int x1), .val (.int x2), .val (.int x3), .val (.int x4), .val (.int n_), .val (.ref b138), .val (.ref b166), .val (.int (own_b (own_A1 y0.toInt))), .val (.int v2), .unset, .unset, .unset] [(.int (own_b (own_A3 y0.toInt y1.toInt y2.toInt)))]))
      by_cases c182_367 : (own_b (own_A3 y0.toInt y1.toInt y2.toInt)) = (0 : Int32)
      ·
       refine own_st (fun t_ => XS.ifYes (own_here Y363) hx rfl (pc0 := 182) (pc' := 189) rfl (hb hby at_182) rfl (XT.i0_eq_t c182_367) (by decide) (by decide)) ?_
       show own_Ends _ _ _ _ (T362.setTop (mkF m 189 #[.val (.int x0), .val (.int x1), .val (.int x2), .val (.int x3), .val (.int x4), .val (.int n_), .val (.ref b138), .val (.ref b166), .val (.int (own_b (own_A1 y0.toInt))), .val (.int v2), .unset, .unset, .unset] []))
       refine own_st (fun t_ => XS.iconst (own_here Y363) hx rfl (hb hby at_189) ) ?_
       show own_Ends _ _ _ _ (T362.setTop (mkF m 190 #[.val (.int x0), .val (.int x1), .val (.int x2), .val (.int x3), .val (.int x4), .val (.int n_), .val (.ref b138), .val (.ref b166), .val (.int (own_b (own_A1 y0.toInt))), .val (.int v2), .unset, .unset, .unset] [(.int (0 : Int32))]))
       exact hJ220 T362   ((0 : Int32)) Y363  (by simp only [hv2, own_b_0, Bool.not_eq_false] at c147_348 c162_349 c172_361 c182_367; simp [own_b, c147_348, c162_349, c172_361, c182_367])
      ·
       refine own_st (fun t_ => XS.ifNo (own_here Y363) hx rfl (hb hby at_182) rfl (XT.i0_eq_f c182_367)) ?_
       show own_Ends _ _ _ _ (T362.setTop (mkF m 185 #[.val (.int x0), .val (.int x1), .val (.int x2), .val (.int x3), .val (.int x4), .val (.int n_), .val (.ref b138), .val (.ref b166), .val (.int (own_b (own_A1 y0.toInt))), .val (.int v2), .unset, .unset, .unset] []))
       refine own_st (fun t_ => XS.iconst (own_here Y363) hx rfl (hb hby at_185) ) ?_
       show own_Ends _ _ _ _ (T362.setTop (mkF m 186 #[.val (.int x0), .val (.int x1), .val (.int x2), .val (.int x3), .val (.int x4), .val (.int n_), .val (.ref b138), .val (.ref b166), .val (.int (own_b (own_A1 y0.toInt))), .val (.int v2), .unset, .unset, .unset] [(.int (1 : Int32))]))
       refine own_st (fun t_ => XS.goto (own_here Y363) hx rfl (pc0 := 186) (pc' := 190) rfl (hb hby at_186) (by decide) (by decide)) ?_
       show own_Ends _ _ _ _ (T362.setTop (mkF m 190 #[.val (.int x0), .val (.int x1), .val (.int x2), .val (.int x3), .val (.int x4), .val (.int n_), .val (.ref b138), .val (.ref b166), .val (.int (own_b (own_A1 y0.toInt))), .val (.int v2), .unset, .unset, .unset] [(.int (1 : Int32))]))
       exact hJ220 T362   ((1 : Int32)) Y363  (by simp only [hv2, own_b_0, Bool.not_eq_false] at c147_348 c162_349 c172_361 c182_367; simp [own_b, c147_348, c162_349, c172_361, c182_367])
     ·
      refine own_st (fun t_ => XS.ifYes (own_here Y357) hx rfl (pc0 := 172) (pc' := 185) rfl (hb hby at_172) rfl (XT.i0_ne_t c172_361) (by decide) (by decide)) ?_
      show own_Ends _ _ _ _ (T356.setTop (mkF m 185 #[.val (.int x0), .val (.int x1), .val (.int x2), .val (.int x3), .val (.int x4), .val (.int n_), .val (.ref b138), .val (.ref b166), .val (.int (own_b (own_A1 y0.toInt))), .val (.int v2), .unset, .unset, .unset] []))
      refine own_st (fun t_ => XS.iconst (own_here Y357) hx rfl (hb hby at_185) ) ?_
      show own_Ends _ _ _ _ (T356.setTop (mkF m 186 #[.val (.int x0), .val (.int x1), .val (.int x2), .val (.int x3), .val (.int x4), .val (.int n_), .val (.ref b138), .val (.ref b166), .val (.int (own_b (own_A1 y0.toInt))), .val (.int v2), .unset, .unset, .unset] [(.int (1 : Int32))]))
      refine own_st (fun t_ => XS.goto (own_here Y357) hx rfl (pc0 := 186) (pc' := 190) rfl (hb hby at_186) (by decide) (by decide)) ?_
      show own_Ends _ _ _ _ (T356.setTop (mkF m 190 #[.val (.int x0), .val (.int x1), .val (.int x2), .val (.int x3), .val (.int x4), .val (.int n_), .val (.ref b138), .val (.ref b166), .val (.int (own_b (own_A1 y0.toInt))), .val (.int v2), .unset, .unset, .unset] [(.int (1 : Int32))]))
      exact hJ220 T356   ((1 : Int32)) Y357  (by simp only [hv2, own_b_0, Bool.not_eq_false] at c147_348 c162_349 c172_361; simp [own_b, c147_348, c162_349, c172_361])
   ·
    refine own_st (fun t_ => XS.ifNo (own_here Y219) hx rfl (hb hby at_147) rfl (XT.i0_eq_f c147_348)) ?_
    show own_Ends _ _ _ _ (T218.setTop (mkF m 150 #[.val (.int x0), .val (.int x1), .val (.int x2), .val (.int x3), .val (.int x4), .val (.int n_), .val (.ref b138), .val (.ref b166), .val (.int (own_b (own_A1 y0.toInt))), .val (.int v2), .unset, .unset, .unset] []))
    refine own_st (fun t_ => XS.aload (own_here Y219) hx rfl (hb hby at_150) rfl rfl) ?_
    show own_Ends _ _ _ _ (T218.setTop (mkF m 152 #[.val (.int x0), .val (.int x1), .val (.int x2), .val (.int x3), .val (.int x4), .val (.int n_), .val (.ref b138), .val (.ref b166), .val (.int (own_b (own_A1 y0.toInt))), .val (.int v2), .unset, .unset, .unset] [(.ref b138)]))
    refine own_st (fun t_ => XS.iconst (own_here Y219) hx rfl (hb hby at_152) ) ?_
    show own_Ends _ _ _ _ (T218.setTop (mkF m 153 #[.val (.int x0), .val (.int x1), .val (.int x2), .val (.int x3), .val (.int x4), .val (.int n_), .val (.ref b138), .val (.ref b166), .val (.int (own_b (own_A1 y0.toInt))), .val (.int v2), .unset, .unset, .unset] [(.int (2 : Int32)), (.ref b138)]))
    refine own_st (fun t_ => XS.iconst (own_here Y219) hx rfl (hb hby at_153) ) ?_
    show own_Ends _ _ _ _ (T218.setTop (mkF m 154 #[.val (.int x0), .val (.int x1), .val (.int x2), .val (.int x3), .val (.int x4), .val (.int n_), .val (.ref b138), .val (.ref b166), .val (.int (own_b (own_A1 y0.toInt))), .val (.int v2), .unset, .unset, .unset] [(.int (1 : Int32)), (.int (2 : Int32)), (.ref b138)]))
    refine own_callS Y219 hx hZ (y := (⟨"kombos/graph/Utf8IsValidPinLaw", "ok", "([III)Z"⟩ : MethodName)) hown (hw _ (List.mem_of_getElem? (i := 3) rfl)) (hw _ (List.mem_of_getElem? (i := 4) rfl)) (hw _ (List.mem_of_getElem? (i := 5) rfl)) (hw _ (List.mem_of_getElem? (i := 6) rfl)) (by decide) (argsL := [(.ref b138), (.int (2 : Int32)), (.int (1 : Int32))]) (rest := []) (own_rm1_2_1 l Z a0 hw [] b138 y0 y1 y2 y3 h207 n0  f211 gy0 gy1 gy2 gy3) (W := 0) (by decide) (by decide) (by decide) (by decide) rfl (by rw [hml]; rfl) (lenOf own_pd1 rfl) rfl (by show 2 * 0 + _ ≤ _; exact Nat.le_of_eq rfl) (hb hby at_154) (fun T368 h370 v371 Y369 q372 => ?_)
    obtain ⟨rfl, rfl⟩ := q372
    show own_Ends _ _ _ _ (T368.setTop (mkF m 157 #[.val (.int x0), .val (.int x1), .val (.int x2), .val (.int x3), .val (.int x4), .val (.int n_), .val (.ref b138), .val (.ref b166), .val (.int (own_b (own_A1 y0.toInt))), .val (.int v2), .unset, .unset, .unset] [(.int (own_b (own_A1 y2.toInt)))]))
    by_cases c157_373 : (own_b (own_A1 y2.toInt)) = (0 : Int32)
    ·
     refine own_st (fun t_ => XS.ifNo (own_here Y369) hx rfl (hb hby at_157) rfl (XT.i0_ne_f c157_373)) ?_
     show own_Ends _ _ _ _ (T368.setTop (mkF m 160 #[.val (.int x0), .val (.int x1), .val (.int x2), .val (.int x3), .val (.int x4), .val (.int n_), .val (.ref b138), .val (.ref b166), .val (.int (own_b (own_A1 y0.toInt))), .val (.int v2), .unset, .unset, .unset] []))
     refine own_st (fun t_ => XS.iload (own_here Y369) hx rfl (hb hby at_160) rfl) ?_
     show own_Ends _ _ _ _ (T368.setTop (mkF m 162 #[.val (.int x0), .val (.int x1), .val (.int x2), .val (.int x3), .val (.int x4), .val (.int n_), .val (.ref b138), .val (.ref b166), .val (.int (own_b (own_A1 y0.toInt))), .val (.int v2), .unset, .unset, .unset] [(.int (own_b (own_A1 y0.toInt)))]))
     by_cases c162_374 : (own_b (own_A1 y0.toInt)) = (0 : Int32)
     ·
      refine own_st (fun t_ => XS.ifYes (own_here Y369) hx rfl (pc0 := 162) (pc' := 175) rfl (hb hby at_162) rfl (XT.i0_eq_t c162_374) (by decide) (by decide)) ?_
      show own_Ends _ _ _ _ (T368.setTop (mkF m 175 #[.val (.int x0), .val (.int x1), .val (.int x2), .val (.int x3), .val (.int x4), .val (.int n_), .val (.ref b138), .val (.ref b166), .val (.int (own_b (own_A1 y0.toInt))), .val (.int v2), .unset, .unset, .unset] []))
      refine own_st (fun t_ => XS.aload (own_here Y369) hx rfl (hb hby at_175) rfl rfl) ?_
      show own_Ends _ _ _ _ (T368.setTop (mkF m 177 #[.val (.int x0), .val (.int x1), .val (.int x2), .val (.int x3), .val (.int x4), .val (.int n_), .val (.ref b138), .val (.ref b166), .val (.int (own_b (own_A1 y0.toInt))), .val (.int v2), .unset, .unset, .unset] [(.ref b138)]))
      refine own_st (fun t_ => XS.iconst (own_here Y369) hx rfl (hb hby at_177) ) ?_
      show own_Ends _ _ _ _ (T368.setTop (mkF m 178 #[.val (.int x0), .val (.int x1), .val (.int x2), .val (.int x3), .val (.int x4), .val (.int n_), .val (.ref b138), .val (.ref b166), .val (.int (own_b (own_A1 y0.toInt))), .val (.int v2), .unset, .unset, .unset] [(.int (0 : Int32)), (.ref b138)]))
      refine own_st (fun t_ => XS.iconst (own_here Y369) hx rfl (hb hby at_178) ) ?_
      show own_Ends _ _ _ _ (T368.setTop (mkF m 179 #[.val (.int x0), .val (.int x1), .val (.int x2), .val (.int x3), .val (.int x4), .val (.int n_), .val (.ref b138), .val (.ref b166), .val (.int (own_b (own_A1 y0.toInt))), .val (.int v2), .unset, .unset, .unset] [(.int (3 : Int32)), (.int (0 : Int32)), (.ref b138)]))
      refine own_callS Y369 hx hZ (y := (⟨"kombos/graph/Utf8IsValidPinLaw", "ok", "([III)Z"⟩ : MethodName)) hown (hw _ (List.mem_of_getElem? (i := 3) rfl)) (hw _ (List.mem_of_getElem? (i := 4) rfl)) (hw _ (List.mem_of_getElem? (i := 5) rfl)) (hw _ (List.mem_of_getElem? (i := 6) rfl)) (by decide) (argsL := [(.ref b138), (.int (0 : Int32)), (.int (3 : Int32))]) (rest := []) (own_rm1_0_3 l Z a0 hw [] b138 y0 y1 y2 y3 h207 n0  f211 gy0 gy1 gy2 gy3) (W := 0) (by decide) (by decide) (by decide) (by decide) rfl (by rw [hml]; rfl) (lenOf own_pd1 rfl) rfl (by show 2 * 0 + _ ≤ _; exact Nat.le_of_eq rfl) (hb hby at_179) (fun T375 h377 v378 Y376 q379 => ?_)
      obtain ⟨rfl, rfl⟩ := q379
      show own_Ends _ _ _ _ (T375.setTop (mkF m 182 #[.val (.int x0), .val (.int x1), .val (.int x2), .val (.int x3), .val (.int x4), .val (.int n_), .val (.ref b138), .val (.ref b166), .val (.int (own_b (own_A1 y0.toInt))), .val (.int v2), .unset, .unset, .unset] [(.int (own_b (own_A3 y0.toInt y1.toInt y2.toInt)))]))
      by_cases c182_380 : (own_b (own_A3 y0.toInt y1.toInt y2.toInt)) = (0 : Int32)
      ·
       refine own_st (fun t_ => XS.ifYes (own_here Y376) hx rfl (pc0 := 182) (pc' := 189) rfl (hb hby at_182) rfl (XT.i0_eq_t c182_380) (by decide) (by decide)) ?_
       show own_Ends _ _ _ _ (T375.setTop (mkF m 189 #[.val (.int x0), .val (.int x1), .val (.int x2), .val (.int x3), .val (.int x4), .val (.int n_), .val (.ref b138), .val (.ref b166), .val (.int (own_b (own_A1 y0.toInt))), .val (.int v2), .unset, .unset, .unset] []))
       refine own_st (fun t_ => XS.iconst (own_here Y376) hx rfl (hb hby at_189) ) ?_
       show own_Ends _ _ _ _ (T375.setTop (mkF m 190 #[.val (.int x0), .val (.int x1), .val (.int x2), .val (.int x3), .val (.int x4), .val (.int n_), .val (.ref b138), .val (.ref b166), .val (.int (own_b (own_A1 y0.toInt))), .val (.int v2), .unset, .unset, .unset] [(.int (0 : Int32))]))
       exact hJ220 T375   ((0 : Int32)) Y376  (by simp only [hv2, own_b_0, Bool.not_eq_false] at c147_348 c157_373 c162_374 c182_380; simp [own_b, c147_348, c157_373, c162_374, c182_380])
      ·
       refine own_st (fun t_ => XS.ifNo (own_here Y376) hx rfl (hb hby at_182) rfl (XT.i0_eq_f c182_380)) ?_
       show own_Ends _ _ _ _ (T375.setTop (mkF m 185 #[.val (.int x0), .val (.int x1), .val (.int x2), .val (.int x3), .val (.int x4), .val (.int n_), .val (.ref b138), .val (.ref b166), .val (.int (own_b (own_A1 y0.toInt))), .val (.int v2), .unset, .unset, .unset] []))
       refine own_st (fun t_ => XS.iconst (own_here Y376) hx rfl (hb hby at_185) ) ?_
       show own_Ends _ _ _ _ (T375.setTop (mkF m 186 #[.val (.int x0), .val (.int x1), .val (.int x2), .val (.int x3), .val (.int x4), .val (.int n_), .val (.ref b138), .val (.ref b166), .val (.int (own_b (own_A1 y0.toInt))), .val (.int v2), .unset, .unset, .unset] [(.int (1 : Int32))]))
       refine own_st (fun t_ => XS.goto (own_here Y376) hx rfl (pc0 := 186) (pc' := 190) rfl (hb hby at_186) (by decide) (by decide)) ?_
       show own_Ends _ _ _ _ (T375.setTop (mkF m 190 #[.val (.int x0), .val (.int x1), .val (.int x2), .val (.int x3), .val (.int x4), .val (.int n_), .val (.ref b138), .val (.ref b166), .val (.int (own_b (own_A1 y0.toInt))), .val (.int v2), .unset, .unset, .unset] [(.int (1 : Int32))]))
       exact hJ220 T375   ((1 : Int32)) Y376  (by simp only [hv2, own_b_0, Bool.not_eq_false] at c147_348 c157_373 c162_374 c182_380; simp [own_b, c147_348, c157_373, c162_374, c182_380])
     ·
      refine own_st (fun t_ => XS.ifNo (own_here Y369) hx rfl (hb hby at_162) rfl (XT.i0_eq_f c162_374)) ?_
      show own_Ends _ _ _ _ (T368.setTop (mkF m 165 #[.val (.int x0), .val (.int x1), .val (.int x2), .val (.int x3), .val (.int x4), .val (.int n_), .val (.ref b138), .val (.ref b166), .val (.int (own_b (own_A1 y0.toInt))), .val (.int v2), .unset, .unset, .unset] []))
      refine own_st (fun t_ => XS.aload (own_here Y369) hx rfl (hb hby at_165) rfl rfl) ?_
      show own_Ends _ _ _ _ (T368.setTop (mkF m 167 #[.val (.int x0), .val (.int x1), .val (.int x2), .val (.int x3), .val (.int x4), .val (.int n_), .val (.ref b138), .val (.ref b166), .val (.int (own_b (own_A1 y0.toInt))), .val (.int v2), .unset, .unset, .unset] [(.ref b138)]))
      refine own_st (fun t_ => XS.iconst (own_here Y369) hx rfl (hb hby at_167) ) ?_
      show own_Ends _ _ _ _ (T368.setTop (mkF m 168 #[.val (.int x0), .val (.int x1), .val (.int x2), .val (.int x3), .val (.int x4), .val (.int n_), .val (.ref b138), .val (.ref b166), .val (.int (own_b (own_A1 y0.toInt))), .val (.int v2), .unset, .unset, .unset] [(.int (1 : Int32)), (.ref b138)]))
      refine own_st (fun t_ => XS.iconst (own_here Y369) hx rfl (hb hby at_168) ) ?_
      show own_Ends _ _ _ _ (T368.setTop (mkF m 169 #[.val (.int x0), .val (.int x1), .val (.int x2), .val (.int x3), .val (.int x4), .val (.int n_), .val (.ref b138), .val (.ref b166), .val (.int (own_b (own_A1 y0.toInt))), .val (.int v2), .unset, .unset, .unset] [(.int (2 : Int32)), (.int (1 : Int32)), (.ref b138)]))
      refine own_callS Y369 hx hZ (y := (⟨"kombos/graph/Utf8IsValidPinLaw", "ok", "([III)Z"⟩ : MethodName)) hown (hw _ (List.mem_of_getElem? (i := 3) rfl)) (hw _ (List.mem_of_getElem? (i := 4) rfl)) (hw _ (List.mem_of_getElem? (i := 5) rfl)) (hw _ (List.mem_of_getElem? (i := 6) rfl)) (by decide) (argsL := [(.ref b138), (.int (1 : Int32)), (.int (2 : Int32))]) (rest := []) (own_rm1_1_2 l Z a0 hw [] b138 y0 y1 y2 y3 h207 n0  f211 gy0 gy1 gy2 gy3) (W := 0) (by decide) (by decide) (by decide) (by decide) rfl (by rw [hml]; rfl) (lenOf own_pd1 rfl) rfl (by show 2 * 0 + _ ≤ _; exact Nat.le_of_eq rfl) (hb hby at_169) (fun T381 h383 v384 Y382 q385 => ?_)
      obtain ⟨rfl, rfl⟩ := q385
      show own_Ends _ _ _ _ (T381.setTop (mkF m 172 #[.val (.int x0), .val (.int x1), .val (.int x2), .val (.int x3), .val (.int x4), .val (.int n_), .val (.ref b138), .val (.ref b166), .val (.int (own_b (own_A1 y0.toInt))), .val (.int v2), .unset, .unset, .unset] [(.int (own_b (own_A2 y1.toInt y2.toInt)))]))
      by_cases c172_386 : (own_b (own_A2 y1.toInt y2.toInt)) = (0 : Int32)
      ·
       refine own_st (fun t_ => XS.ifNo (own_here Y382) hx rfl (hb hby at_172) rfl (XT.i0_ne_f c172_386)) ?_
       show own_Ends _ _ _ _ (T381.setTop (mkF m 175 #[.val (.int x0), .val (.int x1), .val (.int x2), .val (.int x3), .val (.int x4), .val (.int n_), .val (.ref b138), .val (.ref b166), .val (.int (own_b (own_A1 y0.toInt))), .val (.int v2), .unset, .unset, .unset] []))
       refine own_st (fun t_ => XS.aload (own_here Y382) hx rfl (hb hby at_175) rfl rfl) ?_
       show own_Ends _ _ _ _ (T381.setTop (mkF m 177 #[.val (.int x0), .val (.int x1), .val (.int x2), .val (.int x3), .val (.int x4), .val (.int n_), .val (.ref b138), .val (.ref b166), .val (.int (own_b (own_A1 y0.toInt))), .val (.int v2), .unset, .unset, .unset] [(.ref b138)]))
       refine own_st (fun t_ => XS.iconst (own_here Y382) hx rfl (hb hby at_177) ) ?_
       show own_Ends _ _ _ _ (T381.setTop (mkF m 178 #[.val (.int x0), .val (.int x1), .val (.int x2), .val (.int x3), .val (.int x4), .val (.int n_), .val (.ref b138), .val (.ref b166), .val (.int (own_b (own_A1 y0.toInt))), .val (.int v2), .unset, .unset, .unset] [(.int (0 : Int32)), (.ref b138)]))
       refine own_st (fun t_ => XS.iconst (own_here Y382) hx rfl (hb hby at_178) ) ?_
       show own_Ends _ _ _ _ (T381.setTop (mkF m 179 #[.val (.int x0), .val (.int x1), .val (.int x2), .val (.int x3), .val (.int x4), .val (.int n_), .val (.ref b138), .val (.ref b166), .val (.int (own_b (own_A1 y0.toInt))), .val (.int v2), .unset, .unset, .unset] [(.int (3 : Int32)), (.int (0 : Int32)), (.ref b138)]))
       refine own_callS Y382 hx hZ (y := (⟨"kombos/graph/Utf8IsValidPinLaw", "ok", "([III)Z"⟩ : MethodName)) hown (hw _ (List.mem_of_getElem? (i := 3) rfl)) (hw _ (List.mem_of_getElem? (i := 4) rfl)) (hw _ (List.mem_of_getElem? (i := 5) rfl)) (hw _ (List.mem_of_getElem? (i := 6) rfl)) (by decide) (argsL := [(.ref b138), (.int (0 : Int32)), (.int (3 : Int32))]) (rest := []) (own_rm1_0_3 l Z a0 hw [] b138 y0 y1 y2 y3 h207 n0  f211 gy0 gy1 gy2 gy3) (W := 0) (by decide) (by decide) (by decide) (by decide) rfl (by rw [hml]; rfl) (lenOf own_pd1 rfl) rfl (by show 2 * 0 + _ ≤ _; exact Nat.le_of_eq rfl) (hb hby at_179) (fun T387 h389 v390 Y388 q391 => ?_)
       obtain ⟨rfl, rfl⟩ := q391
       show own_Ends _ _ _ _ (T387.setTop (mkF m 182 #[.val (.int x0), .val (.int x1), .val (.int x2), .val (.int x3), .val (.int x4), .val (.int n_), .val (.ref b138), .val (.ref b166), .val (.int (own_b (own_A1 y0.toInt))), .val (.int v2), .unset, .unset, .unset] [(.int (own_b (own_A3 y0.toInt y1.toInt y2.toInt)))]))
       by_cases c182_392 : (own_b (own_A3 y0.toInt y1.toInt y2.toInt)) = (0 : Int32)
       ·
        refine own_st (fun t_ => XS.ifYes (own_here Y388) hx rfl (pc0 := 182) (pc' := 189) rfl (hb hby at_182) rfl (XT.i0_eq_t c182_392) (by decide) (by decide)) ?_
        show own_Ends _ _ _ _ (T387.setTop (mkF m 189 #[.val (.int x0), .val (.int x1), .val (.int x2), .val (.int x3), .val (.int x4), .val (.int n_), .val (.ref b138), .val (.ref b166), .val (.int (own_b (own_A1 y0.toInt))), .val (.int v2), .unset, .unset, .unset] []))
        refine own_st (fun t_ => XS.iconst (own_here Y388) hx rfl (hb hby at_189) ) ?_
        show own_Ends _ _ _ _ (T387.setTop (mkF m 190 #[.val (.int x0), .val (.int x1), .val (.int x2), .val (.int x3), .val (.int x4), .val (.int n_), .val (.ref b138), .val (.ref b166), .val (.int (own_b (own_A1 y0.toInt))), .val (.int v2), .unset, .unset, .unset] [(.int (0 : Int32))]))
        exact hJ220 T387   ((0 : Int32)) Y388  (by simp only [hv2, own_b_0, Bool.not_eq_false] at c147_348 c157_373 c162_374 c172_386 c182_392; simp [own_b, c147_348, c157_373, c162_374, c172_386, c182_392])
       ·
        refine own_st (fun t_ => XS.ifNo (own_here Y388) hx rfl (hb hby at_182) rfl (XT.i0_eq_f c182_392)) ?_
        show own_Ends _ _ _ _ (T387.setTop (mkF m 185 #[.val (.int x0), .val (.int x1), .val (.int x2), .val (.int x3), .val (.int x4), .val (.int n_), .val (.ref b138), .val (.ref b166), .val (.int (own_b (own_A1 y0.toInt))), .val (.int v2), .unset, .unset, .unset] []))
        refine own_st (fun t_ => XS.iconst (own_here Y388) hx rfl (hb hby at_185) ) ?_
        show own_Ends _ _ _ _ (T387.setTop (mkF m 186 #[.val (.int x0), .val (.int x1), .val (.int x2), .val (.int x3), .val (.int x4), .val (.int n_), .val (.ref b138), .val (.ref b166), .val (.int (own_b (own_A1 y0.toInt))), .val (.int v2), .unset, .unset, .unset] [(.int (1 : Int32))]))
        refine own_st (fun t_ => XS.goto (own_here Y388) hx rfl (pc0 := 186) (pc' := 190) rfl (hb hby at_186) (by decide) (by decide)) ?_
        show own_Ends _ _ _ _ (T387.setTop (mkF m 190 #[.val (.int x0), .val (.int x1), .val (.int x2), .val (.int x3), .val (.int x4), .val (.int n_), .val (.ref b138), .val (.ref b166), .val (.int (own_b (own_A1 y0.toInt))), .val (.int v2), .unset, .unset, .unset] [(.int (1 : Int32))]))
        exact hJ220 T387   ((1 : Int32)) Y388  (by simp only [hv2, own_b_0, Bool.not_eq_false] at c147_348 c157_373 c162_374 c172_386 c182_392; simp [own_b, c147_348, c157_373, c162_374, c172_386, c182_392])
      ·
       refine own_st (fun t_ => XS.ifYes (own_here Y382) hx rfl (pc0 := 172) (pc' := 185) rfl (hb hby at_172) rfl (XT.i0_ne_t c172_386) (by decide) (by decide)) ?_
       show own_Ends _ _ _ _ (T381.setTop (mkF m 185 #[.val (.int x0), .val (.int x1), .val (.int x2), .val (.int x3), .val (.int x4), .val (.int n_), .val (.ref b138), .val (.ref b166), .val (.int (own_b (own_A1 y0.toInt))), .val (.int v2), .unset, .unset, .unset] []))
       refine own_st (fun t_ => XS.iconst (own_here Y382) hx rfl (hb hby at_185) ) ?_
       show own_Ends _ _ _ _ (T381.setTop (mkF m 186 #[.val (.int x0), .val (.int x1), .val (.int x2), .val (.int x3), .val (.int x4), .val (.int n_), .val (.ref b138), .val (.ref b166), .val (.int (own_b (own_A1 y0.toInt))), .val (.int v2), .unset, .unset, .unset] [(.int (1 : Int32))]))
       refine own_st (fun t_ => XS.goto (own_here Y382) hx rfl (pc0 := 186) (pc' := 190) rfl (hb hby at_186) (by decide) (by decide)) ?_
       show own_Ends _ _ _ _ (T381.setTop (mkF m 190 #[.val (.int x0), .val (.int x1), .val (.int x2), .val (.int x3), .val (.int x4), .val (.int n_), .val (.ref b138), .val (.ref b166), .val (.int (own_b (own_A1 y0.toInt))), .val (.int v2), .unset, .unset, .unset] [(.int (1 : Int32))]))
       exact hJ220 T381   ((1 : Int32)) Y382  (by simp only [hv2, own_b_0, Bool.not_eq_false] at c147_348 c157_373 c162_374 c172_386; simp [own_b, c147_348, c157_373, c162_374, c172_386])
    ·
     refine own_st (fun t_ => XS.ifYes (own_here Y369) hx rfl (pc0 := 157) (pc' := 185) rfl (hb hby at_157) rfl (XT.i0_ne_t c157_373) (by decide) (by decide)) ?_
     show own_Ends _ _ _ _ (T368.setTop (mkF m 185 #[.val (.int x0), .val (.int x1), .val (.int x2), .val (.int x3), .val (.int x4), .val (.int n_), .val (.ref b138), .val (.ref b166), .val (.int (own_b (own_A1 y0.toInt))), .val (.int v2), .unset, .unset, .unset] []))
     refine own_st (fun t_ => XS.iconst (own_here Y369) hx rfl (hb hby at_185) ) ?_
     show own_Ends _ _ _ _ (T368.setTop (mkF m 186 #[.val (.int x0), .val (.int x1), .val (.int x2), .val (.int x3), .val (.int x4), .val (.int n_), .val (.ref b138), .val (.ref b166), .val (.int (own_b (own_A1 y0.toInt))), .val (.int v2), .unset, .unset, .unset] [(.int (1 : Int32))]))
     refine own_st (fun t_ => XS.goto (own_here Y369) hx rfl (pc0 := 186) (pc' := 190) rfl (hb hby at_186) (by decide) (by decide)) ?_
     show own_Ends _ _ _ _ (T368.setTop (mkF m 190 #[.val (.int x0), .val (.int x1), .val (.int x2), .val (.int x3), .val (.int x4), .val (.int n_), .val (.ref b138), .val (.ref b166), .val (.int (own_b (own_A1 y0.toInt))), .val (.int v2), .unset, .unset, .unset] [(.int (1 : Int32))]))
     exact hJ220 T368   ((1 : Int32)) Y369  (by simp only [hv2, own_b_0, Bool.not_eq_false] at c147_348 c157_373; simp [own_b, c147_348, c157_373])
  by_cases c115_393 : (own_b (own_A1 y0.toInt)) = (0 : Int32)
  ·
   refine own_st (fun t_ => XS.ifYes (own_here Y213) hx rfl (pc0 := 115) (pc' := 128) rfl (hb hby at_115) rfl (XT.i0_eq_t c115_393) (by decide) (by decide)) ?_
   show own_Ends _ _ _ _ (T212.setTop (mkF m 128 #[.val (.int x0), .val (.int x1), .val (.int x2), .val (.int x3), .val (.int x4), .val (.int n_), .val (.ref b138), .val (.ref b166), .val (.int (own_b (own_A1 y0.toInt))), .unset, .unset, .unset, .unset] []))
   refine own_st (fun t_ => XS.aload (own_here Y213) hx rfl (hb hby at_128) rfl rfl) ?_
   show own_Ends _ _ _ _ (T212.setTop (mkF m 130 #[.val (.int x0), .val (.int x1), .val (.int x2), .val (.int x3), .val (.int x4), .val (.int n_), .val (.ref b138), .val (.ref b166), .val (.int (own_b (own_A1 y0.toInt))), .unset, .unset, .unset, .unset] [(.ref b138)]))
   refine own_st (fun t_ => XS.iconst (own_here Y213) hx rfl (hb hby at_130) ) ?_
   show own_Ends _ _ _ _ (T212.setTop (mkF m 131 #[.val (.int x0), .val (.int x1), .val (.int x2), .val (.int x3), .val (.int x4), .val (.int n_), .val (.ref b138), .val (.ref b166), .val (.int (own_b (own_A1 y0.toInt))), .unset, .unset, .unset, .unset] [(.int (0 : Int32)), (.ref b138)]))
   refine own_st (fun t_ => XS.iconst (own_here Y213) hx rfl (hb hby at_131) ) ?_
   show own_Ends _ _ _ _ (T212.setTop (mkF m 132 #[.val (.int x0), .val (.int x1), .val (.int x2), .val (.int x3), .val (.int x4), .val (.int n_), .val (.ref b138), .val (.ref b166), .val (.int (own_b (own_A1 y0.toInt))), .unset, .unset, .unset, .unset] [(.int (2 : Int32)), (.int (0 : Int32)), (.ref b138)]))
   refine own_callS Y213 hx hZ (y := (⟨"kombos/graph/Utf8IsValidPinLaw", "ok", "([III)Z"⟩ : MethodName)) hown (hw _ (List.mem_of_getElem? (i := 3) rfl)) (hw _ (List.mem_of_getElem? (i := 4) rfl)) (hw _ (List.mem_of_getElem? (i := 5) rfl)) (hw _ (List.mem_of_getElem? (i := 6) rfl)) (by decide) (argsL := [(.ref b138), (.int (0 : Int32)), (.int (2 : Int32))]) (rest := []) (own_rm1_0_2 l Z a0 hw [] b138 y0 y1 y2 y3 h207 n0  f211 gy0 gy1 gy2 gy3) (W := 0) (by decide) (by decide) (by decide) (by decide) rfl (by rw [hml]; rfl) (lenOf own_pd1 rfl) rfl (by show 2 * 0 + _ ≤ _; exact Nat.le_of_eq rfl) (hb hby at_132) (fun T394 h396 v397 Y395 q398 => ?_)
   obtain ⟨rfl, rfl⟩ := q398
   show own_Ends _ _ _ _ (T394.setTop (mkF m 135 #[.val (.int x0), .val (.int x1), .val (.int x2), .val (.int x3), .val (.int x4), .val (.int n_), .val (.ref b138), .val (.ref b166), .val (.int (own_b (own_A1 y0.toInt))), .unset, .unset, .unset, .unset] [(.int (own_b (own_A2 y0.toInt y1.toInt)))]))
   by_cases c135_399 : (own_b (own_A2 y0.toInt y1.toInt)) = (0 : Int32)
   ·
    refine own_st (fun t_ => XS.ifYes (own_here Y395) hx rfl (pc0 := 135) (pc' := 142) rfl (hb hby at_135) rfl (XT.i0_eq_t c135_399) (by decide) (by decide)) ?_
    show own_Ends _ _ _ _ (T394.setTop (mkF m 142 #[.val (.int x0), .val (.int x1), .val (.int x2), .val (.int x3), .val (.int x4), .val (.int n_), .val (.ref b138), .val (.ref b166), .val (.int (own_b (own_A1 y0.toInt))), .unset, .unset, .unset, .unset] []))
    refine own_st (fun t_ => XS.iconst (own_here Y395) hx rfl (hb hby at_142) ) ?_
    show own_Ends _ _ _ _ (T394.setTop (mkF m 143 #[.val (.int x0), .val (.int x1), .val (.int x2), .val (.int x3), .val (.int x4), .val (.int n_), .val (.ref b138), .val (.ref b166), .val (.int (own_b (own_A1 y0.toInt))), .unset, .unset, .unset, .unset] [(.int (0 : Int32))]))
    exact hJ217 T394   ((0 : Int32)) Y395  (by simp only [own_b_0, Bool.not_eq_false] at c115_393 c135_399; simp [own_b, c115_393, c135_399])
   ·
    refine own_st (fun t_ => XS.ifNo (own_here Y395) hx rfl (hb hby at_135) rfl (XT.i0_eq_f c135_399)) ?_
    show own_Ends _ _ _ _ (T394.setTop (mkF m 138 #[.val (.int x0), .val (.int x1), .val (.int x2), .val (.int x3), .val (.int x4), .val (.int n_), .val (.ref b138), .val (.ref b166), .val (.int (own_b (own_A1 y0.toInt))), .unset, .unset, .unset, .unset] []))
    refine own_st (fun t_ => XS.iconst (own_here Y395) hx rfl (hb hby at_138) ) ?_
    show own_Ends _ _ _ _ (T394.setTop (mkF m 139 #[.val (.int x0), .val (.int x1), .val (.int x2), .val (.int x3), .val (.int x4), .val (.int n_), .val (.ref b138), .val (.ref b166), .val (.int (own_b (own_A1 y0.toInt))), .unset, .unset, .unset, .unset] [(.int (1 : Int32))]))
    refine own_st (fun t_ => XS.goto (own_here Y395) hx rfl (pc0 := 139) (pc' := 143) rfl (hb hby at_139) (by decide) (by decide)) ?_
    show own_Ends _ _ _ _ (T394.setTop (mkF m 143 #[.val (.int x0), .val (.int x1), .val (.int x2), .val (.int x3), .val (.int x4), .val (.int n_), .val (.ref b138), .val (.ref b166), .val (.int (own_b (own_A1 y0.toInt))), .unset, .unset, .unset, .unset] [(.int (1 : Int32))]))
    exact hJ217 T394   ((1 : Int32)) Y395  (by simp only [own_b_0, Bool.not_eq_false] at c115_393 c135_399; simp [own_b, c115_393, c135_399])
  ·
   refine own_st (fun t_ => XS.ifNo (own_here Y213) hx rfl (hb hby at_115) rfl (XT.i0_eq_f c115_393)) ?_
   show own_Ends _ _ _ _ (T212.setTop (mkF m 118 #[.val (.int x0), .val (.int x1), .val (.int x2), .val (.int x3), .val (.int x4), .val (.int n_), .val (.ref b138), .val (.ref b166), .val (.int (own_b (own_A1 y0.toInt))), .unset, .unset, .unset, .unset] []))
   refine own_st (fun t_ => XS.aload (own_here Y213) hx rfl (hb hby at_118) rfl rfl) ?_
   show own_Ends _ _ _ _ (T212.setTop (mkF m 120 #[.val (.int x0), .val (.int x1), .val (.int x2), .val (.int x3), .val (.int x4), .val (.int n_), .val (.ref b138), .val (.ref b166), .val (.int (own_b (own_A1 y0.toInt))), .unset, .unset, .unset, .unset] [(.ref b138)]))
   refine own_st (fun t_ => XS.iconst (own_here Y213) hx rfl (hb hby at_120) ) ?_
   show own_Ends _ _ _ _ (T212.setTop (mkF m 121 #[.val (.int x0), .val (.int x1), .val (.int x2), .val (.int x3), .val (.int x4), .val (.int n_), .val (.ref b138), .val (.ref b166), .val (.int (own_b (own_A1 y0.toInt))), .unset, .unset, .unset, .unset] [(.int (1 : Int32)), (.ref b138)]))
   refine own_st (fun t_ => XS.iconst (own_here Y213) hx rfl (hb hby at_121) ) ?_
   show own_Ends _ _ _ _ (T212.setTop (mkF m 122 #[.val (.int x0), .val (.int x1), .val (.int x2), .val (.int x3), .val (.int x4), .val (.int n_), .val (.ref b138), .val (.ref b166), .val (.int (own_b (own_A1 y0.toInt))), .unset, .unset, .unset, .unset] [(.int (1 : Int32)), (.int (1 : Int32)), (.ref b138)]))
   refine own_callS Y213 hx hZ (y := (⟨"kombos/graph/Utf8IsValidPinLaw", "ok", "([III)Z"⟩ : MethodName)) hown (hw _ (List.mem_of_getElem? (i := 3) rfl)) (hw _ (List.mem_of_getElem? (i := 4) rfl)) (hw _ (List.mem_of_getElem? (i := 5) rfl)) (hw _ (List.mem_of_getElem? (i := 6) rfl)) (by decide) (argsL := [(.ref b138), (.int (1 : Int32)), (.int (1 : Int32))]) (rest := []) (own_rm1_1_1 l Z a0 hw [] b138 y0 y1 y2 y3 h207 n0  f211 gy0 gy1 gy2 gy3) (W := 0) (by decide) (by decide) (by decide) (by decide) rfl (by rw [hml]; rfl) (lenOf own_pd1 rfl) rfl (by show 2 * 0 + _ ≤ _; exact Nat.le_of_eq rfl) (hb hby at_122) (fun T400 h402 v403 Y401 q404 => ?_)
   obtain ⟨rfl, rfl⟩ := q404
   show own_Ends _ _ _ _ (T400.setTop (mkF m 125 #[.val (.int x0), .val (.int x1), .val (.int x2), .val (.int x3), .val (.int x4), .val (.int n_), .val (.ref b138), .val (.ref b166), .val (.int (own_b (own_A1 y0.toInt))), .unset, .unset, .unset, .unset] [(.int (own_b (own_A1 y1.toInt)))]))
   by_cases c125_405 : (own_b (own_A1 y1.toInt)) = (0 : Int32)
   ·
    refine own_st (fun t_ => XS.ifNo (own_here Y401) hx rfl (hb hby at_125) rfl (XT.i0_ne_f c125_405)) ?_
    show own_Ends _ _ _ _ (T400.setTop (mkF m 128 #[.val (.int x0), .val (.int x1), .val (.int x2), .val (.int x3), .val (.int x4), .val (.int n_), .val (.ref b138), .val (.ref b166), .val (.int (own_b (own_A1 y0.toInt))), .unset, .unset, .unset, .unset] []))
    refine own_st (fun t_ => XS.aload (own_here Y401) hx rfl (hb hby at_128) rfl rfl) ?_
    show own_Ends _ _ _ _ (T400.setTop (mkF m 130 #[.val (.int x0), .val (.int x1), .val (.int x2), .val (.int x3), .val (.int x4), .val (.int n_), .val (.ref b138), .val (.ref b166), .val (.int (own_b (own_A1 y0.toInt))), .unset, .unset, .unset, .unset] [(.ref b138)]))
    refine own_st (fun t_ => XS.iconst (own_here Y401) hx rfl (hb hby at_130) ) ?_
    show own_Ends _ _ _ _ (T400.setTop (mkF m 131 #[.val (.int x0), .val (.int x1), .val (.int x2), .val (.int x3), .val (.int x4), .val (.int n_), .val (.ref b138), .val (.ref b166), .val (.int (own_b (own_A1 y0.toInt))), .unset, .unset, .unset, .unset] [(.int (0 : Int32)), (.ref b138)]))
    refine own_st (fun t_ => XS.iconst (own_here Y401) hx rfl (hb hby at_131) ) ?_
    show own_Ends _ _ _ _ (T400.setTop (mkF m 132 #[.val (.int x0), .val (.int x1), .val (.int x2), .val (.int x3), .val (.int x4), .val (.int n_), .val (.ref b138), .val (.ref b166), .val (.int (own_b (own_A1 y0.toInt))), .unset, .unset, .unset, .unset] [(.int (2 : Int32)), (.int (0 : Int32)), (.ref b138)]))
    refine own_callS Y401 hx hZ (y := (⟨"kombos/graph/Utf8IsValidPinLaw", "ok", "([III)Z"⟩ : MethodName)) hown (hw _ (List.mem_of_getElem? (i := 3) rfl)) (hw _ (List.mem_of_getElem? (i := 4) rfl)) (hw _ (List.mem_of_getElem? (i := 5) rfl)) (hw _ (List.mem_of_getElem? (i := 6) rfl)) (by decide) (argsL := [(.ref b138), (.int (0 : Int32)), (.int (2 : Int32))]) (rest := []) (own_rm1_0_2 l Z a0 hw [] b138 y0 y1 y2 y3 h207 n0  f211 gy0 gy1 gy2 gy3) (W := 0) (by decide) (by decide) (by decide) (by decide) rfl (by rw [hml]; rfl) (lenOf own_pd1 rfl) rfl (by show 2 * 0 + _ ≤ _; exact Nat.le_of_eq rfl) (hb hby at_132) (fun T406 h408 v409 Y407 q410 => ?_)
    obtain ⟨rfl, rfl⟩ := q410
    show own_Ends _ _ _ _ (T406.setTop (mkF m 135 #[.val (.int x0), .val (.int x1), .val (.int x2), .val (.int x3), .val (.int x4), .val (.int n_), .val (.ref b138), .val (.ref b166), .val (.int (own_b (own_A1 y0.toInt))), .unset, .unset, .unset, .unset] [(.int (own_b (own_A2 y0.toInt y1.toInt)))]))
    by_cases c135_411 : (own_b (own_A2 y0.toInt y1.toInt)) = (0 : Int32)
    ·
     refine own_st (fun t_ => XS.ifYes (own_here Y407) hx rfl (pc0 := 135) (pc' := 142) rfl (hb hby at_135) rfl (XT.i0_eq_t c135_411) (by decide) (by decide)) ?_
     show own_Ends _ _ _ _ (T406.setTop (mkF m 142 #[.val (.int x0), .val (.int x1), .val (.int x2), .val (.int x3), .val (.int x4), .val (.int n_), .val (.ref b138), .val (.ref b166), .val (.int (own_b (own_A1 y0.toInt))), .unset, .unset, .unset, .unset] []))
     refine own_st (fun t_ => XS.iconst (own_here Y407) hx rfl (hb hby at_142) ) ?_
     show own_Ends _ _ _ _ (T406.setTop (mkF m 143 #[.val (.int x0), .val (.int x1), .val (.int x2), .val (.int x3), .val (.int x4), .val (.int n_), .val (.ref b138), .val (.ref b166), .val (.int (own_b (own_A1 y0.toInt))), .unset, .unset, .unset, .unset] [(.int (0 : Int32))]))
     exact hJ217 T406   ((0 : Int32)) Y407  (by simp only [own_b_0, Bool.not_eq_false] at c115_393 c125_405 c135_411; simp [own_b, c115_393, c125_405, c135_411])
    ·
     refine own_st (fun t_ => XS.ifNo (own_here Y407) hx rfl (hb hby at_135) rfl (XT.i0_eq_f c135_411)) ?_
     show own_Ends _ _ _ _ (T406.setTop (mkF m 138 #[.val (.int x0), .val (.int x1), .val (.int x2), .val (.int x3), .val (.int x4), .val (.int n_), .val (.ref b138), .val (.ref b166), .val (.int (own_b (own_A1 y0.toInt))), .unset, .unset, .unset, .unset] []))
     refine own_st (fun t_ => XS.iconst (own_here Y407) hx rfl (hb hby at_138) ) ?_
     show own_Ends _ _ _ _ (T406.setTop (mkF m 139 #[.val (.int x0), .val (.int x1), .val (.int x2), .val (.int x3), .val (.int x4), .val (.int n_), .val (.ref b138), .val (.ref b166), .val (.int (own_b (own_A1 y0.toInt))), .unset, .unset, .unset, .unset] [(.int (1 : Int32))]))
     refine own_st (fun t_ => XS.goto (own_here Y407) hx rfl (pc0 := 139) (pc' := 143) rfl (hb hby at_139) (by decide) (by decide)) ?_
     show own_Ends _ _ _ _ (T406.setTop (mkF m 143 #[.val (.int x0), .val (.int x1), .val (.int x2), .val (.int x3), .val (.int x4), .val (.int n_), .val (.ref b138), .val (.ref b166), .val (.int (own_b (own_A1 y0.toInt))), .unset, .unset, .unset, .unset] [(.int (1 : Int32))]))
     exact hJ217 T406   ((1 : Int32)) Y407  (by simp only [own_b_0, Bool.not_eq_false] at c115_393 c125_405 c135_411; simp [own_b, c115_393, c125_405, c135_411])
   ·
    refine own_st (fun t_ => XS.ifYes (own_here Y401) hx rfl (pc0 := 125) (pc' := 138) rfl (hb hby at_125) rfl (XT.i0_ne_t c125_405) (by decide) (by decide)) ?_
    show own_Ends _ _ _ _ (T400.setTop (mkF m 138 #[.val (.int x0), .val (.int x1), .val (.int x2), .val (.int x3), .val (.int x4), .val (.int n_), .val (.ref b138), .val (.ref b166), .val (.int (own_b (own_A1 y0.toInt))), .unset, .unset, .unset, .unset] []))
    refine own_st (fun t_ => XS.iconst (own_here Y401) hx rfl (hb hby at_138) ) ?_
    show own_Ends _ _ _ _ (T400.setTop (mkF m 139 #[.val (.int x0), .val (.int x1), .val (.int x2), .val (.int x3), .val (.int x4), .val (.int n_), .val (.ref b138), .val (.ref b166), .val (.int (own_b (own_A1 y0.toInt))), .unset, .unset, .unset, .unset] [(.int (1 : Int32))]))
    refine own_st (fun t_ => XS.goto (own_here Y401) hx rfl (pc0 := 139) (pc' := 143) rfl (hb hby at_139) (by decide) (by decide)) ?_
    show own_Ends _ _ _ _ (T400.setTop (mkF m 143 #[.val (.int x0), .val (.int x1), .val (.int x2), .val (.int x3), .val (.int x4), .val (.int n_), .val (.ref b138), .val (.ref b166), .val (.int (own_b (own_A1 y0.toInt))), .unset, .unset, .unset, .unset] [(.int (1 : Int32))]))
    exact hJ217 T400   ((1 : Int32)) Y401  (by simp only [own_b_0, Bool.not_eq_false] at c115_393 c125_405; simp [own_b, c115_393, c125_405])
set_option maxRecDepth 65536 in
set_option maxHeartbeats 40000000 in
theorem own_comes_1 {Post : Tables → Env → Array Value → State → Outcome → State → Prop} (hpost : ∀ tb e args s v u, (limb_1_1.after args s (.returned v) u = true ∧ limb_1_2.after args s (.returned v) u = true ∧ True) → FrameEnd s (.returned v) u (Jvm.fieldLocs frame_1_writes args s ++ Jvm.arrayLocs frame_1_arrays args s ++ Jvm.staticLocs frame_1_statics s) 16 128 → Post tb e args s (.returned v) u) :
    ArmFor flags0 classFile x code maxLocals ret World_1 tables_1 room_1 Calls_1 rest_1 Pre_1 Post := by
  intro l hfl _ _ p e ha hc hk s m args below hf hA hF happ hP
  obtain ⟨hcalls, hrest, hpre⟩ := hP
  obtain ⟨-, -, -, hnamed, -, -, -, hat⟩ := (Spec.applies_iff hf).mp happ
  obtain ⟨hg, hn⟩ := and_e (Cond.before_iff.mp (show (Jvm.Cond.and given_1 narrow_1).before args s = true from hpre))
  obtain ⟨g1, g2⟩ := and_e hg
  obtain ⟨g3, g4⟩ := and_e g2
  obtain ⟨g5, g6⟩ := and_e g4
  obtain ⟨g7, g8⟩ := and_e g6
  obtain ⟨g9, g10⟩ := and_e g8
  obtain ⟨w0, w1, w2, w3, w4, rfl⟩ : ∃ w0 w1 w2 w3 w4 : Value, args = #[w0, w1, w2, w3, w4] := by
    have hs : args.size = 5 := by simpa [Cond.value, given_1] using g1
    obtain ⟨L⟩ := args
    match L, hs with
    | [w0, w1, w2, w3, w4], _ => exact ⟨w0, w1, w2, w3, w4, rfl⟩
  have hw := fun d (hd : d ∈ tables_1) => atoms_spec (ws := Jvm.Cond.code x code maxLocals ret :: tables_1) hat d (List.mem_cons_of_mem _ hd)
  have hfit : Fit s := fun {y c} hc i hi => by
    obtain ⟨ha, rfl⟩ := Array.getElem?_eq_some_iff.mp hc
    have q := List.all_eq_true.mp ((Array.all_eq_true_iff_forall_mem.mp hF) _ (Array.getElem_mem ha)) i (List.mem_range.mpr hi)
    simpa [Array.getElem?_eq_getElem hi] using q
  obtain ⟨i0, ei0⟩ := is_v g3
  obtain rfl : w0 = (.int i0) := Option.some.inj ei0
  obtain ⟨i1, ei1⟩ := is_v g5
  obtain rfl : w1 = (.int i1) := Option.some.inj ei1
  obtain ⟨i2, ei2⟩ := is_v g7
  obtain rfl : w2 = (.int i2) := Option.some.inj ei2
  obtain ⟨i3, ei3⟩ := is_v g9
  obtain rfl : w3 = (.int i3) := Option.some.inj ei3
  obtain ⟨i4, ei4⟩ := is_v g10
  obtain rfl : w4 = (.int i4) := Option.some.inj ei4
  obtain ⟨n, o, h1, h2, h3, _, L, rfl, ⟨N, rfl⟩, hq⟩ := own_rm0 l s _ hw tables_1 i0 i1 i2 i3 i4  s.heap s.heap.size (Nat.le_refl _)  p e ha hc hk s m _ below hf ((Spec.applies_iff_loose hf).mp happ).1 ⟨rfl, State.Warmed39.refl s, rfl⟩ trivial
  refine ⟨n, _, h1, h2, h3, hpost _ _ _ _ _ _ ⟨Cond.after_iff.mpr rfl, Cond.after_iff.mpr (eq_i res_at (Term.int_eval (1)) rfl), trivial⟩ ⟨hq.1, hq.2.1, (hq.2.2.sift fun y hy => Or.inr (N y hy)).mono (by decide) (by decide)⟩⟩
theorem main_1_1 : Claimed_1_1 := own_comes_1 fun _ _ _ _ _ _ h hF => ⟨h.1, hF⟩
theorem main_1_2 : Claimed_1_2 := own_comes_1 fun _ _ _ _ _ _ h hF => ⟨h.2.1, hF⟩
end Jvm.Pilot.@@N@@
namespace Jvm.Pilot.@@N@@
open Jvm Jvm.ClassFile Sem Op Lib Jvm.Free Jvm.Stand Jvm.Pilot.@@N@@.Jvm.D
/-! MADE BY PROGRAM (witnessworld.py) out of the Statement's table words and the real class files: 9 classes; the members and pool entries that the words name. The judged class is class 1, her method 3. -/
namespace start1
open Jvm.ClassFile
def u (s : String) : CpInfo := .utf8 (stringToUtf16 s)
/-- a pool by its gaps: so many unusable entries, then the entry; so many at the end -/
def gap : Nat → List CpInfo → List CpInfo
  | 0, r => r
  | n + 1, r => .unusable :: gap n r
def poolList (es : List (Nat × CpInfo)) (last : Nat) : List CpInfo := es.foldr (fun e r => gap e.1 (e.2 :: r)) (gap last [])
def pool (es : List (Nat × CpInfo)) (last : Nat) : Array CpInfo := ⟨poolList es last⟩
def fileOf (pool : Array CpInfo) (this : Nat) (attrs : Array Attribute := #[]) (ms : Array MethodInfo := #[]) (fl : Nat := 33) (sup : Nat := 0) (ifs : Array Nat := #[]) (fds : Array FieldInfo := #[]) : ClassFile where
  minorVersion := 0
  majorVersion := 65
  constantPool := pool
  accessFlags := fl
  thisClass := this
  superClass := sup
  interfaces := ifs
  fields := fds
  methods := ms
  attributes := attrs
def plain (name : String) (sup : Option ClassId) : Class where
  name := name
  kind := .ordinary
  loader := none
  accessFlags := 33
  super := sup
  interfaces := #[]
  cf := none
  fields := #[]
  methods := #[]
  instanceTypes := #[]
  staticTypes := #[]
  resolved := #[]
  callSites := []
  init := .initialized
  statics := none
  mirror := none

def pool0 : Array CpInfo := pool [(5, u "<init>"), (0, u "()V"), (1, .class_ 10), (1, u "java/lang/Object")] 113

def k0m0 : Method := { name := "<init>", desc := "()V", sig := { parameters := [], returnType := none }, accessFlags := 1, code := none }
/-- java/lang/Object -/
def k0 : Class := { plain "java/lang/Object" none with
  accessFlags := 33
  interfaces := #[]
  cf := some (fileOf pool0 8 #[] #[{ accessFlags := 1, nameIndex := 5, descriptorIndex := 6, attributes := #[] }] 33 0 #[] #[])
  fields := #[]
  methods := #[k0m0]
  instanceTypes := #[]
  staticTypes := #[]
  resolved := Array.replicate 124 none
  statics := none }

def pool1 : Array CpInfo := pool [(2, .class_ 4), (1, u "java/lang/Object"), (0, u "<init>"), (0, u "()V"), (0, .methodref 8 9), (0, .class_ 10), (0, .nameAndType 11 12), (0, u "kombos/graph/Utf8IsValidPinLaw"), (0, u "cont"), (0, u "(I)Z"), (0, .integer 55296), (0, .integer 57343), (0, .integer 65536), (0, .integer 1114111), (0, .integer 2147483647), (0, .methodref 8 19), (0, .nameAndType 20 21), (0, u "ok"), (0, u "([III)Z"), (0, .methodref 23 24), (0, .class_ 25), (0, .nameAndType 26 27), (0, u "kombos/graph/Utf8"), (0, u "isValid"), (0, u "([BII)Z"), (3, u "law"), (0, u "(IIIII)Z")] 6

def k1m0 : Method := { name := "<init>", desc := "()V", sig := { parameters := [], returnType := none }, accessFlags := 2, code := none }
def k1c1 : Code := { maxStack := 2, maxLocals := 1, code := method_2_code, exceptionTable := #[], attributes := #[] }
def k1m1 : Method := { name := "cont", desc := "(I)Z", sig := { parameters := [.int], returnType := some .boolean }, accessFlags := 10, code := some k1c1 }
def k1c2 : Code := { maxStack := 4, maxLocals := 5, code := method_3_code, exceptionTable := #[], attributes := #[] }
def k1m2 : Method := { name := "ok", desc := "([III)Z", sig := { parameters := [(.array .int), .int, .int], returnType := some .boolean }, accessFlags := 10, code := some k1c2 }
def k1c3 : Code := { maxStack := 4, maxLocals := 13, code := code, exceptionTable := #[], attributes := #[] }
def k1m3 : Method := { name := "law", desc := "(IIIII)Z", sig := { parameters := [.int, .int, .int, .int, .int], returnType := some .boolean }, accessFlags := 9, code := some k1c3 }
/-- kombos/graph/Utf8IsValidPinLaw -/
def k1 : Class := { plain "kombos/graph/Utf8IsValidPinLaw" (some 0) with
  accessFlags := 49
  interfaces := #[]
  cf := some (fileOf pool1 8 #[] #[{ accessFlags := 2, nameIndex := 5, descriptorIndex := 6, attributes := #[] }, { accessFlags := 10, nameIndex := 11, descriptorIndex := 12, attributes := #[] }, { accessFlags := 10, nameIndex := 20, descriptorIndex := 21, attributes := #[] }, { accessFlags := 9, nameIndex := 31, descriptorIndex := 32, attributes := #[] }] 49 2 #[] #[])
  fields := #[]
  methods := #[k1m0, k1m1, k1m2, k1m3]
  instanceTypes := #[]
  staticTypes := #[]
  resolved := Array.replicate 39 none
  statics := none }

def pool2 : Array CpInfo := pool [(2, .class_ 4), (1, u "java/lang/Object"), (0, u "<init>"), (0, u "()V"), (32, .class_ 40), (0, u "kombos/graph/Utf8"), (2, u "isValid"), (0, u "([BII)Z")] 7

def k2m0 : Method := { name := "<init>", desc := "()V", sig := { parameters := [], returnType := none }, accessFlags := 2, code := none }
def k2c1 : Code := { maxStack := 3, maxLocals := 10, code := prog_50_method_2_code, exceptionTable := #[], attributes := #[] }
def k2m1 : Method := { name := "isValid", desc := "([BII)Z", sig := { parameters := [(.array .byte), .int, .int], returnType := some .boolean }, accessFlags := 9, code := some k2c1 }
/-- kombos/graph/Utf8 -/
def k2 : Class := { plain "kombos/graph/Utf8" (some 0) with
  accessFlags := 49
  interfaces := #[]
  cf := some (fileOf pool2 39 #[] #[{ accessFlags := 2, nameIndex := 5, descriptorIndex := 6, attributes := #[] }, { accessFlags := 9, nameIndex := 43, descriptorIndex := 44, attributes := #[] }] 49 2 #[] #[])
  fields := #[]
  methods := #[k2m0, k2m1]
  instanceTypes := #[]
  staticTypes := #[]
  resolved := Array.replicate 52 none
  statics := none }

def pool3 : Array CpInfo := pool [(1, u "java/lang/Cloneable"), (0, .class_ 1), (0, u "java/lang/Object"), (0, .class_ 3)] 3

/-- java/lang/Cloneable -/
def k3 : Class := { plain "java/lang/Cloneable" (some 0) with
  accessFlags := 1537
  interfaces := #[]
  cf := some (fileOf pool3 2 #[] #[] 1537 4 #[] #[])
  fields := #[]
  methods := #[]
  instanceTypes := #[]
  staticTypes := #[]
  resolved := Array.replicate 8 none
  statics := none }

def pool4 : Array CpInfo := pool [(1, u "java/io/Serializable"), (0, .class_ 1), (0, u "java/lang/Object"), (0, .class_ 3)] 3

/-- java/io/Serializable -/
def k4 : Class := { plain "java/io/Serializable" (some 0) with
  accessFlags := 1537
  interfaces := #[]
  cf := some (fileOf pool4 2 #[] #[] 1537 4 #[] #[])
  fields := #[]
  methods := #[]
  instanceTypes := #[]
  staticTypes := #[]
  resolved := Array.replicate 8 none
  statics := none }

/-- the primitive byte -/
def k5 : Class := { plain "byte" none with kind := .primitive 'B', accessFlags := 0x411 }
/-- [B -/
def k6 : Class := { plain "[B" (some 0) with kind := .array 5 .byte, interfaces := #[3, 4], accessFlags := 1041 }

/-- the primitive int -/
def k7 : Class := { plain "int" none with kind := .primitive 'I', accessFlags := 0x411 }
/-- [I -/
def k8 : Class := { plain "[I" (some 0) with kind := .array 7 .int, interfaces := #[3, 4], accessFlags := 1041 }

def heap : Heap := #[]
def classes : Array Class := #[k0, k1, k2, k3, k4, k5, k6, k7, k8]
def interned : List (Array UInt16 × Addr) := []
def slotsUsed : Nat := 0
def theMethod : MethodId := ⟨1, 3⟩
def args0 : Array Value := #[.int 10, .int 17, .int 24, .int 31, .int 38]
def aboutOver (below : List Frame) : State where
  vm := { classes := classes, interned := interned.toArray }
  heap := heap
  slotsUsed := slotsUsed
  threads := #[{ frames := .invoking theMethod args0 :: below }]
def below0 : List Frame := [.native { method := ⟨0, 0⟩, args := #[] }]
def about1 : State := aboutOver below0
def p0 : Program := .bare "" "" ""
def e0 : Env := launch0.env 0 0 0
theorem w_frames : about1.frames = Frame.invoking theMethod args0 :: below0 := rfl
set_option maxRecDepth 65536 in
theorem w_args : argsFit about1.vm theMethod args0 = true := by decide +kernel
set_option maxRecDepth 65536 in
theorem w_heap : heapFits about1 = true := by decide +kernel
set_option maxRecDepth 65536 in
theorem w_runnable : about1.curStatus? = some .runnable := by decide +kernel
set_option maxRecDepth 65536 in
theorem w_alone : about1.alone = true := by decide +kernel
set_option maxRecDepth 65536 in
theorem w_named : about1.methodNamed? x = some theMethod := by decide +kernel
set_option maxRecDepth 65536 in
theorem w_hears : about1.hears theMethod below0 = true := by decide +kernel
set_option maxRecDepth 65536 in
theorem w_ripe : about1.ripe theMethod args0 below0 = true := by decide +kernel
theorem w_running : about1.status = .running := rfl
set_option maxRecDepth 65536 in
theorem w_room : about1.hasRoom e0.platform room_1 = true :=
  launch0.hasRoom_least _ room_1 (by decide +kernel) (by decide +kernel) (by decide +kernel) (by decide +kernel) (by decide +kernel) (by decide +kernel)
theorem allAtoms_all (ts : List Jvm.Cond) (a : Array Jvm.Value) (st : Jvm.State) : (allAtoms ts).before a st = ts.all (fun c => c.before a st) := by
  induction ts with
  | nil => rfl
  | cons c t ih =>
    show (Jvm.Cond.and c (allAtoms t)).before a st = _
    rw [Jvm.Cond.before_and, ih, List.all_cons]
def words1 : List Jvm.Cond := Jvm.Cond.code x code maxLocals ret :: tables_1
/-- a 'code' word, met by the world's own term for the bytes: nothing is compared byte by byte -/
theorem code_word {y : MethodName} {bytes : ByteArray} {mx : Nat} {rt : Option FieldType} {a : Array Value} {s : State} {m : MethodId} {meth : Method} {c : Code} (h1 : s.methodNamed? y = some m) (h2 : s.vm.method? m = some meth) (h3 : meth.code = some c) (h4 : c.code = bytes)
    (h5 : (c.maxLocals == mx && c.exceptionTable.isEmpty && decide (c.maxStack ≤ mostOperands) && decide (meth.sig.returnType = rt) && !meth.locks && decide (parseMethodDescriptor y.desc = some meth.sig)) = true) : (Jvm.Cond.code y bytes mx rt).before a s = true := by
  simp only [Bool.and_eq_true, beq_iff_eq, Bool.not_eq_true', decide_eq_true_eq] at h5
  obtain ⟨⟨⟨⟨⟨g1, g2⟩, g3⟩, g4⟩, g5⟩, g6⟩ := h5
  simp [Cond.before, Cond.holds, Cond.value, h1, h2, h3, h4, g1, g2, g3, g4, g5, g6]
def isCode : Jvm.Cond → Bool
  | .code _ _ _ _ => true
  | _ => false
theorem all_split {L : List Jvm.Cond} {P : Jvm.Cond → Bool} (h1 : L.all (fun c => isCode c || P c) = true) (h2 : ∀ c ∈ L.filter isCode, P c = true) : L.all P = true := by
  refine List.all_eq_true.mpr fun c hc => ?_
  have h := List.all_eq_true.mp h1 c hc
  rcases Bool.eq_false_or_eq_true (isCode c) with hi | hi
  · exact h2 c (List.mem_filter.mpr ⟨hc, hi⟩)
  · simpa [hi] using h
set_option maxRecDepth 65536 in
theorem w_c0 : (Jvm.Cond.code x code maxLocals ret).before args0 about1 = true := code_word (m := ⟨1, 3⟩) (meth := k1m3) (c := k1c3) (by decide +kernel) rfl rfl rfl (by decide +kernel)
set_option maxRecDepth 65536 in
theorem w_c1 : (Jvm.Cond.code ({ cls := "kombos/graph/Utf8IsValidPinLaw", name := "ok", desc := "([III)Z" } : Jvm.MethodName) method_3_code (5 : Nat) (Option.some Jvm.ClassFile.FieldType.boolean)).before args0 about1 = true := code_word (m := ⟨1, 2⟩) (meth := k1m2) (c := k1c2) (by decide +kernel) rfl rfl rfl (by decide +kernel)
set_option maxRecDepth 65536 in
theorem w_c2 : (Jvm.Cond.code ({ cls := "kombos/graph/Utf8", name := "isValid", desc := "([BII)Z" } : Jvm.MethodName) prog_50_method_2_code (10 : Nat) (Option.some Jvm.ClassFile.FieldType.boolean)).before args0 about1 = true := code_word (m := ⟨2, 1⟩) (meth := k2m1) (c := k2c1) (by decide +kernel) rfl rfl rfl (by decide +kernel)
set_option maxRecDepth 65536 in
theorem w_c3 : (Jvm.Cond.code ({ cls := "kombos/graph/Utf8IsValidPinLaw", name := "cont", desc := "(I)Z" } : Jvm.MethodName) method_2_code (1 : Nat) (Option.some Jvm.ClassFile.FieldType.boolean)).before args0 about1 = true := code_word (m := ⟨1, 1⟩) (meth := k1m1) (c := k1c1) (by decide +kernel) rfl rfl rfl (by decide +kernel)
def codes1 : List Jvm.Cond := [Jvm.Cond.code x code maxLocals ret, Jvm.Cond.code ({ cls := "kombos/graph/Utf8IsValidPinLaw", name := "ok", desc := "([III)Z" } : Jvm.MethodName) method_3_code (5 : Nat) (Option.some Jvm.ClassFile.FieldType.boolean), Jvm.Cond.code ({ cls := "kombos/graph/Utf8", name := "isValid", desc := "([BII)Z" } : Jvm.MethodName) prog_50_method_2_code (10 : Nat) (Option.some Jvm.ClassFile.FieldType.boolean), Jvm.Cond.code ({ cls := "kombos/graph/Utf8IsValidPinLaw", name := "cont", desc := "(I)Z" } : Jvm.MethodName) method_2_code (1 : Nat) (Option.some Jvm.ClassFile.FieldType.boolean)]
set_option maxRecDepth 65536 in
theorem codes_eq : words1.filter isCode = codes1 := rfl
theorem w_codes : ∀ c ∈ words1.filter isCode, c.before args0 about1 = true := by
  rw [codes_eq]
  intro c hc
  simp only [codes1, List.mem_cons, List.not_mem_nil, or_false] at hc
  rcases hc with rfl | rfl | rfl | rfl
  · exact w_c0
  · exact w_c1
  · exact w_c2
  · exact w_c3
set_option maxRecDepth 65536 in
theorem w_t1 : words1.all (fun c => isCode c || c.before args0 about1) = true := by decide +kernel
theorem w_tables : (allAtoms (Jvm.Cond.code x code maxLocals ret :: tables_1)).before args0 about1 = true := by
  rw [allAtoms_all]
  show words1.all (fun c => c.before args0 about1) = true
  refine all_split ?_ w_codes
  rw [w_t1]
set_option maxRecDepth 65536 in
theorem w_case : (Jvm.Cond.and given_1 narrow_1).before args0 about1 = true := by decide +kernel
theorem w_applies : (headSpec (Jvm.Cond.code x code maxLocals ret :: tables_1) room_1).applies x e0.platform about1 = true :=
  (Spec.applies_iff w_frames).mpr ⟨w_running, w_runnable, w_alone, w_named, w_hears, w_ripe, w_room, w_tables⟩
theorem atStart : AtStart classFile x code maxLocals ret World_1 tables_1 room_1 Calls_1 rest_1 Pre_1 launch0 p0 e0 about1 theMethod args0 below0 :=
  ⟨lists_1, trivial, launch0.admits_env _ _ _, launch0.least_env, fairChoices_fair.cas, fairChoices_fair.clock, w_frames, w_args, w_heap, w_applies, trivial, trivial, w_case⟩
end start1
theorem witness_1 : WitnessClaimed_1 := ⟨start1.p0, start1.e0, start1.about1, start1.theMethod, start1.args0, start1.below0, start1.atStart⟩
end Jvm.Pilot.@@N@@
