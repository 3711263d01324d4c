import JvmDerived
import JvmDerived.Pilot.@@N@@Statement
import JvmDerived.Pilot.@@N@@Code
set_option linter.unusedVariables false
set_option linter.unusedSimpArgs false
namespace Jvm.Pilot.@@N@@
open Jvm Jvm.ClassFile Sem Op Lib Jvm.Free Jvm.Stand Jvm.LawKit Jvm.RoadKit Bundle Jvm.Pilot.@@N@@.Jvm.D
section OwnLayer
/-- the run from A ends, and P holds of how it ends -/
def own_Ends (tb : Tables) (e : Env) (below : List Frame) (P : Outcome → State → Prop) (A : State) : Prop :=
  ∃ s₂ o, Steps tb e below A s₂ ∧ s₂.status = .running ∧ Ended s₂ below o ∧ P o s₂
theorem own_st {tb : Tables} {e : Env} {below : List Frame} {P : Outcome → State → Prop} {A B : State} (h : ∀ t, Steps tb e below B t → Steps tb e below A t) (k : own_Ends tb e below P B) : own_Ends tb e below P A := by
  obtain ⟨s2, o, h1, h2⟩ := k
  exact ⟨s2, o, h _ h1, h2⟩
/-- where the walk stands: the state T, its heap h, k cells and n slots made, nothing below n0 written -/
def own_S (p : Program) (l : Launch) (e : Env) (R : Room) (s : State) (m : MethodId) (args : Array Value) (below : List Frame) (meth : Method) (c : Code) (n0 : Nat) (T : State) (h : Heap) (k n : Nat) : Prop :=
  ∃ locs, Stand p l e R s m args below meth c T locs k n ∧ T.heap = h ∧ Fr n0 locs
def own_P (s : State) (n0 : Nat) (Qf : Option Value → Heap → Prop) (C S : Nat) (o : Outcome) (U' : State) : Prop := ∃ v L, o = .returned v ∧ (Fr n0 L ∧ Qf v U'.heap) ∧ FrameEnd s o U' L C S
/-- a body's contract: called with 'as' at the heap h0 it returns, and Qf holds of what it returns and of the heap -/
def own_Con (l : Launch) (Z : State) (y : MethodName) (bytes : ByteArray) (maxL : Nat) (ret : Option FieldType) (ws : List Jvm.Cond) (rm : Room) (as' : Array Value) (h0 : Heap) (n0 : Nat) (Qf : Option Value → Heap → Prop) : Prop :=
  MetFree l y (head1 (Jvm.Cond.code y bytes maxL ret :: ws) rm) (fun a U => a = as' ∧ Z.Warmed39 U.vm ∧ U.heap = h0) (fun _ _ _ _ _ => True) (fun _ U o U' => ∃ v L, o = .returned v ∧ (Fr n0 L ∧ Qf v U'.heap) ∧ FrameEnd U o U' L rm.cells rm.slots)
variable {p : Program} {l : Launch} {e : Env} {R : Room} {s : State} {m : MethodId} {args : Array Value} {below : List Frame} {meth : Method} {c : Code} {n0 : Nat} {T : State} {h : Heap} {k n : Nat} {Z : State} {a0 : Array Value} {P : Outcome → State → Prop}
theorem own_here (Y : own_S p l e R s m args below meth c n0 T h k n) : At T m c below := by
  obtain ⟨_, X, -⟩ := Y
  exact X.here
theorem own_body {y : MethodName} {bytes : ByteArray} {maxL : Nat} {ret : Option FieldType} {ws : List Jvm.Cond} {rm : Room} {as' : Array Value} {h0 : Heap} {Qf : Option Value → Heap → Prop} (hpn : plainFor y = true)
    (hbody : ∀ (p : Program) (e : Env) (s : State) (m : MethodId) (below : List Frame) (meth : Method) (c : Code) (T : State), p.tables.exec = Jvm.exec → Z.Warmed39 s.vm → c.code = bytes → c.maxLocals = maxL → s.vm.findClass y.cls = some m.cls → meth.name = y.name → meth.sig.returnType = ret → meth.locks = false →
      own_S p l e rm s m as' below meth c n0 T h0 0 0 → own_Ends p.tables e below (own_P s n0 Qf rm.cells rm.slots) (T.setTop (entryFrame m as' maxL))) : own_Con l Z y bytes maxL ret ws rm as' h0 n0 Qf := by
  refine MetFree.of_bodySF hpn hisR ?_
  intro p e s m args below meth c s₁ Bd hml0 hP hK
  obtain ⟨rfl, hZ, hh⟩ := hP
  have hown : s.vm.findClass y.cls = some m.cls := findClass_of_methodNamed Bd.named
  have hnm := (name_of_methodNamed Bd.named Bd.method).1
  exact hbody p e s m below meth c s₁ Bd.exec hZ Bd.bytes hml0 hown hnm Bd.returns Bd.notSynchronized ⟨[], Stand.of_body Bd, by rw [← hh, Bd.state]; rfl, Fr.nil n0⟩
theorem own_leave (Y : own_S p l e R s m args below meth c n0 T h k n) (hlk : meth.locks = false) {v : Option Value} (hv : meth.sig.returnType = none → v = none) {Qf : Option Value → Heap → Prop} {C S : Nat} (hk : k ≤ C) (hn : n ≤ S) (hQ : Qf v h) {A : State}
    (st : ∀ (locs : List Loc) (fs : List Frame), Stand p l e R s m args below meth c T locs k n → (∀ (f : JFrame) (acts : List Action), f.method = m → f.locked = none → f.entered = [] → (doReturn e (T.setTop f) acts v).1 = T.setFrames fs) → Steps p.tables e below A (T.setFrames fs)) : own_Ends p.tables e below (own_P s n0 Qf C S) A := by
  obtain ⟨locs, X, e1, N⟩ := Y
  obtain ⟨fs, hr, hrun, hended, hW, hsame⟩ := X.leave hv hlk
  refine ⟨_, _, st locs fs X hr, hrun, hended, v, locs, rfl, ⟨N, ?_⟩, ⟨_, rfl⟩, hW, hsame.mono hk hn⟩
  show Qf v T.heap
  rw [e1]; exact hQ
theorem own_ret (Y : own_S p l e R s m args below meth c n0 T h k n) (hx : p.tables.exec = Jvm.exec) (hlk : meth.locks = false) {pc : Nat} {Ls : Array Slot} {w : Value} {t : FieldType} {i : Instr} {rest : List Value} (hret : meth.sig.returnType = some t) (hd : decode c.code pc = .ok (i, 1)) (hn : narrow t w = w)
    (hi : (i = .ireturn ∧ (t = .int ∨ t = .boolean ∨ t = .byte ∨ t = .char ∨ t = .short) ∧ ∃ z, w = .int z) ∨ (i = .lreturn ∧ t = .long ∧ ∃ z, w = .long z) ∨ (i = .dreturn ∧ t = .double ∧ ∃ z, w = .double z) ∨ (i = .freturn ∧ t = .float ∧ ∃ z, w = .float z) ∨ (i = .areturn ∧ t.isReference = true ∧ w.isRef = true))
    {Qf : Option Value → Heap → Prop} {C S : Nat} (hk : k ≤ C) (hs : n ≤ S) (hQ : Qf (some w) h) : own_Ends p.tables e below (own_P s n0 Qf C S) (T.setTop (mkF m pc Ls (w :: rest))) :=
  own_leave Y hlk (fun q => by rw [hret] at q; cases q) hk hs hQ fun _ _ X hr => retOut X hx hret hn hi hd hr
theorem own_retI (Y : own_S p l e R s m args below meth c n0 T h k n) (hx : p.tables.exec = Jvm.exec) (hlk : meth.locks = false) {pc : Nat} {Ls : Array Slot} {z : Int32} {rest : List Value} (hret : meth.sig.returnType = some .int) (hd : decode c.code pc = .ok (.ireturn, 1))
    {Qf : Option Value → Heap → Prop} {C S : Nat} (hk : k ≤ C) (hs : n ≤ S) (hQ : Qf (some (.int z)) h) : own_Ends p.tables e below (own_P s n0 Qf C S) (T.setTop (mkF m pc Ls (.int z :: rest))) :=
  own_ret Y hx hlk hret hd rfl (Or.inl ⟨rfl, Or.inl rfl, _, rfl⟩) hk hs hQ
theorem own_retN (Y : own_S p l e R s m args below meth c n0 T h k n) (hx : p.tables.exec = Jvm.exec) (hlk : meth.locks = false) {pc : Nat} {Ls : Array Slot} {z : Int32} {t : FieldType} {rest : List Value} (hret : meth.sig.returnType = some t) (ht : t = .boolean ∨ t = .byte ∨ t = .char ∨ t = .short) (hd : decode c.code pc = .ok (.ireturn, 1))
    {Qf : Option Value → Heap → Prop} {C S : Nat} (hk : k ≤ C) (hs : n ≤ S) (hQ : Qf (some (.int (nar t z))) h) : own_Ends p.tables e below (own_P s n0 Qf C S) (T.setTop (mkF m pc Ls (.int z :: rest))) :=
  own_leave Y hlk (fun q => by rw [hret] at q; cases q) hk hs hQ fun _ _ X hr => retN X hx hret ht hd hr
theorem own_retJ (Y : own_S p l e R s m args below meth c n0 T h k n) (hx : p.tables.exec = Jvm.exec) (hlk : meth.locks = false) {pc : Nat} {Ls : Array Slot} {z : Int64} {rest : List Value} (hret : meth.sig.returnType = some .long) (hd : decode c.code pc = .ok (.lreturn, 1))
    {Qf : Option Value → Heap → Prop} {C S : Nat} (hk : k ≤ C) (hs : n ≤ S) (hQ : Qf (some (.long z)) h) : own_Ends p.tables e below (own_P s n0 Qf C S) (T.setTop (mkF m pc Ls (.long z :: rest))) :=
  own_ret Y hx hlk hret hd rfl (Or.inr (Or.inl ⟨rfl, rfl, _, rfl⟩)) hk hs hQ
theorem own_retA (Y : own_S p l e R s m args below meth c n0 T h k n) (hx : p.tables.exec = Jvm.exec) (hlk : meth.locks = false) {pc : Nat} {Ls : Array Slot} {w : Value} {t : FieldType} {rest : List Value} (hret : meth.sig.returnType = some t) (ht : t.isReference = true) (hw : w.isRef = true) (hn : narrow t w = w) (hd : decode c.code pc = .ok (.areturn, 1))
    {Qf : Option Value → Heap → Prop} {C S : Nat} (hk : k ≤ C) (hs : n ≤ S) (hQ : Qf (some w) h) : own_Ends p.tables e below (own_P s n0 Qf C S) (T.setTop (mkF m pc Ls (w :: rest))) :=
  own_ret Y hx hlk hret hd hn (Or.inr (Or.inr (Or.inr (Or.inr ⟨rfl, ht, hw⟩)))) hk hs hQ
theorem own_retV (Y : own_S p l e R s m args below meth c n0 T h k n) (hx : p.tables.exec = Jvm.exec) (hlk : meth.locks = false) {pc : Nat} {Ls : Array Slot} (hret : meth.sig.returnType = none) (hd : decode c.code pc = .ok (.return_, 1))
    {Qf : Option Value → Heap → Prop} {C S : Nat} (hk : k ≤ C) (hs : n ≤ S) (hQ : Qf none h) : own_Ends p.tables e below (own_P s n0 Qf C S) (T.setTop (mkF m pc Ls [])) :=
  own_leave Y hlk (fun _ => rfl) hk hs hQ fun _ _ X hr => X.returnOut hx hret hd hr
/-! fields -/
theorem own_getF (Y : own_S p l e R s m args below meth c n0 T h k n) (hx : p.tables.exec = Jvm.exec) (hZ : Z.Warmed39 s.vm) {own R0 O f d host : String} {index : Nat} (hown : s.vm.findClass own = some m.cls) (w : (Jvm.Cond.fieldLink own index R0 f d).before a0 Z = true ∨ (Jvm.Cond.fieldLinkNest own index R0 f d host).before a0 Z = true) (via : Via Z R0 O f d) {a : Addr} {v : Value} (F : Fld Z h a O f d v)
    {g : JFrame} (hg : g.method = m) {rest : List Value} (hs : g.stack = .ref a :: rest) (hd : decode c.code g.pc = .ok (.getfield index, 3)) (K : ∀ T', own_S p l e R s m args below meth c n0 T' h k n → own_Ends p.tables e below P (T'.setTop { g with pc := g.pc + 3, stack := v :: rest })) : own_Ends p.tables e below P (T.setTop g) := by
  obtain ⟨locs, X, e1, N⟩ := Y
  obtain ⟨T', X', e', st⟩ := getF X hx hZ hown w via e1 F hg hs hd
  exact own_st st (K T' ⟨locs, X', e', N⟩)
theorem own_putF (Y : own_S p l e R s m args below meth c n0 T h k n) (hx : p.tables.exec = Jvm.exec) (hZ : Z.Warmed39 s.vm) {own R0 O f d host C : String} {index kk : Nat} {ty : FieldType} (hown : s.vm.findClass own = some m.cls) (w : (Jvm.Cond.fieldLink own index R0 f d).before a0 Z = true ∨ (Jvm.Cond.fieldLinkNest own index R0 f d host).before a0 Z = true) (via : Via Z R0 O f d) {a : Addr} {v old : Value} (F : Fld Z h a O f d old) (E : Exa Z h a C)
    (L : (Jvm.Cond.lays C O f d).before a0 Z = true ∨ ((Jvm.Cond.laysFinal C O f d).before a0 Z = true ∧ own = O ∧ meth.name = "<init>")) (wi : (Jvm.Cond.instantiable C kk).before a0 Z = true) (ha : n0 ≤ a) (hty : parseFieldDescriptor d = some ty) (hn : narrow ty v = v) (hf : fits ty v = true) {g : JFrame} (hg : g.method = m) {rest : List Value} (hs : g.stack = v :: .ref a :: rest) (hd : decode c.code g.pc = .ok (.putfield index, 3))
    (K : ∀ T' h', own_S p l e R s m args below meth c n0 T' h' k n → Wr h h' a (Jvm.RoadKit.slotOf Z O f d) v → Fld Z h' a O f d v → own_Ends p.tables e below P (T'.setTop { g with pc := g.pc + 3, stack := rest })) : own_Ends p.tables e below P (T.setTop g) := by
  obtain ⟨locs, X, e1, N⟩ := Y
  obtain ⟨T', h', X', e', W, st⟩ := putF X hx hZ hown w via e1 F E L wi hty hn hf hg hs hd
  exact own_st st (K T' h' ⟨_, X', e', Fr.snoc X' N ha⟩ W (F.same W))
theorem own_putFN (Y : own_S p l e R s m args below meth c n0 T h k n) (hx : p.tables.exec = Jvm.exec) (hZ : Z.Warmed39 s.vm) {own R0 O f d C : String} {index kk : Nat} {ty : FieldType} (hown : s.vm.findClass own = some m.cls) (w : (Jvm.Cond.fieldLink own index R0 f d).before a0 Z = true) (via : Via Z R0 O f d) {a : Addr} {v v' old : Value} (F : Fld Z h a O f d old) (E : Exa Z h a C)
    (L : (Jvm.Cond.lays C O f d).before a0 Z = true ∨ ((Jvm.Cond.laysFinal C O f d).before a0 Z = true ∧ own = O ∧ meth.name = "<init>")) (wi : (Jvm.Cond.instantiable C kk).before a0 Z = true) (ha : n0 ≤ a) (hty : parseFieldDescriptor d = some ty) (hn : narrow ty v = v') (hf : fits ty v' = true) {g : JFrame} (hg : g.method = m) {rest : List Value} (hs : g.stack = v :: .ref a :: rest) (hd : decode c.code g.pc = .ok (.putfield index, 3))
    (K : ∀ T' h', own_S p l e R s m args below meth c n0 T' h' k n → Wr h h' a (Jvm.RoadKit.slotOf Z O f d) v' → Fld Z h' a O f d v' → own_Ends p.tables e below P (T'.setTop { g with pc := g.pc + 3, stack := rest })) : own_Ends p.tables e below P (T.setTop g) := by
  obtain ⟨locs, X, e1, N⟩ := Y
  obtain ⟨T', h', X', e', W, st⟩ := putFN X hx hZ hown w via e1 F E L wi hty hn hf hg hs hd
  exact own_st st (K T' h' ⟨_, X', e', Fr.snoc X' N ha⟩ W (F.same W))
theorem own_getS (Y : own_S p l e R s m args below meth c n0 T h k n) (hx : p.tables.exec = Jvm.exec) (hZ : Z.Warmed39 s.vm) {own R0 O f d host : String} {index : Nat} (hown : s.vm.findClass own = some m.cls) (w : (Jvm.Cond.fieldLink own index R0 f d).before a0 Z = true ∨ (Jvm.Cond.fieldLinkNest own index R0 f d host).before a0 Z = true) (via : Via Z R0 O f d) {v : Value} (F : Sta Z h O f d v)
    {g : JFrame} (hg : g.method = m) (hd : decode c.code g.pc = .ok (.getstatic index, 3)) (K : ∀ T', own_S p l e R s m args below meth c n0 T' h k n → own_Ends p.tables e below P (T'.setTop { g with pc := g.pc + 3, stack := v :: g.stack })) : own_Ends p.tables e below P (T.setTop g) := by
  obtain ⟨locs, X, e1, N⟩ := Y
  obtain ⟨T', X', e', st⟩ := getS2 X hx hZ hown w via e1 F hg hd
  exact own_st st (K T' ⟨locs, X', e', N⟩)
/-! new objects -/
theorem own_new (Y : own_S p l e R s m args below meth c n0 T h k n) (hx : p.tables.exec = Jvm.exec) (hZ : Z.Warmed39 s.vm) {own C : String} {index nn : Nat} (hown : s.vm.findClass own = some m.cls) (w : (Jvm.Cond.classLink own index C).before a0 Z = true) (wi : (Jvm.Cond.instantiable C nn).before a0 Z = true) (wz : (Jvm.Cond.initialized C).before a0 Z = true)
    {g : JFrame} (hg : g.method = m) (hd : decode c.code g.pc = .ok (.new index, 3)) (hc : k + 1 ≤ R.cells) (hl : n + nn ≤ R.slots)
    (K : ∀ T' h' b, b = h.size → own_S p l e R s m args below meth c n0 T' h' (k + 1) (n + nn) → Ext h h' → Exa Z h' b C → (∀ (O nm d : String) (ty : FieldType), Laid Z a0 C O nm d → parseFieldDescriptor d = some ty → Fld Z h' b O nm d (defaultValue ty)) →
      own_Ends p.tables e below P (T'.setTop { g with pc := g.pc + 3, stack := .ref b :: g.stack })) : own_Ends p.tables e below P (T.setTop g) := by
  obtain ⟨locs, X, e1, N⟩ := Y
  obtain ⟨T', h', X', e', E, A, D, -, st⟩ := newO X hx hZ hown w wi wz e1 hg hd hc hl
  exact own_st st (K T' h' _ rfl ⟨locs, X', e', N⟩ E A (fun _ _ _ _ q r => D q r))
theorem own_initO (Y : own_S p l e R s m args below meth c n0 T h k n) (hx : p.tables.exec = Jvm.exec) (hZ : Z.Warmed39 s.vm) {own : String} {idx : Nat} (hown : s.vm.findClass own = some m.cls) (w1 : (Jvm.Cond.methodLink own idx Lib.objectInit).before a0 Z = true) (w2 : (Jvm.Cond.instanceMethod Lib.objectInit).before a0 Z = true) (w3 : (Jvm.Cond.code Lib.objectInit ⟨#[0xb1]⟩ 1 none).before a0 Z = true)
    {g : JFrame} (hg : g.method = m) (hsize : g.locals.size = c.maxLocals) {a : Addr} {rest : List Value} (hs : g.stack = .ref a :: rest) (hd : decode c.code g.pc = .ok (.invokespecial idx, 3)) (hf : 1 ≤ R.frames) {W : Nat} (hW : 2 * g.monitorRoom + (rest.map fun v => v.category).sum ≤ W) (hl : W + 12 ≤ R.locals)
    (K : ∀ T', own_S p l e R s m args below meth c n0 T' h k n → own_Ends p.tables e below P (T'.setTop { g with pc := g.pc + 3, stack := rest })) : own_Ends p.tables e below P (T.setTop g) := by
  obtain ⟨locs, X, e1, N⟩ := Y
  obtain ⟨T', X', e', st⟩ := initO X hx hZ hown w1 w2 w3 e1 hg hsize hs hd hf hW hl
  exact own_st st (K T' ⟨locs, X', e', N⟩)
/-! arrays: the cell's slots are the list vs -/
def own_A (Z : State) (h : Heap) (a : Addr) (ty : FieldType) (vs : List Value) : Prop := ∃ c : Cell, Arr Z h a c ty ∧ c.slots.toList = vs ∧ vs.length < 2 ^ 31
theorem own_A.lt {a : Addr} {ty : FieldType} {vs : List Value} (A : own_A Z h a ty vs) : a < h.size := by obtain ⟨c, A, -⟩ := A; exact A.lt
theorem own_A.ext {h' : Heap} {a : Addr} {ty : FieldType} {vs : List Value} (A : own_A Z h a ty vs) (E : Ext h h') : own_A Z h' a ty vs := by obtain ⟨c, A, r⟩ := A; exact ⟨c, A.ext E, r⟩
theorem own_A.other {h' : Heap} {a b : Addr} {sl : Nat} {v : Value} {ty : FieldType} {vs : List Value} (A : own_A Z h a ty vs) (W : Wr h h' b sl v) (q : a ≠ b) : own_A Z h' a ty vs := by obtain ⟨c, A, r⟩ := A; exact ⟨c, A.other W q, r⟩
theorem own_A.keep {h' : Heap} {a : Addr} {ws : List Addr} {ty : FieldType} {vs : List Value} (A : own_A Z h a ty vs) (K : Keep h h' ws) (q : a ∉ ws) : own_A Z h' a ty vs := by obtain ⟨c, A, r⟩ := A; exact ⟨c, ⟨K.2.1 a c A.1 q, A.2⟩, r⟩
theorem own_sz {c : Cell} {vs : List Value} (q : c.slots.toList = vs) : c.slots.size = vs.length := by rw [← q]; simp
theorem own_in {c : Cell} {vs : List Value} {j : Int32} {i : Nat} (q : c.slots.toList = vs) (hj : ¬ j < 0) (hi : j.toNatClampNeg = i) (hl : i < vs.length) : ¬ (j < 0 ∨ c.slots.size ≤ j.toNatClampNeg) := by
  rw [own_sz q, hi]; intro z; rcases z with z | z
  · exact hj z
  · omega
theorem own_get {c : Cell} {vs : List Value} {j : Int32} {i : Nat} {v : Value} (q : c.slots.toList = vs) (hi : j.toNatClampNeg = i) (hv : vs[i]? = some v) : c.slots[j.toNatClampNeg]? = some v := by
  rw [hi, ← Array.getElem?_toList, q, hv]
theorem own_A.set {h' : Heap} {a : Addr} {ty : FieldType} {vs : List Value} {cl : Cell} {i : Nat} {v : Value} (A : Arr Z h a cl ty) (q : cl.slots.toList = vs) (hl : vs.length < 2 ^ 31) (W : Wr h h' a i v) : own_A Z h' a ty (vs.set i v) :=
  ⟨_, A.same W, by simp [Cell.setSlot, q], by simpa using hl⟩
theorem own_newP (Y : own_S p l e R s m args below meth c n0 T h k n) (hx : p.tables.exec = Jvm.exec) (hZ : Z.Warmed39 s.vm) {aty : ArrayType} (w : (Jvm.Cond.arrayClass (newarray.typeOf aty)).before a0 Z = true) {g : JFrame} (hg : g.method = m) (hd : decode c.code g.pc = .ok (.newarray aty, 2)) {z : Int32} {rest : List Value} (hs : g.stack = .int z :: rest)
    (hz : ¬ z < 0) {nz cap : Nat} (hn : z.toNatClampNeg = nz) (hcap : nz ≤ cap) (hb : cap * 8 ≤ 536870912) (hc : k + 1 ≤ R.cells) (hl : n + cap ≤ R.slots) {ty : FieldType} (hty : newarray.typeOf aty = ty)
    (K : ∀ T' h' b, b = h.size → own_S p l e R s m args below meth c n0 T' h' (k + 1) (n + cap) → Ext h h' → own_A Z h' b ty (List.replicate nz (defaultValue ty)) → own_Ends p.tables e below P (T'.setTop { g with pc := g.pc + 2, stack := .ref b :: rest })) : own_Ends p.tables e below P (T.setTop g) := by
  obtain ⟨locs, X, e1, N⟩ := Y
  subst hty
  obtain ⟨T', h', cA, X', e', E, A, st⟩ := newP X hx hZ w e1 hg hd hs hz (cap := cap) (by rw [hn]; exact hcap) hb hc hl
  refine own_st st (K T' h' _ rfl ⟨locs, X', e', N⟩ E ⟨_, A, ?_, ?_⟩)
  · simp [newA, hn]
  · simp; omega
theorem own_newR (Y : own_S p l e R s m args below meth c n0 T h k n) (hx : p.tables.exec = Jvm.exec) (hZ : Z.Warmed39 s.vm) {own C : String} {index : Nat} (hown : s.vm.findClass own = some m.cls) (w1 : (Jvm.Cond.classLink own index C).before a0 Z = true) (w2 : (Jvm.Cond.arrayOver (.object C)).before a0 Z = true) {g : JFrame} (hg : g.method = m) (hd : decode c.code g.pc = .ok (.anewarray index, 3)) {z : Int32} {rest : List Value} (hs : g.stack = .int z :: rest)
    (hz : ¬ z < 0) {nz cap : Nat} (hn : z.toNatClampNeg = nz) (hcap : nz ≤ cap) (hb : cap * 8 ≤ 536870912) (hc : k + 1 ≤ R.cells) (hl : n + cap ≤ R.slots)
    (K : ∀ T' h' b, b = h.size → own_S p l e R s m args below meth c n0 T' h' (k + 1) (n + cap) → Ext h h' → own_A Z h' b (.object C) (List.replicate nz .null) → own_Ends p.tables e below P (T'.setTop { g with pc := g.pc + 3, stack := .ref b :: rest })) : own_Ends p.tables e below P (T.setTop g) := by
  obtain ⟨locs, X, e1, N⟩ := Y
  obtain ⟨T', h', cA, X', e', E, A, O, st⟩ := newR X hx hZ hown w1 w2 e1 hg hd hs hz (cap := cap) (by rw [hn]; exact hcap) hb hc hl
  refine own_st st (K T' h' _ rfl ⟨locs, X', e', N⟩ E ⟨_, A, ?_, ?_⟩)
  · simp [newA, hn, defaultValue]
  · simp; omega
theorem own_mono (Y : own_S p l e R s m args below meth c n0 T h k n) {k' n' : Nat} (hk : k ≤ k') (hn : n ≤ n') : own_S p l e R s m args below meth c n0 T h k' n' := by
  obtain ⟨locs, X, r⟩ := Y
  exact ⟨locs, { X with same := X.same.mono hk hn }, r⟩
theorem own_stI (Y : own_S p l e R s m args below meth c n0 T h k n) (hx : p.tables.exec = Jvm.exec) (hZ : Z.Warmed39 s.vm) {a : Addr} {vs : List Value} (A : own_A Z h a .int vs) (ha : n0 ≤ a) {j x : Int32} {i : Nat} (hj : ¬ j < 0) (hi : j.toNatClampNeg = i) (hl : i < vs.length) {g : JFrame} (hg : g.method = m) {rest : List Value} (hs : g.stack = .int x :: .int j :: .ref a :: rest) (hd : decode c.code g.pc = .ok (.iastore, 1))
    (K : ∀ T' h', own_S p l e R s m args below meth c n0 T' h' k n → Wr h h' a i (.int x) → own_A Z h' a .int (vs.set i (.int x)) → own_Ends p.tables e below P (T'.setTop { g with pc := g.pc + 1, stack := rest })) : own_Ends p.tables e below P (T.setTop g) := by
  obtain ⟨locs, X, e1, N⟩ := Y
  obtain ⟨cl, A, q, r⟩ := A
  obtain ⟨T', h', X', e', W, st⟩ := stI X hx hZ e1 A (own_in q hj hi hl) hg hs hd
  have W' := W; rw [hi] at W'
  exact own_st st (K T' h' ⟨_, X', e', Fr.snoc X' N ha⟩ W' (own_A.set A q r W'))
theorem own_stJ (Y : own_S p l e R s m args below meth c n0 T h k n) (hx : p.tables.exec = Jvm.exec) (hZ : Z.Warmed39 s.vm) {a : Addr} {vs : List Value} (A : own_A Z h a .long vs) (ha : n0 ≤ a) {j : Int32} {x : Int64} {i : Nat} (hj : ¬ j < 0) (hi : j.toNatClampNeg = i) (hl : i < vs.length) {g : JFrame} (hg : g.method = m) {rest : List Value} (hs : g.stack = .long x :: .int j :: .ref a :: rest) (hd : decode c.code g.pc = .ok (.lastore, 1))
    (K : ∀ T' h', own_S p l e R s m args below meth c n0 T' h' k n → Wr h h' a i (.long x) → own_A Z h' a .long (vs.set i (.long x)) → own_Ends p.tables e below P (T'.setTop { g with pc := g.pc + 1, stack := rest })) : own_Ends p.tables e below P (T.setTop g) := by
  obtain ⟨locs, X, e1, N⟩ := Y
  obtain ⟨cl, A, q, r⟩ := A
  obtain ⟨T', h', X', e', W, st⟩ := stJ X hx hZ e1 A (own_in q hj hi hl) hg hs hd
  have W' := W; rw [hi] at W'
  exact own_st st (K T' h' ⟨_, X', e', Fr.snoc X' N ha⟩ W' (own_A.set A q r W'))
theorem own_stB (Y : own_S p l e R s m args below meth c n0 T h k n) (hx : p.tables.exec = Jvm.exec) (hZ : Z.Warmed39 s.vm) {a : Addr} {vs : List Value} (A : own_A Z h a .byte vs) (ha : n0 ≤ a) {j x : Int32} {i : Nat} (hj : ¬ j < 0) (hi : j.toNatClampNeg = i) (hl : i < vs.length) {g : JFrame} (hg : g.method = m) {rest : List Value} (hs : g.stack = .int x :: .int j :: .ref a :: rest) (hd : decode c.code g.pc = .ok (.bastore, 1))
    (K : ∀ T' h', own_S p l e R s m args below meth c n0 T' h' k n → Wr h h' a i (.int x.toInt8.toInt32) → own_A Z h' a .byte (vs.set i (.int x.toInt8.toInt32)) → own_Ends p.tables e below P (T'.setTop { g with pc := g.pc + 1, stack := rest })) : own_Ends p.tables e below P (T.setTop g) := by
  obtain ⟨locs, X, e1, N⟩ := Y
  obtain ⟨cl, A, q, r⟩ := A
  obtain ⟨T', h', X', e', W, st⟩ := stB X hx hZ e1 A (own_in q hj hi hl) hg hs hd
  have W' := W; rw [hi] at W'
  exact own_st st (K T' h' ⟨_, X', e', Fr.snoc X' N ha⟩ W' (own_A.set A q r W'))
theorem own_stC (Y : own_S p l e R s m args below meth c n0 T h k n) (hx : p.tables.exec = Jvm.exec) (hZ : Z.Warmed39 s.vm) {a : Addr} {vs : List Value} (A : own_A Z h a .char vs) (ha : n0 ≤ a) {j x : Int32} {i : Nat} (hj : ¬ j < 0) (hi : j.toNatClampNeg = i) (hl : i < vs.length) {g : JFrame} (hg : g.method = m) {rest : List Value} (hs : g.stack = .int x :: .int j :: .ref a :: rest) (hd : decode c.code g.pc = .ok (.castore, 1))
    (K : ∀ T' h', own_S p l e R s m args below meth c n0 T' h' k n → Wr h h' a i (.int x.toUInt32.toUInt16.toUInt32.toInt32) → own_A Z h' a .char (vs.set i (.int x.toUInt32.toUInt16.toUInt32.toInt32)) → own_Ends p.tables e below P (T'.setTop { g with pc := g.pc + 1, stack := rest })) : own_Ends p.tables e below P (T.setTop g) := by
  obtain ⟨locs, X, e1, N⟩ := Y
  obtain ⟨cl, A, q, r⟩ := A
  obtain ⟨T', h', X', e', W, st⟩ := stC X hx hZ e1 A (own_in q hj hi hl) hg hs hd
  have W' := W; rw [hi] at W'
  exact own_st st (K T' h' ⟨_, X', e', Fr.snoc X' N ha⟩ W' (own_A.set A q r W'))
theorem own_len (Y : own_S p l e R s m args below meth c n0 T h k n) (hx : p.tables.exec = Jvm.exec) (hZ : Z.Warmed39 s.vm) {a : Addr} {ty : FieldType} {vs : List Value} (A : own_A Z h a ty vs) {z : Int32} (hz : vs.length.toInt32 = z) {g : JFrame} (hg : g.method = m) {rest : List Value} (hs : g.stack = .ref a :: rest) (hd : decode c.code g.pc = .ok (.arraylength, 1))
    (K : own_Ends p.tables e below P (T.setTop { g with pc := g.pc + 1, stack := .int z :: rest })) : own_Ends p.tables e below P (T.setTop g) := by
  obtain ⟨locs, X, e1, N⟩ := Y
  obtain ⟨cl, A, q, r⟩ := A
  refine own_st (fun t => X.arraylength hx (by rw [e1]; exact A.1) (State.isArrayOf_alike hZ.alike A.2.1) hg hs hd t) ?_
  rw [own_sz q, hz]; exact K
theorem own_ldI (Y : own_S p l e R s m args below meth c n0 T h k n) (hx : p.tables.exec = Jvm.exec) (hZ : Z.Warmed39 s.vm) {a : Addr} {vs : List Value} (A : own_A Z h a .int vs) {j : Int32} {i : Nat} (hj : ¬ j < 0) (hi : j.toNatClampNeg = i) (hl : i < vs.length) {v : Value} (hv : vs[i]? = some v) {g : JFrame} (hg : g.method = m) {rest : List Value} (hs : g.stack = .int j :: .ref a :: rest) (hd : decode c.code g.pc = .ok (.iaload, 1))
    (K : own_Ends p.tables e below P (T.setTop { g with pc := g.pc + 1, stack := v :: rest })) : own_Ends p.tables e below P (T.setTop g) := by
  obtain ⟨locs, X, e1, N⟩ := Y
  obtain ⟨cl, A, q, r⟩ := A
  exact own_st (fun t => X.iaload hx (by rw [e1]; exact A.1) (State.isArrayOf_alike hZ.alike A.2.1) A.2.2 (own_in q hj hi hl) (own_get q hi hv) hg hs hd t) K
theorem own_ldB (Y : own_S p l e R s m args below meth c n0 T h k n) (hx : p.tables.exec = Jvm.exec) (hZ : Z.Warmed39 s.vm) {a : Addr} {vs : List Value} (A : own_A Z h a .byte vs) {j : Int32} {i : Nat} (hj : ¬ j < 0) (hi : j.toNatClampNeg = i) (hl : i < vs.length) {v : Value} (hv : vs[i]? = some v) {g : JFrame} (hg : g.method = m) {rest : List Value} (hs : g.stack = .int j :: .ref a :: rest) (hd : decode c.code g.pc = .ok (.baload, 1))
    (K : own_Ends p.tables e below P (T.setTop { g with pc := g.pc + 1, stack := v :: rest })) : own_Ends p.tables e below P (T.setTop g) := by
  obtain ⟨locs, X, e1, N⟩ := Y
  obtain ⟨cl, A, q, r⟩ := A
  exact own_st (fun t => X.baloadBytes hx (by rw [e1]; exact A.1) (State.isArrayOf_alike hZ.alike A.2.1) A.2.2 (own_in q hj hi hl) (own_get q hi hv) hg hs hd t) K
theorem own_ldC (Y : own_S p l e R s m args below meth c n0 T h k n) (hx : p.tables.exec = Jvm.exec) (hZ : Z.Warmed39 s.vm) {a : Addr} {vs : List Value} (A : own_A Z h a .char vs) {j : Int32} {i : Nat} (hj : ¬ j < 0) (hi : j.toNatClampNeg = i) (hl : i < vs.length) {v : Value} (hv : vs[i]? = some v) {g : JFrame} (hg : g.method = m) {rest : List Value} (hs : g.stack = .int j :: .ref a :: rest) (hd : decode c.code g.pc = .ok (.caload, 1))
    (K : own_Ends p.tables e below P (T.setTop { g with pc := g.pc + 1, stack := v :: rest })) : own_Ends p.tables e below P (T.setTop g) := by
  obtain ⟨locs, X, e1, N⟩ := Y
  obtain ⟨cl, A, q, r⟩ := A
  exact own_st (fun t => X.caload hx (by rw [e1]; exact A.1) (State.isArrayOf_alike hZ.alike A.2.1) A.2.2 (own_in q hj hi hl) (own_get q hi hv) hg hs hd t) K
theorem own_ldJ (Y : own_S p l e R s m args below meth c n0 T h k n) (hx : p.tables.exec = Jvm.exec) (hZ : Z.Warmed39 s.vm) {a : Addr} {vs : List Value} (A : own_A Z h a .long vs) {j : Int32} {i : Nat} (hj : ¬ j < 0) (hi : j.toNatClampNeg = i) (hl : i < vs.length) {v : Value} (hv : vs[i]? = some v) {g : JFrame} (hg : g.method = m) {rest : List Value} (hs : g.stack = .int j :: .ref a :: rest) (hd : decode c.code g.pc = .ok (.laload, 1))
    (K : own_Ends p.tables e below P (T.setTop { g with pc := g.pc + 1, stack := v :: rest })) : own_Ends p.tables e below P (T.setTop g) := by
  obtain ⟨locs, X, e1, N⟩ := Y
  obtain ⟨cl, A, q, r⟩ := A
  exact own_st (fun t => X.laload hx (by rw [e1]; exact A.1) (State.isArrayOf_alike hZ.alike A.2.1) A.2.2 (own_in q hj hi hl) (own_get q hi hv) hg hs hd t) K
/-! constants -/
theorem own_ldcI (Y : own_S p l e R s m args below meth c n0 T h k n) (hx : p.tables.exec = Jvm.exec) (hZ : Z.Warmed39 s.vm) {own : String} {index : Nat} {v : Int32} (hown : s.vm.findClass own = some m.cls) (w : (Jvm.Cond.constant own index v).before a0 Z = true) {g : JFrame} (hg : g.method = m) (hd : decode c.code g.pc = .ok (.ldc index, 2))
    (K : own_Ends p.tables e below P (T.setTop { g with pc := g.pc + 2, stack := .int v :: g.stack })) : own_Ends p.tables e below P (T.setTop g) := by
  obtain ⟨locs, X, e1, N⟩ := Y
  exact own_st (X.ldcInt hx hown (mvT hZ w) hg hd) K
theorem own_ldcJ (Y : own_S p l e R s m args below meth c n0 T h k n) (hx : p.tables.exec = Jvm.exec) (hZ : Z.Warmed39 s.vm) {own : String} {index : Nat} {v : Int64} (hown : s.vm.findClass own = some m.cls) (w : (Jvm.Cond.constantLong own index v).before a0 Z = true) {g : JFrame} (hg : g.method = m) (hd : decode c.code g.pc = .ok (.ldc2_w index, 3))
    (K : own_Ends p.tables e below P (T.setTop { g with pc := g.pc + 3, stack := .long v :: g.stack })) : own_Ends p.tables e below P (T.setTop g) := by
  obtain ⟨locs, X, e1, N⟩ := Y
  exact own_st (X.ldc2Long hx hown (mvT hZ w) hg hd) K
theorem own_irem (Y : own_S p l e R s m args below meth c n0 T h k n) (hx : p.tables.exec = Jvm.exec) {g : JFrame} (hg : g.method = m) {x y : Int32} {rest : List Value} (hd : decode c.code g.pc = .ok (.irem, 1)) (hs : g.stack = .int y :: .int x :: rest) (hy : y ≠ 0)
    (K : own_Ends p.tables e below P (T.setTop { g with pc := g.pc + 1, stack := .int (x % y) :: rest })) : own_Ends p.tables e below P (T.setTop g) := by
  obtain ⟨locs, X, e1, N⟩ := Y
  exact own_st (fun t => iremM X hx hg hd hs hy) K
/-! calls by contract -/
theorem own_callS (Y : own_S p l e R s m args below meth c n0 T h k n) (hx : p.tables.exec = Jvm.exec) (hZ : Z.Warmed39 s.vm) {own : String} {index : Nat} {y : MethodName} {bytes : ByteArray} {maxL : Nat} {ret : Option FieldType} (hown : s.vm.findClass own = some m.cls) (wl : (Jvm.Cond.methodLink own index y).before a0 Z = true) (wst : (Jvm.Cond.static y).before a0 Z = true) (wi : (Jvm.Cond.initialized y.cls).before a0 Z = true) (wc : (Jvm.Cond.code y bytes maxL ret).before a0 Z = true)
    (hy : y.cls ≠ "java/lang/invoke/MethodHandle" ∧ y.cls ≠ "java/lang/invoke/VarHandle") {rm : Room} {argsL rest : List Value} {Qf : Option Value → Heap → Prop} (hM : own_Con l Z y bytes maxL ret [] rm argsL.toArray h n0 Qf) {W : Nat} (hfr : rm.frames + 1 ≤ R.frames) (hlo : W + (maxL + 11) + rm.locals ≤ R.locals) (hc : k + rm.cells ≤ R.cells) (hsl : n + rm.slots ≤ R.slots)
    {g : JFrame} (hg : g.method = m) (hsize : g.locals.size = c.maxLocals) (hlen : ∀ sig, parseMethodDescriptor y.desc = some sig → argsL.length = sig.parameters.length) (hs : g.stack = argsL.reverse ++ rest) (hW : 2 * g.monitorRoom + (rest.map fun v => v.category).sum ≤ W) (hd : decode c.code g.pc = .ok (.invokestatic index, 3))
    (K : ∀ T' h' v, own_S p l e R s m args below meth c n0 T' h' (k + rm.cells) (n + rm.slots) → Qf v h' → own_Ends p.tables e below P (T'.setTop { g with pc := g.pc + 3, stack := v.toList ++ rest })) : own_Ends p.tables e below P (T.setTop g) := by
  obtain ⟨locs, X, e1, N⟩ := Y
  obtain ⟨v, vm1, ⟨T', L', k', n'⟩, -, X', ⟨L, hQ, l1, y1, z1⟩, st⟩ := Jvm.LawKit.callS X hx hown (mvT hZ wl) (mvT hZ wst) (mvT hZ wi) (mvT hZ wc) hy (backOf (W := W) (Q := fun v h L => Fr n0 L ∧ Qf v h) hM hZ wc wi hfr hlo) hg hsize hlen hs hW hd (fun _ _ => ⟨rfl, e1, hc, hsl⟩)
  dsimp only [Pt.U, Pt.locs, Pt.cells, Pt.slots] at X' l1 y1 z1 st hQ
  subst l1 y1 z1
  exact own_st st (K T' _ v ⟨_, X', rfl, Fr.app N hQ.1⟩ hQ.2)
theorem own_callN (Y : own_S p l e R s m args below meth c n0 T h k n) (hx : p.tables.exec = Jvm.exec) (hZ : Z.Warmed39 s.vm) {own : String} {index : Nat} {y : MethodName} {bytes : ByteArray} {maxL : Nat} (hy1 : y.name = "<init>") (hown : s.vm.findClass own = some m.cls) (wl : (Jvm.Cond.methodLink own index y).before a0 Z = true) (win : (Jvm.Cond.instanceMethod y).before a0 Z = true) (wi : (Jvm.Cond.initialized y.cls).before a0 Z = true) (wc : (Jvm.Cond.code y bytes maxL none).before a0 Z = true)
    (hy : y.cls ≠ "java/lang/invoke/MethodHandle" ∧ y.cls ≠ "java/lang/invoke/VarHandle") {rm : Room} {a : Addr} {argsL rest : List Value} {Qf : Option Value → Heap → Prop} (hM : own_Con l Z y bytes maxL none [] rm (.ref a :: argsL).toArray h n0 Qf) {W : Nat} (hfr : rm.frames + 1 ≤ R.frames) (hlo : W + (maxL + 11) + rm.locals ≤ R.locals) (hc : k + rm.cells ≤ R.cells) (hsl : n + rm.slots ≤ R.slots)
    {g : JFrame} (hg : g.method = m) (hsize : g.locals.size = c.maxLocals) (hlen : ∀ sig, parseMethodDescriptor y.desc = some sig → argsL.length = sig.parameters.length) (hs : g.stack = argsL.reverse ++ .ref a :: rest) (hW : 2 * g.monitorRoom + (rest.map fun v => v.category).sum ≤ W) (hd : decode c.code g.pc = .ok (.invokespecial index, 3))
    (K : ∀ T' h' v, own_S p l e R s m args below meth c n0 T' h' (k + rm.cells) (n + rm.slots) → Qf v h' → own_Ends p.tables e below P (T'.setTop { g with pc := g.pc + 3, stack := v.toList ++ rest })) : own_Ends p.tables e below P (T.setTop g) := by
  obtain ⟨locs, X, e1, N⟩ := Y
  obtain ⟨v, vm1, ⟨T', L', k', n'⟩, -, X', ⟨L, hQ, l1, y1, z1⟩, st⟩ := X.specialBack hx hy1 hown (mvT hZ wl) (mvT hZ win) (mvT hZ wc) hy (backOf (W := W) (Q := fun v h L => Fr n0 L ∧ Qf v h) hM hZ wc wi hfr hlo) hg hsize (Steps.refl _) hlen hs hW hd (fun _ _ => ⟨rfl, e1, hc, hsl⟩)
  dsimp only [Pt.U, Pt.locs, Pt.cells, Pt.slots] at X' l1 y1 z1 st hQ
  subst l1 y1 z1
  exact own_st (fun t q => st.trans q) (K T' _ v ⟨_, X', rfl, Fr.app N hQ.1⟩ hQ.2)
theorem own_callV (Y : own_S p l e R s m args below meth c n0 T h k n) (hx : p.tables.exec = Jvm.exec) (hZ : Z.Warmed39 s.vm) {own C : String} {index : Nat} {y z : MethodName} {bytes : ByteArray} {maxL : Nat} {ret : Option FieldType} (hown : s.vm.findClass own = some m.cls) (wl : (Jvm.Cond.methodLink own index y).before a0 Z = true) (wd : (Jvm.Cond.declares y).before a0 Z = true) (hnf : NotFace s y) (wse : (Jvm.Cond.selects C y z).before a0 Z = true) (win : (Jvm.Cond.instanceMethod z).before a0 Z = true) (wi : (Jvm.Cond.initialized z.cls).before a0 Z = true) (wc : (Jvm.Cond.code z bytes maxL ret).before a0 Z = true)
    (hy : y.cls ≠ "java/lang/invoke/MethodHandle" ∧ y.cls ≠ "java/lang/invoke/VarHandle") {rm : Room} {a : Addr} (E : Exa Z h a C) {argsL rest : List Value} {Qf : Option Value → Heap → Prop} (hM : own_Con l Z z bytes maxL ret [] rm (.ref a :: argsL).toArray h n0 Qf) {W : Nat} (hfr : rm.frames + 1 ≤ R.frames) (hlo : W + (maxL + 11) + rm.locals ≤ R.locals) (hc : k + rm.cells ≤ R.cells) (hsl : n + rm.slots ≤ R.slots)
    {g : JFrame} (hg : g.method = m) (hsize : g.locals.size = c.maxLocals) (hlen : ∀ sig, parseMethodDescriptor y.desc = some sig → argsL.length = sig.parameters.length) (hs : g.stack = argsL.reverse ++ .ref a :: rest) (hW : 2 * g.monitorRoom + (rest.map fun v => v.category).sum ≤ W) (hd : decode c.code g.pc = .ok (.invokevirtual index, 3))
    (K : ∀ T' h' v, own_S p l e R s m args below meth c n0 T' h' (k + rm.cells) (n + rm.slots) → Qf v h' → own_Ends p.tables e below P (T'.setTop { g with pc := g.pc + 3, stack := v.toList ++ rest })) : own_Ends p.tables e below P (T.setTop g) := by
  obtain ⟨locs, X, e1, N⟩ := Y
  obtain ⟨cq, kq, qa, qb, qc⟩ := isOf hZ e1 E
  obtain ⟨v, vm1, ⟨T', L', k', n'⟩, -, X', ⟨L, hQ, l1, y1, z1⟩, st⟩ := X.virtualBack hx hown (mvT hZ wl) (mvT hZ wd) hnf (mvT hZ wse) (mvT hZ win) hy (backOf (W := W) (Q := fun v h L => Fr n0 L ∧ Qf v h) hM hZ wc wi hfr hlo) qa qc hg hsize (Steps.refl _) hlen hs hW hd (fun _ _ => ⟨rfl, e1, hc, hsl⟩)
  dsimp only [Pt.U, Pt.locs, Pt.cells, Pt.slots] at X' l1 y1 z1 st hQ
  subst l1 y1 z1
  exact own_st (fun t q => st.trans q) (K T' _ v ⟨_, X', rfl, Fr.app N hQ.1⟩ hQ.2)
theorem own_callU (Y : own_S p l e R s m args below meth c n0 T h k n) (hx : p.tables.exec = Jvm.exec) (hZ : Z.Warmed39 s.vm) {own C owner : String} {index : Nat} {y z : MethodName} {bytes : ByteArray} {maxL : Nat} {ret : Option FieldType} (hown : s.vm.findClass own = some m.cls) (wl : (Jvm.Cond.methodLink own index y).before a0 Z = true) (wsm : (Jvm.Cond.sameMethod y.cls owner y.name y.desc).before a0 Z = true) (wd : (Jvm.Cond.declares ⟨owner, y.name, y.desc⟩).before a0 Z = true) (wse : (Jvm.Cond.selects C y z).before a0 Z = true) (win : (Jvm.Cond.instanceMethod z).before a0 Z = true) (wi : (Jvm.Cond.initialized z.cls).before a0 Z = true) (wc : (Jvm.Cond.code z bytes maxL ret).before a0 Z = true)
    (hy : owner ≠ "java/lang/invoke/MethodHandle" ∧ owner ≠ "java/lang/invoke/VarHandle") {rm : Room} {a : Addr} (E : Exa Z h a C) {argsL rest : List Value} {Qf : Option Value → Heap → Prop} (hM : own_Con l Z z bytes maxL ret [] rm (.ref a :: argsL).toArray h n0 Qf) {W : Nat} (hfr : rm.frames + 1 ≤ R.frames) (hlo : W + (maxL + 11) + rm.locals ≤ R.locals) (hc : k + rm.cells ≤ R.cells) (hsl : n + rm.slots ≤ R.slots)
    {g : JFrame} (hg : g.method = m) (hsize : g.locals.size = c.maxLocals) (hlen : ∀ sig, parseMethodDescriptor y.desc = some sig → argsL.length = sig.parameters.length) (hs : g.stack = argsL.reverse ++ .ref a :: rest) (hW : 2 * g.monitorRoom + (rest.map fun v => v.category).sum ≤ W) (hd : decode c.code g.pc = .ok (.invokevirtual index, 3))
    (K : ∀ T' h' v, own_S p l e R s m args below meth c n0 T' h' (k + rm.cells) (n + rm.slots) → Qf v h' → own_Ends p.tables e below P (T'.setTop { g with pc := g.pc + 3, stack := v.toList ++ rest })) : own_Ends p.tables e below P (T.setTop g) := by
  obtain ⟨locs, X, e1, N⟩ := Y
  obtain ⟨cq, kq, qa, qb, qc⟩ := isOf hZ e1 E
  obtain ⟨v, vm1, ⟨T', L', k', n'⟩, -, X', ⟨L, hQ, l1, y1, z1⟩, st⟩ := X.virtualBackUp hx hown (mvT hZ wl) (mvT hZ wsm) (mvT hZ wd) hy (mvT hZ wse) (mvT hZ win) (backOf (W := W) (Q := fun v h L => Fr n0 L ∧ Qf v h) hM hZ wc wi hfr hlo) qa qc hg hsize (Steps.refl _) hlen hs hW hd (fun _ _ => ⟨rfl, e1, hc, hsl⟩)
  dsimp only [Pt.U, Pt.locs, Pt.cells, Pt.slots] at X' l1 y1 z1 st hQ
  subst l1 y1 z1
  exact own_st (fun t q => st.trans q) (K T' _ v ⟨_, X', rfl, Fr.app N hQ.1⟩ hQ.2)
theorem own_callP (Y : own_S p l e R s m args below meth c n0 T h k n) (hx : p.tables.exec = Jvm.exec) (hZ : Z.Warmed39 s.vm) {own C : String} {index : Nat} {y : MethodName} {bytes : ByteArray} {maxL : Nat} {ret : Option FieldType} (hown : s.vm.findClass own = some m.cls) (wl : (Jvm.Cond.methodLink own index y).before a0 Z = true) {nn : Nat} (win : (Jvm.Cond.instanceMethod y).before a0 Z = true) (wn : (Jvm.Cond.instantiable y.cls nn).before a0 Z = true) (wp : (Jvm.Cond.privateMethod y).before a0 Z = true) (wi : (Jvm.Cond.initialized y.cls).before a0 Z = true) (wc : (Jvm.Cond.code y bytes maxL ret).before a0 Z = true)
    (hy : y.cls ≠ "java/lang/invoke/MethodHandle" ∧ y.cls ≠ "java/lang/invoke/VarHandle") {rm : Room} {a : Addr} (E : Exa Z h a C) {argsL rest : List Value} {Qf : Option Value → Heap → Prop} (hM : own_Con l Z y bytes maxL ret [] rm (.ref a :: argsL).toArray h n0 Qf) {W : Nat} (hfr : rm.frames + 1 ≤ R.frames) (hlo : W + (maxL + 11) + rm.locals ≤ R.locals) (hc : k + rm.cells ≤ R.cells) (hsl : n + rm.slots ≤ R.slots)
    {g : JFrame} (hg : g.method = m) (hsize : g.locals.size = c.maxLocals) (hlen : ∀ sig, parseMethodDescriptor y.desc = some sig → argsL.length = sig.parameters.length) (hs : g.stack = argsL.reverse ++ .ref a :: rest) (hW : 2 * g.monitorRoom + (rest.map fun v => v.category).sum ≤ W) (hd : decode c.code g.pc = .ok (.invokevirtual index, 3))
    (K : ∀ T' h' v, own_S p l e R s m args below meth c n0 T' h' (k + rm.cells) (n + rm.slots) → Qf v h' → own_Ends p.tables e below P (T'.setTop { g with pc := g.pc + 3, stack := v.toList ++ rest })) : own_Ends p.tables e below P (T.setTop g) := by
  obtain ⟨locs, X, e1, N⟩ := Y
  obtain ⟨cell, q, q'⟩ := E.cell
  have wn' : (Jvm.Cond.instantiable y.cls nn).before #[] s = true := mvT hZ wn
  obtain ⟨ci, ki, hi1, hi2, -, hi4, -⟩ := Cond.instantiable_spec wn'
  have wse : (Jvm.Cond.selects y.cls y y).before args s = true := selects_self_of_private hi1 hi2 (by simpa using (Bool.or_eq_false_iff.mp hi4).1) (Cond.privateMethod_at (mvP hZ wp (args := #[]))) (mvT hZ win) hy
  obtain ⟨v, vm1, ⟨T', L', k', n'⟩, -, X', ⟨L, hQ, l1, y1, z1⟩, st⟩ := X.privateBack hx hown (mvT hZ wl) (mvT hZ win) wse (Cond.privateMethod_at (mvP hZ wp (args := #[]))) (mvT hZ wc) hy (backOf (W := W) (Q := fun v h L => Fr n0 L ∧ Qf v h) hM hZ wc wi hfr hlo) hg hsize (Steps.refl _) (by rw [e1]; exact q) q' hlen hs hW hd (fun _ _ => ⟨rfl, e1, hc, hsl⟩)
  dsimp only [Pt.U, Pt.locs, Pt.cells, Pt.slots] at X' l1 y1 z1 st hQ
  subst l1 y1 z1
  exact own_st (fun t q => st.trans q) (K T' _ v ⟨_, X', rfl, Fr.app N hQ.1⟩ hQ.2)
end OwnLayer
section OwnNums
def own_b (b : Bool) : Int32 := if b then 1 else 0
theorem own_b_t {b : Bool} (h : b = true) : own_b b = 1 := by subst h; rfl
theorem own_b_f {b : Bool} (h : b = false) : own_b b = 0 := by subst h; rfl
theorem own_b_0 (b : Bool) : own_b b = 0 ↔ b = false := by cases b <;> simp [own_b]
theorem own_b_n (b : Bool) : nar .boolean (own_b b) = own_b b := by cases b <;> rfl
theorem own_b_inj {a b : Bool} : own_b a = own_b b ↔ a = b := by cases a <;> cases b <;> simp [own_b]
theorem own_idx {j : Int32} {n : Nat} (h0 : 0 ≤ j.toInt) (h1 : j.toInt < (n : Int)) : ¬ j < 0 ∧ j.toNatClampNeg < n := by
  refine ⟨?_, ?_⟩
  · rw [Int32.lt_iff_toInt_lt]; show ¬ j.toInt < 0; omega
  · show j.toInt.toNat < n; omega
theorem own_ints {xs : List Int32} {i : Nat} (h : i < xs.length) : ∃ d, (xs.map Value.int)[i]? = some (.int d) ∧ d = xs[i] := ⟨xs[i], by simp [h], rfl⟩
theorem own_longs {xs : List Int64} {i : Nat} (h : i < xs.length) : ∃ d, (xs.map Value.long)[i]? = some (.long d) ∧ d = xs[i] := ⟨xs[i], by simp [h], rfl⟩
/-- p i, p (i + 1), .., k of them, all hold -/
def own_all (p : Nat → Bool) : Nat → Nat → Bool
  | _, 0 => true
  | i, k + 1 => p i && own_all p (i + 1) k
def own_g (xs : List Int32) (i : Nat) : Int32 := xs.getD i 0
theorem own_mget {xs : List Int32} {i : Nat} (h : i < (xs.map Value.int).length) : (xs.map Value.int)[i]? = some (.int (own_g xs i)) := by
  have h' : i < xs.length := by simpa using h
  simp [h', own_g]
theorem own_mlen {xs : List Int32} {i : Nat} (h : i < xs.length) : i < (xs.map Value.int).length := by simpa using h
theorem own_nat {j : Int32} {i : Nat} (h : j.toInt = (i : Int)) : ¬ j < 0 ∧ j.toNatClampNeg = i := by
  refine ⟨?_, ?_⟩
  · rw [Int32.lt_iff_toInt_lt]; show ¬ j.toInt < 0; omega
  · show j.toInt.toNat = i; omega
theorem own_inc {j : Int32} {i : Nat} (h : j.toInt = (i : Int)) (hi : i + 1 < 2147483648) : (j + 1).toInt = ((i + 1 : Nat) : Int) := by
  have := c_iadd j 1
  have h1 : (1 : Int32).toInt = 1 := rfl
  have := rng32 (j + 1)
  omega
theorem own_lt {x y : Int32} : x < y ↔ x.toInt < y.toInt := Int32.lt_iff_toInt_lt
theorem own_eq {x y : Int32} : x = y ↔ x.toInt = y.toInt := Int32.toInt_inj.symm
theorem own_tolen {ys : List Int32} {z : Int32} (h : z.toInt = (ys.length : Int)) : (ys.map Value.int).length.toInt32 = z := by
  have q := rng32 z
  have e : (ys.map Value.int).length = ys.length := by simp
  rw [own_eq, len_toInt (by rw [e]; omega), e, h]
theorem own_add {x y : Int32} {a b : Nat} (h1 : x.toInt = (a : Int)) (h2 : y.toInt = (b : Int)) (hi : a + b < 2147483648) : (x + y).toInt = ((a + b : Nat) : Int) := by
  have := c_iadd x y
  have := rng32 (x + y)
  omega
theorem own_sub {x y : Int32} {a b : Nat} (h1 : x.toInt = (a : Int)) (h2 : y.toInt = (b : Int)) : (x - y).toInt = (a : Int) - (b : Int) := by
  have := c_isub x y
  have := rng32 (x - y)
  have := rng32 x
  have := rng32 y
  omega
end OwnNums
section OwnStart
theorem own_fldI {args : Array Value} {s : State} {t : Term} {C f d : String} {z : Int32} {a : Addr} (ev : t.eval args s none [] s = some (.ref a)) (h : (Jvm.Cond.eq (Jvm.Term.field t C f d) (Jvm.Term.int z)).value args s none s [] = some true) : Fld s s.heap a C f d (.int z) := by
  obtain ⟨x, y, h1, h2, -, -⟩ := cmp_v (Or.inl h)
  have e1 : (Term.field t C f d).eval args s none [] s = s.fieldOf? a C f d := fld_at ev
  have h3 : s.fieldOf? a C f d = some x := e1.symm.trans h1
  have hy : y = .int z := (Option.some.inj h2).symm
  subst hy
  cases x <;> simp [Cond.value, h1, h2] at h
  subst h
  exact Fld.start h3
theorem own_static {args : Array Value} {s : State} {C f d K : String} (h : (Jvm.Cond.exactly (Jvm.Term.static C f d) K).value args s none s [] = some true) (w1 : (Jvm.Cond.initialized C).before args s = true) (w2 : (Jvm.Cond.laysStatic C f d).before args s = true) : ∃ a, (Jvm.Term.static C f d).eval args s none [] s = some (.ref a) ∧ Sta s s.heap C f d (.ref a) ∧ Exa s s.heap a K := by
  obtain ⟨a, ev⟩ := exa_v h
  exact ⟨a, ev, Sta.start ev (Or.inr ⟨w1, w2⟩), Exa.start ev h⟩
end OwnStart
def own_max (x y : Int32) : Int32 := if x < y then y else x
theorem own_d1_0 : decode jdk_29_method_65_code 0 = .ok (.iload_n 0, 1) := by decide +kernel
theorem own_d1_1 : decode jdk_29_method_65_code 1 = .ok (.iload_n 1, 1) := by decide +kernel
theorem own_d1_2 : decode jdk_29_method_65_code 2 = .ok (.if_icmp .lt 7, 3) := by decide +kernel
theorem own_d1_9 : decode jdk_29_method_65_code 9 = .ok (.iload_n 1, 1) := by decide +kernel
theorem own_d1_10 : decode jdk_29_method_65_code 10 = .ok (.ireturn, 1) := by decide +kernel
theorem own_d1_5 : decode jdk_29_method_65_code 5 = .ok (.iload_n 0, 1) := by decide +kernel
theorem own_d1_6 : decode jdk_29_method_65_code 6 = .ok (.goto 4, 3) := by decide +kernel
theorem own_ef_own_rm1 (m : MethodId) (x0 : Int32) (x1 : Int32) : entryFrame m #[(.int x0), (.int x1)] 2 = mkF m 0 #[.val (.int x0), .val (.int x1)] [] := by first | (simp [entryFrame, mkF, argsToLocals, Value.category]; done) | rfl
def own_Q_own_rm1 (Z : State) (x0 : Int32) (x1 : Int32) (h0 : Heap) (n0 : Nat) (v : Option Value) (h : Heap) : Prop := v = some (.int (own_max x0 x1)) ∧ h0 = h
set_option maxRecDepth 65536 in
set_option maxHeartbeats 40000000 in
theorem own_rm1 (l : Launch) (Z : State) (a0 : Array Value) (hw : ∀ d ∈ tables_1, d.before a0 Z = true) (ws : List Jvm.Cond) (x0 : Int32) (x1 : Int32)  (h0 : Heap) (n0 : Nat)   :
    own_Con l Z (⟨"java/lang/Math", "max", "(II)I"⟩ : MethodName) jdk_29_method_65_code 2 (some .int) ws ({ frames := 0, cells := 0, slots := 0, locals := 0 } : Room) #[(.int x0), (.int x1)] h0 n0 (own_Q_own_rm1 Z x0 x1 h0 n0) := by
  refine own_body (Jvm.Free.JP.mathPlain rfl (by decide +kernel)) ?_
  intro p e s m below meth c T0 hx hZ hby hml hown hnm hret hlk Y0
  replace hown : s.vm.findClass "java/lang/Math" = some m.cls := hown
  replace hnm : meth.name = "max" := hnm
  rw [own_ef_own_rm1 m x0 x1]
  show own_Ends _ _ _ _ (T0.setTop (mkF m 0 #[.val (.int x0), .val (.int x1)] []))
  refine own_st (fun t_ => XS.iloadN (own_here Y0) hx rfl (hb hby own_d1_0) rfl) ?_
  show own_Ends _ _ _ _ (T0.setTop (mkF m 1 #[.val (.int x0), .val (.int x1)] [(.int x0)]))
  refine own_st (fun t_ => XS.iloadN (own_here Y0) hx rfl (hb hby own_d1_1) rfl) ?_
  show own_Ends _ _ _ _ (T0.setTop (mkF m 2 #[.val (.int x0), .val (.int x1)] [(.int x1), (.int x0)]))
  by_cases c2_1 : x0 < x1
  ·
   refine own_st (fun t_ => XS.icmpYes (own_here Y0) hx rfl (pc0 := 2) (pc' := 9) rfl (hb hby own_d1_2) rfl (XT.ii_lt_t c2_1) (by decide) (by decide)) ?_
   show own_Ends _ _ _ _ (T0.setTop (mkF m 9 #[.val (.int x0), .val (.int x1)] []))
   refine own_st (fun t_ => XS.iloadN (own_here Y0) hx rfl (hb hby own_d1_9) rfl) ?_
   show own_Ends _ _ _ _ (T0.setTop (mkF m 10 #[.val (.int x0), .val (.int x1)] [(.int x1)]))
   refine own_retI Y0 hx hlk hret (hb hby own_d1_10) (by decide) (by decide) ?_
   exact ⟨by simp [own_max, c2_1], rfl⟩
  ·
   refine own_st (fun t_ => XS.icmpNo (own_here Y0) hx rfl (hb hby own_d1_2) rfl (XT.ii_lt_f c2_1)) ?_
   show own_Ends _ _ _ _ (T0.setTop (mkF m 5 #[.val (.int x0), .val (.int x1)] []))
   refine own_st (fun t_ => XS.iloadN (own_here Y0) hx rfl (hb hby own_d1_5) rfl) ?_
   show own_Ends _ _ _ _ (T0.setTop (mkF m 6 #[.val (.int x0), .val (.int x1)] [(.int x0)]))
   refine own_st (fun t_ => XS.goto (own_here Y0) hx rfl (pc0 := 6) (pc' := 10) rfl (hb hby own_d1_6) (by decide) (by decide)) ?_
   show own_Ends _ _ _ _ (T0.setTop (mkF m 10 #[.val (.int x0), .val (.int x1)] [(.int x0)]))
   refine own_retI Y0 hx hlk hret (hb hby own_d1_10) (by decide) (by decide) ?_
   exact ⟨by simp [own_max, c2_1], rfl⟩
theorem own_pn0 : plainName "java/lang/Record" = true := by first | (simp [plainName, overriddenIn]; done) | decide +kernel
theorem own_d4_0 : decode jdk_30_method_1_code 0 = .ok (.aload_n 0, 1) := by decide +kernel
theorem own_d4_1 : decode jdk_30_method_1_code 1 = .ok (.invokespecial 1, 3) := by decide +kernel
theorem own_d4_4 : decode jdk_30_method_1_code 4 = .ok (.return_, 1) := by decide +kernel
theorem own_ef_own_rm4 (m : MethodId) (r0 : Addr) : entryFrame m #[(.ref r0)] 1 = mkF m 0 #[.val (.ref r0)] [] := by first | (simp [entryFrame, mkF, argsToLocals, Value.category]; done) | rfl
def own_Q_own_rm4 (Z : State) (r0 : Addr) (h0 : Heap) (n0 : Nat) (v : Option Value) (h : Heap) : Prop := v = none ∧ h0 = h
set_option maxRecDepth 65536 in
set_option maxHeartbeats 40000000 in
theorem own_rm4 (l : Launch) (Z : State) (a0 : Array Value) (hw : ∀ d ∈ tables_1, d.before a0 Z = true) (ws : List Jvm.Cond) (r0 : Addr)  (h0 : Heap) (n0 : Nat)   :
    own_Con l Z (⟨"java/lang/Record", "<init>", "()V"⟩ : MethodName) jdk_30_method_1_code 1 none ws ({ frames := 1, cells := 0, slots := 0, locals := 12 } : Room) #[(.ref r0)] h0 n0 (own_Q_own_rm4 Z r0 h0 n0) := by
  refine own_body (plainFor_of_name own_pn0) ?_
  intro p e s m below meth c T0 hx hZ hby hml hown hnm hret hlk Y0
  replace hown : s.vm.findClass "java/lang/Record" = some m.cls := hown
  replace hnm : meth.name = "<init>" := hnm
  rw [own_ef_own_rm4 m r0]
  show own_Ends _ _ _ _ (T0.setTop (mkF m 0 #[.val (.ref r0)] []))
  refine own_st (fun t_ => XS.aloadN (own_here Y0) hx rfl (hb hby own_d4_0) rfl rfl) ?_
  show own_Ends _ _ _ _ (T0.setTop (mkF m 1 #[.val (.ref r0)] [(.ref r0)]))
  refine own_initO Y0 hx hZ hown (hw _ (List.mem_of_getElem? (i := 22) rfl)) (hw _ (List.mem_of_getElem? (i := 23) rfl)) (hw _ (List.mem_of_getElem? (i := 24) rfl)) rfl (by rw [hml]; rfl) rfl (hb hby own_d4_1) (by decide) (W := 0) (by show 2 * 0 + _ ≤ _; exact Nat.le_of_eq rfl) (by decide) (fun T2 Y3 => ?_)
  show own_Ends _ _ _ _ (T2.setTop (mkF m 4 #[.val (.ref r0)] []))
  refine own_retV Y3 hx hlk hret (hb hby own_d4_4) (by decide) (by decide) ?_
  exact ⟨rfl, rfl⟩
theorem own_pn1 : plainName "com/example/fillgauge/fillgauge/core/ColumnType" = true := by first | (simp [plainName, overriddenIn]; done) | decide +kernel
theorem own_pd0 : parseMethodDescriptor "()V" = some ⟨[], none⟩ := by decide +kernel
theorem own_d3_0 : decode prog_3_method_1_code 0 = .ok (.aload_n 0, 1) := by decide +kernel
theorem own_d3_1 : decode prog_3_method_1_code 1 = .ok (.invokespecial 1, 3) := by decide +kernel
theorem own_d3_4 : decode prog_3_method_1_code 4 = .ok (.aload_n 1, 1) := by decide +kernel
theorem own_d3_5 : decode prog_3_method_1_code 5 = .ok (.ifnonnull 13, 3) := by decide +kernel
theorem own_d3_18 : decode prog_3_method_1_code 18 = .ok (.iload_n 2, 1) := by decide +kernel
theorem own_d3_19 : decode prog_3_method_1_code 19 = .ok (.ifCond .lt 12, 3) := by decide +kernel
theorem own_d3_22 : decode prog_3_method_1_code 22 = .ok (.iload_n 3, 1) := by decide +kernel
theorem own_d3_23 : decode prog_3_method_1_code 23 = .ok (.ifCond .lt 8, 3) := by decide +kernel
theorem own_d3_26 : decode prog_3_method_1_code 26 = .ok (.iload 4, 2) := by decide +kernel
theorem own_d3_28 : decode prog_3_method_1_code 28 = .ok (.ifCond .ge 18, 3) := by decide +kernel
theorem own_d3_46 : decode prog_3_method_1_code 46 = .ok (.aload_n 1, 1) := by decide +kernel
theorem own_d3_47 : decode prog_3_method_1_code 47 = .ok (.getstatic 18, 3) := by decide +kernel
theorem own_d3_50 : decode prog_3_method_1_code 50 = .ok (.if_acmp .eq 10, 3) := by decide +kernel
theorem own_d3_60 : decode prog_3_method_1_code 60 = .ok (.iconst 1, 1) := by decide +kernel
theorem own_d3_61 : decode prog_3_method_1_code 61 = .ok (.goto 4, 3) := by decide +kernel
theorem own_d3_65 : decode prog_3_method_1_code 65 = .ok (.istore 6, 2) := by decide +kernel
theorem own_d3_67 : decode prog_3_method_1_code 67 = .ok (.iload 6, 2) := by decide +kernel
theorem own_d3_69 : decode prog_3_method_1_code 69 = .ok (.ifCond .ne 24, 3) := by decide +kernel
theorem own_d3_93 : decode prog_3_method_1_code 93 = .ok (.aload_n 1, 1) := by decide +kernel
theorem own_d3_94 : decode prog_3_method_1_code 94 = .ok (.getstatic 18, 3) := by decide +kernel
theorem own_d3_97 : decode prog_3_method_1_code 97 = .ok (.if_acmp .ne 17, 3) := by decide +kernel
theorem own_d3_100 : decode prog_3_method_1_code 100 = .ok (.iload_n 2, 1) := by decide +kernel
theorem own_d3_101 : decode prog_3_method_1_code 101 = .ok (.ifCond .ne 13, 3) := by decide +kernel
theorem own_d3_114 : decode prog_3_method_1_code 114 = .ok (.aload_n 1, 1) := by decide +kernel
theorem own_d3_115 : decode prog_3_method_1_code 115 = .ok (.getstatic 38, 3) := by decide +kernel
theorem own_d3_118 : decode prog_3_method_1_code 118 = .ok (.if_acmp .eq 29, 3) := by decide +kernel
theorem own_d3_121 : decode prog_3_method_1_code 121 = .ok (.iload_n 3, 1) := by decide +kernel
theorem own_d3_122 : decode prog_3_method_1_code 122 = .ok (.ifCond .ne 8, 3) := by decide +kernel
theorem own_d3_125 : decode prog_3_method_1_code 125 = .ok (.iload 4, 2) := by decide +kernel
theorem own_d3_127 : decode prog_3_method_1_code 127 = .ok (.ifCond .eq 20, 3) := by decide +kernel
theorem own_d3_147 : decode prog_3_method_1_code 147 = .ok (.iload_n 3, 1) := by decide +kernel
theorem own_d3_148 : decode prog_3_method_1_code 148 = .ok (.ifCond .eq 25, 3) := by decide +kernel
theorem own_d3_173 : decode prog_3_method_1_code 173 = .ok (.iload 5, 2) := by decide +kernel
theorem own_d3_175 : decode prog_3_method_1_code 175 = .ok (.ifCond .eq 27, 3) := by decide +kernel
theorem own_d3_202 : decode prog_3_method_1_code 202 = .ok (.aload_n 0, 1) := by decide +kernel
theorem own_d3_203 : decode prog_3_method_1_code 203 = .ok (.aload_n 1, 1) := by decide +kernel
theorem own_d3_204 : decode prog_3_method_1_code 204 = .ok (.putfield 47, 3) := by decide +kernel
theorem own_d3_207 : decode prog_3_method_1_code 207 = .ok (.aload_n 0, 1) := by decide +kernel
theorem own_d3_208 : decode prog_3_method_1_code 208 = .ok (.iload_n 2, 1) := by decide +kernel
theorem own_d3_209 : decode prog_3_method_1_code 209 = .ok (.putfield 52, 3) := by decide +kernel
theorem own_d3_212 : decode prog_3_method_1_code 212 = .ok (.aload_n 0, 1) := by decide +kernel
theorem own_d3_213 : decode prog_3_method_1_code 213 = .ok (.iload_n 3, 1) := by decide +kernel
theorem own_d3_214 : decode prog_3_method_1_code 214 = .ok (.putfield 56, 3) := by decide +kernel
theorem own_d3_217 : decode prog_3_method_1_code 217 = .ok (.aload_n 0, 1) := by decide +kernel
theorem own_d3_218 : decode prog_3_method_1_code 218 = .ok (.iload 4, 2) := by decide +kernel
theorem own_d3_220 : decode prog_3_method_1_code 220 = .ok (.putfield 59, 3) := by decide +kernel
theorem own_d3_223 : decode prog_3_method_1_code 223 = .ok (.aload_n 0, 1) := by decide +kernel
theorem own_d3_224 : decode prog_3_method_1_code 224 = .ok (.iload 5, 2) := by decide +kernel
theorem own_d3_226 : decode prog_3_method_1_code 226 = .ok (.putfield 62, 3) := by decide +kernel
theorem own_d3_229 : decode prog_3_method_1_code 229 = .ok (.return_, 1) := by decide +kernel
theorem own_ef_own_rm3C (m : MethodId) (r0 : Addr) (r1 : Addr) (x2 : Int32) : entryFrame m #[(.ref r0), (.ref r1), (.int x2), (.int (0 : Int32)), (.int (0 : Int32)), (.int (0 : Int32))] 7 = mkF m 0 #[.val (.ref r0), .val (.ref r1), .val (.int x2), .val (.int (0 : Int32)), .val (.int (0 : Int32)), .val (.int (0 : Int32)), .unset] [] := by first | (simp [entryFrame, mkF, argsToLocals, Value.category]; done) | rfl
def own_Q_own_rm3C (Z : State) (r0 : Addr) (r1 : Addr) (x2 : Int32) (h0 : Heap) (n0 : Nat) (v : Option Value) (h : Heap) : Prop := v = none ∧ Keep h0 h [r0] ∧ Fld Z h r0 "com/example/fillgauge/fillgauge/core/ColumnType" "length" "I" (.int x2)
set_option maxRecDepth 65536 in
set_option maxHeartbeats 40000000 in
theorem own_rm3C (l : Launch) (Z : State) (a0 : Array Value) (hw : ∀ d ∈ tables_1, d.before a0 Z = true) (ws : List Jvm.Cond) (r0 : Addr) (r1 : Addr) (x2 : Int32) (rD : Addr) (h0 : Heap) (n0 : Nat)  (E : Exa Z h0 r0 "com/example/fillgauge/fillgauge/core/ColumnType") (Fkind : Fld Z h0 r0 "com/example/fillgauge/fillgauge/core/ColumnType" "kind" "Lcom/example/fillgauge/fillgauge/core/ColumnType$Kind;" .null) (Flength : Fld Z h0 r0 "com/example/fillgauge/fillgauge/core/ColumnType" "length" "I" (.int (0 : Int32))) (Fprecision : Fld Z h0 r0 "com/example/fillgauge/fillgauge/core/ColumnType" "precision" "I" (.int (0 : Int32))) (Fscale : Fld Z h0 r0 "com/example/fillgauge/fillgauge/core/ColumnType" "scale" "I" (.int (0 : Int32))) (FwithTimeZone : Fld Z h0 r0 "com/example/fillgauge/fillgauge/core/ColumnType" "withTimeZone" "Z" (.int (0 : Int32))) (g : n0 ≤ r0) (hlo : ¬ x2 < 0) (hnz : ¬ x2 = 0) (SC : Sta Z h0 "com/example/fillgauge/fillgauge/core/ColumnType$Kind" "CHAR" "Lcom/example/fillgauge/fillgauge/core/ColumnType$Kind;" (.ref r1)) (SD : Sta Z h0 "com/example/fillgauge/fillgauge/core/ColumnType$Kind" "DECIMAL" "Lcom/example/fillgauge/fillgauge/core/ColumnType$Kind;" (.ref rD)) (nD : r1 ≠ rD) :
    own_Con l Z (⟨"com/example/fillgauge/fillgauge/core/ColumnType", "<init>", "(Lcom/example/fillgauge/fillgauge/core/ColumnType$Kind;IIIZ)V"⟩ : MethodName) prog_3_method_1_code 7 none ws ({ frames := 2, cells := 0, slots := 0, locals := 24 } : Room) #[(.ref r0), (.ref r1), (.int x2), (.int (0 : Int32)), (.int (0 : Int32)), (.int (0 : Int32))] h0 n0 (own_Q_own_rm3C Z r0 r1 x2 h0 n0) := by
  refine own_body (plainFor_of_name own_pn1) ?_
  intro p e s m below meth c T0 hx hZ hby hml hown hnm hret hlk Y0
  replace hown : s.vm.findClass "com/example/fillgauge/fillgauge/core/ColumnType" = some m.cls := hown
  replace hnm : meth.name = "<init>" := hnm
  rw [own_ef_own_rm3C m r0 r1 x2]
  show own_Ends _ _ _ _ (T0.setTop (mkF m 0 #[.val (.ref r0), .val (.ref r1), .val (.int x2), .val (.int (0 : Int32)), .val (.int (0 : Int32)), .val (.int (0 : Int32)), .unset] []))
  refine own_st (fun t_ => XS.aloadN (own_here Y0) hx rfl (hb hby own_d3_0) rfl rfl) ?_
  show own_Ends _ _ _ _ (T0.setTop (mkF m 1 #[.val (.ref r0), .val (.ref r1), .val (.int x2), .val (.int (0 : Int32)), .val (.int (0 : Int32)), .val (.int (0 : Int32)), .unset] [(.ref r0)]))
  refine own_callN Y0 hx hZ (y := (⟨"java/lang/Record", "<init>", "()V"⟩ : MethodName)) rfl hown (hw _ (List.mem_of_getElem? (i := 17) rfl)) (hw _ (List.mem_of_getElem? (i := 18) rfl)) (hw _ (List.mem_of_getElem? (i := 20) rfl)) (hw _ (List.mem_of_getElem? (i := 21) rfl)) (by decide) (a := r0) (argsL := []) (rest := []) (own_rm4 l Z a0 hw [] r0  h0 n0  ) (W := 0) (by decide) (by decide) (by decide) (by decide) rfl (by rw [hml]; rfl) (lenOf own_pd0 rfl) rfl (by show 2 * 0 + _ ≤ _; exact Nat.le_of_eq rfl) (hb hby own_d3_1) (fun T4 h6 v7 Y5 q8 => ?_)
  obtain ⟨rfl, rfl⟩ := q8
  show own_Ends _ _ _ _ (T4.setTop (mkF m 4 #[.val (.ref r0), .val (.ref r1), .val (.int x2), .val (.int (0 : Int32)), .val (.int (0 : Int32)), .val (.int (0 : Int32)), .unset] []))
  refine own_st (fun t_ => XS.aloadN (own_here Y5) hx rfl (hb hby own_d3_4) rfl rfl) ?_
  show own_Ends _ _ _ _ (T4.setTop (mkF m 5 #[.val (.ref r0), .val (.ref r1), .val (.int x2), .val (.int (0 : Int32)), .val (.int (0 : Int32)), .val (.int (0 : Int32)), .unset] [(.ref r1)]))
  refine own_st (fun t_ => XS.ifnonnullYes (own_here Y5) hx rfl (pc0 := 5) (pc' := 18) rfl (hb hby own_d3_5) rfl (by decide) (by decide)) ?_
  show own_Ends _ _ _ _ (T4.setTop (mkF m 18 #[.val (.ref r0), .val (.ref r1), .val (.int x2), .val (.int (0 : Int32)), .val (.int (0 : Int32)), .val (.int (0 : Int32)), .unset] []))
  refine own_st (fun t_ => XS.iloadN (own_here Y5) hx rfl (hb hby own_d3_18) rfl) ?_
  show own_Ends _ _ _ _ (T4.setTop (mkF m 19 #[.val (.ref r0), .val (.ref r1), .val (.int x2), .val (.int (0 : Int32)), .val (.int (0 : Int32)), .val (.int (0 : Int32)), .unset] [(.int x2)]))
  refine own_st (fun t_ => XS.ifNo (own_here Y5) hx rfl (hb hby own_d3_19) rfl (XT.i0_lt_f hlo)) ?_
  show own_Ends _ _ _ _ (T4.setTop (mkF m 22 #[.val (.ref r0), .val (.ref r1), .val (.int x2), .val (.int (0 : Int32)), .val (.int (0 : Int32)), .val (.int (0 : Int32)), .unset] []))
  refine own_st (fun t_ => XS.iloadN (own_here Y5) hx rfl (hb hby own_d3_22) rfl) ?_
  show own_Ends _ _ _ _ (T4.setTop (mkF m 23 #[.val (.ref r0), .val (.ref r1), .val (.int x2), .val (.int (0 : Int32)), .val (.int (0 : Int32)), .val (.int (0 : Int32)), .unset] [(.int (0 : Int32))]))
  refine own_st (fun t_ => XS.ifNo (own_here Y5) hx rfl (hb hby own_d3_23) rfl (XT.i0_lt_f (by decide))) ?_
  show own_Ends _ _ _ _ (T4.setTop (mkF m 26 #[.val (.ref r0), .val (.ref r1), .val (.int x2), .val (.int (0 : Int32)), .val (.int (0 : Int32)), .val (.int (0 : Int32)), .unset] []))
  refine own_st (fun t_ => XS.iload (own_here Y5) hx rfl (hb hby own_d3_26) rfl) ?_
  show own_Ends _ _ _ _ (T4.setTop (mkF m 28 #[.val (.ref r0), .val (.ref r1), .val (.int x2), .val (.int (0 : Int32)), .val (.int (0 : Int32)), .val (.int (0 : Int32)), .unset] [(.int (0 : Int32))]))
  refine own_st (fun t_ => XS.ifYes (own_here Y5) hx rfl (pc0 := 28) (pc' := 46) rfl (hb hby own_d3_28) rfl (XT.i0_ge_t (by decide)) (by decide) (by decide)) ?_
  show own_Ends _ _ _ _ (T4.setTop (mkF m 46 #[.val (.ref r0), .val (.ref r1), .val (.int x2), .val (.int (0 : Int32)), .val (.int (0 : Int32)), .val (.int (0 : Int32)), .unset] []))
  refine own_st (fun t_ => XS.aloadN (own_here Y5) hx rfl (hb hby own_d3_46) rfl rfl) ?_
  show own_Ends _ _ _ _ (T4.setTop (mkF m 47 #[.val (.ref r0), .val (.ref r1), .val (.int x2), .val (.int (0 : Int32)), .val (.int (0 : Int32)), .val (.int (0 : Int32)), .unset] [(.ref r1)]))
  refine own_getS Y5 hx hZ hown (host := "") (Or.inl (hw _ (List.mem_of_getElem? (i := 11) rfl))) Via.refl SC rfl (hb hby own_d3_47) (fun T9 Y10 => ?_)
  show own_Ends _ _ _ _ (T9.setTop (mkF m 50 #[.val (.ref r0), .val (.ref r1), .val (.int x2), .val (.int (0 : Int32)), .val (.int (0 : Int32)), .val (.int (0 : Int32)), .unset] [(.ref r1), (.ref r1)]))
  refine own_st (fun t_ => XT.acmpYes (own_here Y10) hx rfl (pc0 := 50) (pc' := 60) rfl (hb hby own_d3_50) rfl rfl rfl (XT.aa_eq_t rfl) (by decide) (by decide)) ?_
  show own_Ends _ _ _ _ (T9.setTop (mkF m 60 #[.val (.ref r0), .val (.ref r1), .val (.int x2), .val (.int (0 : Int32)), .val (.int (0 : Int32)), .val (.int (0 : Int32)), .unset] []))
  refine own_st (fun t_ => XS.iconst (own_here Y10) hx rfl (hb hby own_d3_60) ) ?_
  show own_Ends _ _ _ _ (T9.setTop (mkF m 61 #[.val (.ref r0), .val (.ref r1), .val (.int x2), .val (.int (0 : Int32)), .val (.int (0 : Int32)), .val (.int (0 : Int32)), .unset] [(.int (1 : Int32))]))
  refine own_st (fun t_ => XS.goto (own_here Y10) hx rfl (pc0 := 61) (pc' := 65) rfl (hb hby own_d3_61) (by decide) (by decide)) ?_
  show own_Ends _ _ _ _ (T9.setTop (mkF m 65 #[.val (.ref r0), .val (.ref r1), .val (.int x2), .val (.int (0 : Int32)), .val (.int (0 : Int32)), .val (.int (0 : Int32)), .unset] [(.int (1 : Int32))]))
  refine own_st (fun t_ => XS.istore (own_here Y10) hx rfl (hb hby own_d3_65) rfl (l' := #[.val (.ref r0), .val (.ref r1), .val (.int x2), .val (.int (0 : Int32)), .val (.int (0 : Int32)), .val (.int (0 : Int32)), .val (.int (1 : Int32))]) rfl) ?_
  show own_Ends _ _ _ _ (T9.setTop (mkF m 67 #[.val (.ref r0), .val (.ref r1), .val (.int x2), .val (.int (0 : Int32)), .val (.int (0 : Int32)), .val (.int (0 : Int32)), .val (.int (1 : Int32))] []))
  refine own_st (fun t_ => XS.iload (own_here Y10) hx rfl (hb hby own_d3_67) rfl) ?_
  show own_Ends _ _ _ _ (T9.setTop (mkF m 69 #[.val (.ref r0), .val (.ref r1), .val (.int x2), .val (.int (0 : Int32)), .val (.int (0 : Int32)), .val (.int (0 : Int32)), .val (.int (1 : Int32))] [(.int (1 : Int32))]))
  refine own_st (fun t_ => XS.ifYes (own_here Y10) hx rfl (pc0 := 69) (pc' := 93) rfl (hb hby own_d3_69) rfl (XT.i0_ne_t (by decide)) (by decide) (by decide)) ?_
  show own_Ends _ _ _ _ (T9.setTop (mkF m 93 #[.val (.ref r0), .val (.ref r1), .val (.int x2), .val (.int (0 : Int32)), .val (.int (0 : Int32)), .val (.int (0 : Int32)), .val (.int (1 : Int32))] []))
  refine own_st (fun t_ => XS.aloadN (own_here Y10) hx rfl (hb hby own_d3_93) rfl rfl) ?_
  show own_Ends _ _ _ _ (T9.setTop (mkF m 94 #[.val (.ref r0), .val (.ref r1), .val (.int x2), .val (.int (0 : Int32)), .val (.int (0 : Int32)), .val (.int (0 : Int32)), .val (.int (1 : Int32))] [(.ref r1)]))
  refine own_getS Y10 hx hZ hown (host := "") (Or.inl (hw _ (List.mem_of_getElem? (i := 11) rfl))) Via.refl SC rfl (hb hby own_d3_94) (fun T11 Y12 => ?_)
  show own_Ends _ _ _ _ (T11.setTop (mkF m 97 #[.val (.ref r0), .val (.ref r1), .val (.int x2), .val (.int (0 : Int32)), .val (.int (0 : Int32)), .val (.int (0 : Int32)), .val (.int (1 : Int32))] [(.ref r1), (.ref r1)]))
  refine own_st (fun t_ => XT.acmpNo (own_here Y12) hx rfl (hb hby own_d3_97) rfl rfl rfl (XT.aa_ne_f rfl)) ?_
  show own_Ends _ _ _ _ (T11.setTop (mkF m 100 #[.val (.ref r0), .val (.ref r1), .val (.int x2), .val (.int (0 : Int32)), .val (.int (0 : Int32)), .val (.int (0 : Int32)), .val (.int (1 : Int32))] []))
  refine own_st (fun t_ => XS.iloadN (own_here Y12) hx rfl (hb hby own_d3_100) rfl) ?_
  show own_Ends _ _ _ _ (T11.setTop (mkF m 101 #[.val (.ref r0), .val (.ref r1), .val (.int x2), .val (.int (0 : Int32)), .val (.int (0 : Int32)), .val (.int (0 : Int32)), .val (.int (1 : Int32))] [(.int x2)]))
  refine own_st (fun t_ => XS.ifYes (own_here Y12) hx rfl (pc0 := 101) (pc' := 114) rfl (hb hby own_d3_101) rfl (XT.i0_ne_t hnz) (by decide) (by decide)) ?_
  show own_Ends _ _ _ _ (T11.setTop (mkF m 114 #[.val (.ref r0), .val (.ref r1), .val (.int x2), .val (.int (0 : Int32)), .val (.int (0 : Int32)), .val (.int (0 : Int32)), .val (.int (1 : Int32))] []))
  refine own_st (fun t_ => XS.aloadN (own_here Y12) hx rfl (hb hby own_d3_114) rfl rfl) ?_
  show own_Ends _ _ _ _ (T11.setTop (mkF m 115 #[.val (.ref r0), .val (.ref r1), .val (.int x2), .val (.int (0 : Int32)), .val (.int (0 : Int32)), .val (.int (0 : Int32)), .val (.int (1 : Int32))] [(.ref r1)]))
  refine own_getS Y12 hx hZ hown (host := "") (Or.inl (hw _ (List.mem_of_getElem? (i := 25) rfl))) Via.refl SD rfl (hb hby own_d3_115) (fun T13 Y14 => ?_)
  show own_Ends _ _ _ _ (T13.setTop (mkF m 118 #[.val (.ref r0), .val (.ref r1), .val (.int x2), .val (.int (0 : Int32)), .val (.int (0 : Int32)), .val (.int (0 : Int32)), .val (.int (1 : Int32))] [(.ref rD), (.ref r1)]))
  refine own_st (fun t_ => XT.acmpNo (own_here Y14) hx rfl (hb hby own_d3_118) rfl rfl rfl (XT.aa_eq_f (fun q => nD (Value.ref.inj q)))) ?_
  show own_Ends _ _ _ _ (T13.setTop (mkF m 121 #[.val (.ref r0), .val (.ref r1), .val (.int x2), .val (.int (0 : Int32)), .val (.int (0 : Int32)), .val (.int (0 : Int32)), .val (.int (1 : Int32))] []))
  refine own_st (fun t_ => XS.iloadN (own_here Y14) hx rfl (hb hby own_d3_121) rfl) ?_
  show own_Ends _ _ _ _ (T13.setTop (mkF m 122 #[.val (.ref r0), .val (.ref r1), .val (.int x2), .val (.int (0 : Int32)), .val (.int (0 : Int32)), .val (.int (0 : Int32)), .val (.int (1 : Int32))] [(.int (0 : Int32))]))
  refine own_st (fun t_ => XS.ifNo (own_here Y14) hx rfl (hb hby own_d3_122) rfl (XT.i0_ne_f (by decide))) ?_
  show own_Ends _ _ _ _ (T13.setTop (mkF m 125 #[.val (.ref r0), .val (.ref r1), .val (.int x2), .val (.int (0 : Int32)), .val (.int (0 : Int32)), .val (.int (0 : Int32)), .val (.int (1 : Int32))] []))
  refine own_st (fun t_ => XS.iload (own_here Y14) hx rfl (hb hby own_d3_125) rfl) ?_
  show own_Ends _ _ _ _ (T13.setTop (mkF m 127 #[.val (.ref r0), .val (.ref r1), .val (.int x2), .val (.int (0 : Int32)), .val (.int (0 : Int32)), .val (.int (0 : Int32)), .val (.int (1 : Int32))] [(.int (0 : Int32))]))
  refine own_st (fun t_ => XS.ifYes (own_here Y14) hx rfl (pc0 := 127) (pc' := 147) rfl (hb hby own_d3_127) rfl (XT.i0_eq_t (by decide)) (by decide) (by decide)) ?_
  show own_Ends _ _ _ _ (T13.setTop (mkF m 147 #[.val (.ref r0), .val (.ref r1), .val (.int x2), .val (.int (0 : Int32)), .val (.int (0 : Int32)), .val (.int (0 : Int32)), .val (.int (1 : Int32))] []))
  refine own_st (fun t_ => XS.iloadN (own_here Y14) hx rfl (hb hby own_d3_147) rfl) ?_
  show own_Ends _ _ _ _ (T13.setTop (mkF m 148 #[.val (.ref r0), .val (.ref r1), .val (.int x2), .val (.int (0 : Int32)), .val (.int (0 : Int32)), .val (.int (0 : Int32)), .val (.int (1 : Int32))] [(.int (0 : Int32))]))
  refine own_st (fun t_ => XS.ifYes (own_here Y14) hx rfl (pc0 := 148) (pc' := 173) rfl (hb hby own_d3_148) rfl (XT.i0_eq_t (by decide)) (by decide) (by decide)) ?_
  show own_Ends _ _ _ _ (T13.setTop (mkF m 173 #[.val (.ref r0), .val (.ref r1), .val (.int x2), .val (.int (0 : Int32)), .val (.int (0 : Int32)), .val (.int (0 : Int32)), .val (.int (1 : Int32))] []))
  refine own_st (fun t_ => XS.iload (own_here Y14) hx rfl (hb hby own_d3_173) rfl) ?_
  show own_Ends _ _ _ _ (T13.setTop (mkF m 175 #[.val (.ref r0), .val (.ref r1), .val (.int x2), .val (.int (0 : Int32)), .val (.int (0 : Int32)), .val (.int (0 : Int32)), .val (.int (1 : Int32))] [(.int (0 : Int32))]))
  refine own_st (fun t_ => XS.ifYes (own_here Y14) hx rfl (pc0 := 175) (pc' := 202) rfl (hb hby own_d3_175) rfl (XT.i0_eq_t (by decide)) (by decide) (by decide)) ?_
  show own_Ends _ _ _ _ (T13.setTop (mkF m 202 #[.val (.ref r0), .val (.ref r1), .val (.int x2), .val (.int (0 : Int32)), .val (.int (0 : Int32)), .val (.int (0 : Int32)), .val (.int (1 : Int32))] []))
  refine own_st (fun t_ => XS.aloadN (own_here Y14) hx rfl (hb hby own_d3_202) rfl rfl) ?_
  show own_Ends _ _ _ _ (T13.setTop (mkF m 203 #[.val (.ref r0), .val (.ref r1), .val (.int x2), .val (.int (0 : Int32)), .val (.int (0 : Int32)), .val (.int (0 : Int32)), .val (.int (1 : Int32))] [(.ref r0)]))
  refine own_st (fun t_ => XS.aloadN (own_here Y14) hx rfl (hb hby own_d3_203) rfl rfl) ?_
  show own_Ends _ _ _ _ (T13.setTop (mkF m 204 #[.val (.ref r0), .val (.ref r1), .val (.int x2), .val (.int (0 : Int32)), .val (.int (0 : Int32)), .val (.int (0 : Int32)), .val (.int (1 : Int32))] [(.ref r1), (.ref r0)]))
  refine own_putF Y14 hx hZ hown (host := "") (Or.inl (hw _ (List.mem_of_getElem? (i := 27) rfl))) Via.refl Fkind E (Or.inr ⟨(hw _ (List.mem_of_getElem? (i := 28) rfl)), rfl, hnm⟩) (hw _ (List.mem_of_getElem? (i := 10) rfl)) g (ty := (.object "com/example/fillgauge/fillgauge/core/ColumnType$Kind")) (by decide) rfl rfl rfl rfl (hb hby own_d3_204) (fun T15 h17 Y16 W18 F19 => ?_)
  show own_Ends _ _ _ _ (T15.setTop (mkF m 207 #[.val (.ref r0), .val (.ref r1), .val (.int x2), .val (.int (0 : Int32)), .val (.int (0 : Int32)), .val (.int (0 : Int32)), .val (.int (1 : Int32))] []))
  refine own_st (fun t_ => XS.aloadN (own_here Y16) hx rfl (hb hby own_d3_207) rfl rfl) ?_
  show own_Ends _ _ _ _ (T15.setTop (mkF m 208 #[.val (.ref r0), .val (.ref r1), .val (.int x2), .val (.int (0 : Int32)), .val (.int (0 : Int32)), .val (.int (0 : Int32)), .val (.int (1 : Int32))] [(.ref r0)]))
  refine own_st (fun t_ => XS.iloadN (own_here Y16) hx rfl (hb hby own_d3_208) rfl) ?_
  show own_Ends _ _ _ _ (T15.setTop (mkF m 209 #[.val (.ref r0), .val (.ref r1), .val (.int x2), .val (.int (0 : Int32)), .val (.int (0 : Int32)), .val (.int (0 : Int32)), .val (.int (1 : Int32))] [(.int x2), (.ref r0)]))
  have f20 : Exa Z h17 r0 "com/example/fillgauge/fillgauge/core/ColumnType" := E.wr W18
  have f21 : Fld Z h17 r0 "com/example/fillgauge/fillgauge/core/ColumnType" "length" "I" (.int (0 : Int32)) := Flength.other W18 (Or.inr (slot_ne (Or.inr (hw _ (List.mem_of_getElem? (i := 30) rfl))) (Or.inr (hw _ (List.mem_of_getElem? (i := 28) rfl))) (by decide) (t := .int) (t' := (.object "com/example/fillgauge/fillgauge/core/ColumnType$Kind")) (by decide) (by decide)))
  refine own_putF Y16 hx hZ hown (host := "") (Or.inl (hw _ (List.mem_of_getElem? (i := 29) rfl))) Via.refl f21 f20 (Or.inr ⟨(hw _ (List.mem_of_getElem? (i := 30) rfl)), rfl, hnm⟩) (hw _ (List.mem_of_getElem? (i := 10) rfl)) g (ty := .int) (by decide) rfl rfl rfl rfl (hb hby own_d3_209) (fun T22 h24 Y23 W25 F26 => ?_)
  show own_Ends _ _ _ _ (T22.setTop (mkF m 212 #[.val (.ref r0), .val (.ref r1), .val (.int x2), .val (.int (0 : Int32)), .val (.int (0 : Int32)), .val (.int (0 : Int32)), .val (.int (1 : Int32))] []))
  refine own_st (fun t_ => XS.aloadN (own_here Y23) hx rfl (hb hby own_d3_212) rfl rfl) ?_
  show own_Ends _ _ _ _ (T22.setTop (mkF m 213 #[.val (.ref r0), .val (.ref r1), .val (.int x2), .val (.int (0 : Int32)), .val (.int (0 : Int32)), .val (.int (0 : Int32)), .val (.int (1 : Int32))] [(.ref r0)]))
  refine own_st (fun t_ => XS.iloadN (own_here Y23) hx rfl (hb hby own_d3_213) rfl) ?_
  show own_Ends _ _ _ _ (T22.setTop (mkF m 214 #[.val (.ref r0), .val (.ref r1), .val (.int x2), .val (.int (0 : Int32)), .val (.int (0 : Int32)), .val (.int (0 : Int32)), .val (.int (1 : Int32))] [(.int (0 : Int32)), (.ref r0)]))
  have f27 : Exa Z h24 r0 "com/example/fillgauge/fillgauge/core/ColumnType" := f20.wr W25
  have f28 : Fld Z h17 r0 "com/example/fillgauge/fillgauge/core/ColumnType" "precision" "I" (.int (0 : Int32)) := Fprecision.other W18 (Or.inr (slot_ne (Or.inr (hw _ (List.mem_of_getElem? (i := 32) rfl))) (Or.inr (hw _ (List.mem_of_getElem? (i := 28) rfl))) (by decide) (t := .int) (t' := (.object "com/example/fillgauge/fillgauge/core/ColumnType$Kind")) (by decide) (by decide)))
  have f29 : Fld Z h24 r0 "com/example/fillgauge/fillgauge/core/ColumnType" "precision" "I" (.int (0 : Int32)) := f28.other W25 (Or.inr (slot_ne (Or.inr (hw _ (List.mem_of_getElem? (i := 32) rfl))) (Or.inr (hw _ (List.mem_of_getElem? (i := 30) rfl))) (by decide) (t := .int) (t' := .int) (by decide) (by decide)))
  refine own_putF Y23 hx hZ hown (host := "") (Or.inl (hw _ (List.mem_of_getElem? (i := 31) rfl))) Via.refl f29 f27 (Or.inr ⟨(hw _ (List.mem_of_getElem? (i := 32) rfl)), rfl, hnm⟩) (hw _ (List.mem_of_getElem? (i := 10) rfl)) g (ty := .int) (by decide) rfl rfl rfl rfl (hb hby own_d3_214) (fun T30 h32 Y31 W33 F34 => ?_)
  show own_Ends _ _ _ _ (T30.setTop (mkF m 217 #[.val (.ref r0), .val (.ref r1), .val (.int x2), .val (.int (0 : Int32)), .val (.int (0 : Int32)), .val (.int (0 : Int32)), .val (.int (1 : Int32))] []))
  refine own_st (fun t_ => XS.aloadN (own_here Y31) hx rfl (hb hby own_d3_217) rfl rfl) ?_
  show own_Ends _ _ _ _ (T30.setTop (mkF m 218 #[.val (.ref r0), .val (.ref r1), .val (.int x2), .val (.int (0 : Int32)), .val (.int (0 : Int32)), .val (.int (0 : Int32)), .val (.int (1 : Int32))] [(.ref r0)]))
  refine own_st (fun t_ => XS.iload (own_here Y31) hx rfl (hb hby own_d3_218) rfl) ?_
  show own_Ends _ _ _ _ (T30.setTop (mkF m 220 #[.val (.ref r0), .val (.ref r1), .val (.int x2), .val (.int (0 : Int32)), .val (.int (0 : Int32)), .val (.int (0 : Int32)), .val (.int (1 : Int32))] [(.int (0 : Int32)), (.ref r0)]))
  have f35 : Exa Z h32 r0 "com/example/fillgauge/fillgauge/core/ColumnType" := f27.wr W33
  have f36 : Fld Z h17 r0 "com/example/fillgauge/fillgauge/core/ColumnType" "scale" "I" (.int (0 : Int32)) := Fscale.other W18 (Or.inr (slot_ne (Or.inr (hw _ (List.mem_of_getElem? (i := 34) rfl))) (Or.inr (hw _ (List.mem_of_getElem? (i := 28) rfl))) (by decide) (t := .int) (t' := (.object "com/example/fillgauge/fillgauge/core/ColumnType$Kind")) (by decide) (by decide)))
  have f37 : Fld Z h24 r0 "com/example/fillgauge/fillgauge/core/ColumnType" "scale" "I" (.int (0 : Int32)) := f36.other W25 (Or.inr (slot_ne (Or.inr (hw _ (List.mem_of_getElem? (i := 34) rfl))) (Or.inr (hw _ (List.mem_of_getElem? (i := 30) rfl))) (by decide) (t := .int) (t' := .int) (by decide) (by decide)))
  have f38 : Fld Z h32 r0 "com/example/fillgauge/fillgauge/core/ColumnType" "scale" "I" (.int (0 : Int32)) := f37.other W33 (Or.inr (slot_ne (Or.inr (hw _ (List.mem_of_getElem? (i := 34) rfl))) (Or.inr (hw _ (List.mem_of_getElem? (i := 32) rfl))) (by decide) (t := .int) (t' := .int) (by decide) (by decide)))
  refine own_putF Y31 hx hZ hown (host := "") (Or.inl (hw _ (List.mem_of_getElem? (i := 33) rfl))) Via.refl f38 f35 (Or.inr ⟨(hw _ (List.mem_of_getElem? (i := 34) rfl)), rfl, hnm⟩) (hw _ (List.mem_of_getElem? (i := 10) rfl)) g (ty := .int) (by decide) rfl rfl rfl rfl (hb hby own_d3_220) (fun T39 h41 Y40 W42 F43 => ?_)
  show own_Ends _ _ _ _ (T39.setTop (mkF m 223 #[.val (.ref r0), .val (.ref r1), .val (.int x2), .val (.int (0 : Int32)), .val (.int (0 : Int32)), .val (.int (0 : Int32)), .val (.int (1 : Int32))] []))
  refine own_st (fun t_ => XS.aloadN (own_here Y40) hx rfl (hb hby own_d3_223) rfl rfl) ?_
  show own_Ends _ _ _ _ (T39.setTop (mkF m 224 #[.val (.ref r0), .val (.ref r1), .val (.int x2), .val (.int (0 : Int32)), .val (.int (0 : Int32)), .val (.int (0 : Int32)), .val (.int (1 : Int32))] [(.ref r0)]))
  refine own_st (fun t_ => XS.iload (own_here Y40) hx rfl (hb hby own_d3_224) rfl) ?_
  show own_Ends _ _ _ _ (T39.setTop (mkF m 226 #[.val (.ref r0), .val (.ref r1), .val (.int x2), .val (.int (0 : Int32)), .val (.int (0 : Int32)), .val (.int (0 : Int32)), .val (.int (1 : Int32))] [(.int (0 : Int32)), (.ref r0)]))
  have f44 : Exa Z h41 r0 "com/example/fillgauge/fillgauge/core/ColumnType" := f35.wr W42
  have f45 : Fld Z h17 r0 "com/example/fillgauge/fillgauge/core/ColumnType" "withTimeZone" "Z" (.int (0 : Int32)) := FwithTimeZone.other W18 (Or.inr (slot_ne (Or.inr (hw _ (List.mem_of_getElem? (i := 36) rfl))) (Or.inr (hw _ (List.mem_of_getElem? (i := 28) rfl))) (by decide) (t := .boolean) (t' := (.object "com/example/fillgauge/fillgauge/core/ColumnType$Kind")) (by decide) (by decide)))
  have f46 : Fld Z h24 r0 "com/example/fillgauge/fillgauge/core/ColumnType" "withTimeZone" "Z" (.int (0 : Int32)) := f45.other W25 (Or.inr (slot_ne (Or.inr (hw _ (List.mem_of_getElem? (i := 36) rfl))) (Or.inr (hw _ (List.mem_of_getElem? (i := 30) rfl))) (by decide) (t := .boolean) (t' := .int) (by decide) (by decide)))
  have f47 : Fld Z h32 r0 "com/example/fillgauge/fillgauge/core/ColumnType" "withTimeZone" "Z" (.int (0 : Int32)) := f46.other W33 (Or.inr (slot_ne (Or.inr (hw _ (List.mem_of_getElem? (i := 36) rfl))) (Or.inr (hw _ (List.mem_of_getElem? (i := 32) rfl))) (by decide) (t := .boolean) (t' := .int) (by decide) (by decide)))
  have f48 : Fld Z h41 r0 "com/example/fillgauge/fillgauge/core/ColumnType" "withTimeZone" "Z" (.int (0 : Int32)) := f47.other W42 (Or.inr (slot_ne (Or.inr (hw _ (List.mem_of_getElem? (i := 36) rfl))) (Or.inr (hw _ (List.mem_of_getElem? (i := 34) rfl))) (by decide) (t := .boolean) (t' := .int) (by decide) (by decide)))
  refine own_putFN Y40 hx hZ hown (hw _ (List.mem_of_getElem? (i := 35) rfl)) Via.refl f48 f44 (Or.inr ⟨(hw _ (List.mem_of_getElem? (i := 36) rfl)), rfl, hnm⟩) (hw _ (List.mem_of_getElem? (i := 10) rfl)) g (ty := .boolean) (v' := (.int ((0 : Int32) &&& 1))) (by decide) rfl (fits_nar_bool _) rfl rfl (hb hby own_d3_226) (fun T49 h51 Y50 W52 F53 => ?_)
  show own_Ends _ _ _ _ (T49.setTop (mkF m 229 #[.val (.ref r0), .val (.ref r1), .val (.int x2), .val (.int (0 : Int32)), .val (.int (0 : Int32)), .val (.int (0 : Int32)), .val (.int (1 : Int32))] []))
  have K54 : Keep h0 h17 [r0] := (Keep.refl h0 [r0]).wr W18 (Or.inl (List.mem_of_getElem? (i := 0) rfl))
  have K55 : Keep h0 h24 [r0] := K54.wr W25 (Or.inl (List.mem_of_getElem? (i := 0) rfl))
  have K56 : Keep h0 h32 [r0] := K55.wr W33 (Or.inl (List.mem_of_getElem? (i := 0) rfl))
  have K57 : Keep h0 h41 [r0] := K56.wr W42 (Or.inl (List.mem_of_getElem? (i := 0) rfl))
  have K58 : Keep h0 h51 [r0] := K57.wr W52 (Or.inl (List.mem_of_getElem? (i := 0) rfl))
  have f59 : Fld Z h32 r0 "com/example/fillgauge/fillgauge/core/ColumnType" "length" "I" (.int x2) := F26.other W33 (Or.inr (slot_ne (Or.inr (hw _ (List.mem_of_getElem? (i := 30) rfl))) (Or.inr (hw _ (List.mem_of_getElem? (i := 32) rfl))) (by decide) (t := .int) (t' := .int) (by decide) (by decide)))
  have f60 : Fld Z h41 r0 "com/example/fillgauge/fillgauge/core/ColumnType" "length" "I" (.int x2) := f59.other W42 (Or.inr (slot_ne (Or.inr (hw _ (List.mem_of_getElem? (i := 30) rfl))) (Or.inr (hw _ (List.mem_of_getElem? (i := 34) rfl))) (by decide) (t := .int) (t' := .int) (by decide) (by decide)))
  have f61 : Fld Z h51 r0 "com/example/fillgauge/fillgauge/core/ColumnType" "length" "I" (.int x2) := f60.other W52 (Or.inr (slot_ne (Or.inr (hw _ (List.mem_of_getElem? (i := 30) rfl))) (Or.inr (hw _ (List.mem_of_getElem? (i := 36) rfl))) (by decide) (t := .int) (t' := .boolean) (by decide) (by decide)))
  refine own_retV Y50 hx hlk hret (hb hby own_d3_229) (by decide) (by decide) ?_
  exact ⟨rfl, K58, f61⟩
theorem own_d3_53 : decode prog_3_method_1_code 53 = .ok (.aload_n 1, 1) := by decide +kernel
theorem own_d3_54 : decode prog_3_method_1_code 54 = .ok (.getstatic 24, 3) := by decide +kernel
theorem own_d3_57 : decode prog_3_method_1_code 57 = .ok (.if_acmp .ne 7, 3) := by decide +kernel
theorem own_ef_own_rm3V (m : MethodId) (r0 : Addr) (r1 : Addr) (x2 : Int32) : entryFrame m #[(.ref r0), (.ref r1), (.int x2), (.int (0 : Int32)), (.int (0 : Int32)), (.int (0 : Int32))] 7 = mkF m 0 #[.val (.ref r0), .val (.ref r1), .val (.int x2), .val (.int (0 : Int32)), .val (.int (0 : Int32)), .val (.int (0 : Int32)), .unset] [] := by first | (simp [entryFrame, mkF, argsToLocals, Value.category]; done) | rfl
def own_Q_own_rm3V (Z : State) (r0 : Addr) (r1 : Addr) (x2 : Int32) (h0 : Heap) (n0 : Nat) (v : Option Value) (h : Heap) : Prop := v = none ∧ Keep h0 h [r0] ∧ Fld Z h r0 "com/example/fillgauge/fillgauge/core/ColumnType" "length" "I" (.int x2)
set_option maxRecDepth 65536 in
set_option maxHeartbeats 40000000 in
theorem own_rm3V (l : Launch) (Z : State) (a0 : Array Value) (hw : ∀ d ∈ tables_1, d.before a0 Z = true) (ws : List Jvm.Cond) (r0 : Addr) (r1 : Addr) (x2 : Int32) (rC rD : Addr) (h0 : Heap) (n0 : Nat)  (E : Exa Z h0 r0 "com/example/fillgauge/fillgauge/core/ColumnType") (Fkind : Fld Z h0 r0 "com/example/fillgauge/fillgauge/core/ColumnType" "kind" "Lcom/example/fillgauge/fillgauge/core/ColumnType$Kind;" .null) (Flength : Fld Z h0 r0 "com/example/fillgauge/fillgauge/core/ColumnType" "length" "I" (.int (0 : Int32))) (Fprecision : Fld Z h0 r0 "com/example/fillgauge/fillgauge/core/ColumnType" "precision" "I" (.int (0 : Int32))) (Fscale : Fld Z h0 r0 "com/example/fillgauge/fillgauge/core/ColumnType" "scale" "I" (.int (0 : Int32))) (FwithTimeZone : Fld Z h0 r0 "com/example/fillgauge/fillgauge/core/ColumnType" "withTimeZone" "Z" (.int (0 : Int32))) (g : n0 ≤ r0) (hlo : ¬ x2 < 0) (SC : Sta Z h0 "com/example/fillgauge/fillgauge/core/ColumnType$Kind" "CHAR" "Lcom/example/fillgauge/fillgauge/core/ColumnType$Kind;" (.ref rC)) (SV : Sta Z h0 "com/example/fillgauge/fillgauge/core/ColumnType$Kind" "VARCHAR" "Lcom/example/fillgauge/fillgauge/core/ColumnType$Kind;" (.ref r1)) (SD : Sta Z h0 "com/example/fillgauge/fillgauge/core/ColumnType$Kind" "DECIMAL" "Lcom/example/fillgauge/fillgauge/core/ColumnType$Kind;" (.ref rD)) (nC : r1 ≠ rC) (nD : r1 ≠ rD) :
    own_Con l Z (⟨"com/example/fillgauge/fillgauge/core/ColumnType", "<init>", "(Lcom/example/fillgauge/fillgauge/core/ColumnType$Kind;IIIZ)V"⟩ : MethodName) prog_3_method_1_code 7 none ws ({ frames := 2, cells := 0, slots := 0, locals := 24 } : Room) #[(.ref r0), (.ref r1), (.int x2), (.int (0 : Int32)), (.int (0 : Int32)), (.int (0 : Int32))] h0 n0 (own_Q_own_rm3V Z r0 r1 x2 h0 n0) := by
  refine own_body (plainFor_of_name own_pn1) ?_
  intro p e s m below meth c T0 hx hZ hby hml hown hnm hret hlk Y0
  replace hown : s.vm.findClass "com/example/fillgauge/fillgauge/core/ColumnType" = some m.cls := hown
  replace hnm : meth.name = "<init>" := hnm
  rw [own_ef_own_rm3V m r0 r1 x2]
  show own_Ends _ _ _ _ (T0.setTop (mkF m 0 #[.val (.ref r0), .val (.ref r1), .val (.int x2), .val (.int (0 : Int32)), .val (.int (0 : Int32)), .val (.int (0 : Int32)), .unset] []))
  refine own_st (fun t_ => XS.aloadN (own_here Y0) hx rfl (hb hby own_d3_0) rfl rfl) ?_
  show own_Ends _ _ _ _ (T0.setTop (mkF m 1 #[.val (.ref r0), .val (.ref r1), .val (.int x2), .val (.int (0 : Int32)), .val (.int (0 : Int32)), .val (.int (0 : Int32)), .unset] [(.ref r0)]))
  refine own_callN Y0 hx hZ (y := (⟨"java/lang/Record", "<init>", "()V"⟩ : MethodName)) rfl hown (hw _ (List.mem_of_getElem? (i := 17) rfl)) (hw _ (List.mem_of_getElem? (i := 18) rfl)) (hw _ (List.mem_of_getElem? (i := 20) rfl)) (hw _ (List.mem_of_getElem? (i := 21) rfl)) (by decide) (a := r0) (argsL := []) (rest := []) (own_rm4 l Z a0 hw [] r0  h0 n0  ) (W := 0) (by decide) (by decide) (by decide) (by decide) rfl (by rw [hml]; rfl) (lenOf own_pd0 rfl) rfl (by show 2 * 0 + _ ≤ _; exact Nat.le_of_eq rfl) (hb hby own_d3_1) (fun T62 h64 v65 Y63 q66 => ?_)
  obtain ⟨rfl, rfl⟩ := q66
  show own_Ends _ _ _ _ (T62.setTop (mkF m 4 #[.val (.ref r0), .val (.ref r1), .val (.int x2), .val (.int (0 : Int32)), .val (.int (0 : Int32)), .val (.int (0 : Int32)), .unset] []))
  refine own_st (fun t_ => XS.aloadN (own_here Y63) hx rfl (hb hby own_d3_4) rfl rfl) ?_
  show own_Ends _ _ _ _ (T62.setTop (mkF m 5 #[.val (.ref r0), .val (.ref r1), .val (.int x2), .val (.int (0 : Int32)), .val (.int (0 : Int32)), .val (.int (0 : Int32)), .unset] [(.ref r1)]))
  refine own_st (fun t_ => XS.ifnonnullYes (own_here Y63) hx rfl (pc0 := 5) (pc' := 18) rfl (hb hby own_d3_5) rfl (by decide) (by decide)) ?_
  show own_Ends _ _ _ _ (T62.setTop (mkF m 18 #[.val (.ref r0), .val (.ref r1), .val (.int x2), .val (.int (0 : Int32)), .val (.int (0 : Int32)), .val (.int (0 : Int32)), .unset] []))
  refine own_st (fun t_ => XS.iloadN (own_here Y63) hx rfl (hb hby own_d3_18) rfl) ?_
  show own_Ends _ _ _ _ (T62.setTop (mkF m 19 #[.val (.ref r0), .val (.ref r1), .val (.int x2), .val (.int (0 : Int32)), .val (.int (0 : Int32)), .val (.int (0 : Int32)), .unset] [(.int x2)]))
  refine own_st (fun t_ => XS.ifNo (own_here Y63) hx rfl (hb hby own_d3_19) rfl (XT.i0_lt_f hlo)) ?_
  show own_Ends _ _ _ _ (T62.setTop (mkF m 22 #[.val (.ref r0), .val (.ref r1), .val (.int x2), .val (.int (0 : Int32)), .val (.int (0 : Int32)), .val (.int (0 : Int32)), .unset] []))
  refine own_st (fun t_ => XS.iloadN (own_here Y63) hx rfl (hb hby own_d3_22) rfl) ?_
  show own_Ends _ _ _ _ (T62.setTop (mkF m 23 #[.val (.ref r0), .val (.ref r1), .val (.int x2), .val (.int (0 : Int32)), .val (.int (0 : Int32)), .val (.int (0 : Int32)), .unset] [(.int (0 : Int32))]))
  refine own_st (fun t_ => XS.ifNo (own_here Y63) hx rfl (hb hby own_d3_23) rfl (XT.i0_lt_f (by decide))) ?_
  show own_Ends _ _ _ _ (T62.setTop (mkF m 26 #[.val (.ref r0), .val (.ref r1), .val (.int x2), .val (.int (0 : Int32)), .val (.int (0 : Int32)), .val (.int (0 : Int32)), .unset] []))
  refine own_st (fun t_ => XS.iload (own_here Y63) hx rfl (hb hby own_d3_26) rfl) ?_
  show own_Ends _ _ _ _ (T62.setTop (mkF m 28 #[.val (.ref r0), .val (.ref r1), .val (.int x2), .val (.int (0 : Int32)), .val (.int (0 : Int32)), .val (.int (0 : Int32)), .unset] [(.int (0 : Int32))]))
  refine own_st (fun t_ => XS.ifYes (own_here Y63) hx rfl (pc0 := 28) (pc' := 46) rfl (hb hby own_d3_28) rfl (XT.i0_ge_t (by decide)) (by decide) (by decide)) ?_
  show own_Ends _ _ _ _ (T62.setTop (mkF m 46 #[.val (.ref r0), .val (.ref r1), .val (.int x2), .val (.int (0 : Int32)), .val (.int (0 : Int32)), .val (.int (0 : Int32)), .unset] []))
  refine own_st (fun t_ => XS.aloadN (own_here Y63) hx rfl (hb hby own_d3_46) rfl rfl) ?_
  show own_Ends _ _ _ _ (T62.setTop (mkF m 47 #[.val (.ref r0), .val (.ref r1), .val (.int x2), .val (.int (0 : Int32)), .val (.int (0 : Int32)), .val (.int (0 : Int32)), .unset] [(.ref r1)]))
  refine own_getS Y63 hx hZ hown (host := "") (Or.inl (hw _ (List.mem_of_getElem? (i := 11) rfl))) Via.refl SC rfl (hb hby own_d3_47) (fun T67 Y68 => ?_)
  show own_Ends _ _ _ _ (T67.setTop (mkF m 50 #[.val (.ref r0), .val (.ref r1), .val (.int x2), .val (.int (0 : Int32)), .val (.int (0 : Int32)), .val (.int (0 : Int32)), .unset] [(.ref rC), (.ref r1)]))
  refine own_st (fun t_ => XT.acmpNo (own_here Y68) hx rfl (hb hby own_d3_50) rfl rfl rfl (XT.aa_eq_f (fun q => nC (Value.ref.inj q)))) ?_
  show own_Ends _ _ _ _ (T67.setTop (mkF m 53 #[.val (.ref r0), .val (.ref r1), .val (.int x2), .val (.int (0 : Int32)), .val (.int (0 : Int32)), .val (.int (0 : Int32)), .unset] []))
  refine own_st (fun t_ => XS.aloadN (own_here Y68) hx rfl (hb hby own_d3_53) rfl rfl) ?_
  show own_Ends _ _ _ _ (T67.setTop (mkF m 54 #[.val (.ref r0), .val (.ref r1), .val (.int x2), .val (.int (0 : Int32)), .val (.int (0 : Int32)), .val (.int (0 : Int32)), .unset] [(.ref r1)]))
  refine own_getS Y68 hx hZ hown (host := "") (Or.inl (hw _ (List.mem_of_getElem? (i := 49) rfl))) Via.refl SV rfl (hb hby own_d3_54) (fun T69 Y70 => ?_)
  show own_Ends _ _ _ _ (T69.setTop (mkF m 57 #[.val (.ref r0), .val (.ref r1), .val (.int x2), .val (.int (0 : Int32)), .val (.int (0 : Int32)), .val (.int (0 : Int32)), .unset] [(.ref r1), (.ref r1)]))
  refine own_st (fun t_ => XT.acmpNo (own_here Y70) hx rfl (hb hby own_d3_57) rfl rfl rfl (XT.aa_ne_f rfl)) ?_
  show own_Ends _ _ _ _ (T69.setTop (mkF m 60 #[.val (.ref r0), .val (.ref r1), .val (.int x2), .val (.int (0 : Int32)), .val (.int (0 : Int32)), .val (.int (0 : Int32)), .unset] []))
  refine own_st (fun t_ => XS.iconst (own_here Y70) hx rfl (hb hby own_d3_60) ) ?_
  show own_Ends _ _ _ _ (T69.setTop (mkF m 61 #[.val (.ref r0), .val (.ref r1), .val (.int x2), .val (.int (0 : Int32)), .val (.int (0 : Int32)), .val (.int (0 : Int32)), .unset] [(.int (1 : Int32))]))
  refine own_st (fun t_ => XS.goto (own_here Y70) hx rfl (pc0 := 61) (pc' := 65) rfl (hb hby own_d3_61) (by decide) (by decide)) ?_
  show own_Ends _ _ _ _ (T69.setTop (mkF m 65 #[.val (.ref r0), .val (.ref r1), .val (.int x2), .val (.int (0 : Int32)), .val (.int (0 : Int32)), .val (.int (0 : Int32)), .unset] [(.int (1 : Int32))]))
  refine own_st (fun t_ => XS.istore (own_here Y70) hx rfl (hb hby own_d3_65) rfl (l' := #[.val (.ref r0), .val (.ref r1), .val (.int x2), .val (.int (0 : Int32)), .val (.int (0 : Int32)), .val (.int (0 : Int32)), .val (.int (1 : Int32))]) rfl) ?_
  show own_Ends _ _ _ _ (T69.setTop (mkF m 67 #[.val (.ref r0), .val (.ref r1), .val (.int x2), .val (.int (0 : Int32)), .val (.int (0 : Int32)), .val (.int (0 : Int32)), .val (.int (1 : Int32))] []))
  refine own_st (fun t_ => XS.iload (own_here Y70) hx rfl (hb hby own_d3_67) rfl) ?_
  show own_Ends _ _ _ _ (T69.setTop (mkF m 69 #[.val (.ref r0), .val (.ref r1), .val (.int x2), .val (.int (0 : Int32)), .val (.int (0 : Int32)), .val (.int (0 : Int32)), .val (.int (1 : Int32))] [(.int (1 : Int32))]))
  refine own_st (fun t_ => XS.ifYes (own_here Y70) hx rfl (pc0 := 69) (pc' := 93) rfl (hb hby own_d3_69) rfl (XT.i0_ne_t (by decide)) (by decide) (by decide)) ?_
  show own_Ends _ _ _ _ (T69.setTop (mkF m 93 #[.val (.ref r0), .val (.ref r1), .val (.int x2), .val (.int (0 : Int32)), .val (.int (0 : Int32)), .val (.int (0 : Int32)), .val (.int (1 : Int32))] []))
  refine own_st (fun t_ => XS.aloadN (own_here Y70) hx rfl (hb hby own_d3_93) rfl rfl) ?_
  show own_Ends _ _ _ _ (T69.setTop (mkF m 94 #[.val (.ref r0), .val (.ref r1), .val (.int x2), .val (.int (0 : Int32)), .val (.int (0 : Int32)), .val (.int (0 : Int32)), .val (.int (1 : Int32))] [(.ref r1)]))
  refine own_getS Y70 hx hZ hown (host := "") (Or.inl (hw _ (List.mem_of_getElem? (i := 11) rfl))) Via.refl SC rfl (hb hby own_d3_94) (fun T71 Y72 => ?_)
  show own_Ends _ _ _ _ (T71.setTop (mkF m 97 #[.val (.ref r0), .val (.ref r1), .val (.int x2), .val (.int (0 : Int32)), .val (.int (0 : Int32)), .val (.int (0 : Int32)), .val (.int (1 : Int32))] [(.ref rC), (.ref r1)]))
  refine own_st (fun t_ => XT.acmpYes (own_here Y72) hx rfl (pc0 := 97) (pc' := 114) rfl (hb hby own_d3_97) rfl rfl rfl (XT.aa_ne_t (fun q => nC (Value.ref.inj q))) (by decide) (by decide)) ?_
  show own_Ends _ _ _ _ (T71.setTop (mkF m 114 #[.val (.ref r0), .val (.ref r1), .val (.int x2), .val (.int (0 : Int32)), .val (.int (0 : Int32)), .val (.int (0 : Int32)), .val (.int (1 : Int32))] []))
  refine own_st (fun t_ => XS.aloadN (own_here Y72) hx rfl (hb hby own_d3_114) rfl rfl) ?_
  show own_Ends _ _ _ _ (T71.setTop (mkF m 115 #[.val (.ref r0), .val (.ref r1), .val (.int x2), .val (.int (0 : Int32)), .val (.int (0 : Int32)), .val (.int (0 : Int32)), .val (.int (1 : Int32))] [(.ref r1)]))
  refine own_getS Y72 hx hZ hown (host := "") (Or.inl (hw _ (List.mem_of_getElem? (i := 25) rfl))) Via.refl SD rfl (hb hby own_d3_115) (fun T73 Y74 => ?_)
  show own_Ends _ _ _ _ (T73.setTop (mkF m 118 #[.val (.ref r0), .val (.ref r1), .val (.int x2), .val (.int (0 : Int32)), .val (.int (0 : Int32)), .val (.int (0 : Int32)), .val (.int (1 : Int32))] [(.ref rD), (.ref r1)]))
  refine own_st (fun t_ => XT.acmpNo (own_here Y74) hx rfl (hb hby own_d3_118) rfl rfl rfl (XT.aa_eq_f (fun q => nD (Value.ref.inj q)))) ?_
  show own_Ends _ _ _ _ (T73.setTop (mkF m 121 #[.val (.ref r0), .val (.ref r1), .val (.int x2), .val (.int (0 : Int32)), .val (.int (0 : Int32)), .val (.int (0 : Int32)), .val (.int (1 : Int32))] []))
  refine own_st (fun t_ => XS.iloadN (own_here Y74) hx rfl (hb hby own_d3_121) rfl) ?_
  show own_Ends _ _ _ _ (T73.setTop (mkF m 122 #[.val (.ref r0), .val (.ref r1), .val (.int x2), .val (.int (0 : Int32)), .val (.int (0 : Int32)), .val (.int (0 : Int32)), .val (.int (1 : Int32))] [(.int (0 : Int32))]))
  refine own_st (fun t_ => XS.ifNo (own_here Y74) hx rfl (hb hby own_d3_122) rfl (XT.i0_ne_f (by decide))) ?_
  show own_Ends _ _ _ _ (T73.setTop (mkF m 125 #[.val (.ref r0), .val (.ref r1), .val (.int x2), .val (.int (0 : Int32)), .val (.int (0 : Int32)), .val (.int (0 : Int32)), .val (.int (1 : Int32))] []))
  refine own_st (fun t_ => XS.iload (own_here Y74) hx rfl (hb hby own_d3_125) rfl) ?_
  show own_Ends _ _ _ _ (T73.setTop (mkF m 127 #[.val (.ref r0), .val (.ref r1), .val (.int x2), .val (.int (0 : Int32)), .val (.int (0 : Int32)), .val (.int (0 : Int32)), .val (.int (1 : Int32))] [(.int (0 : Int32))]))
  refine own_st (fun t_ => XS.ifYes (own_here Y74) hx rfl (pc0 := 127) (pc' := 147) rfl (hb hby own_d3_127) rfl (XT.i0_eq_t (by decide)) (by decide) (by decide)) ?_
  show own_Ends _ _ _ _ (T73.setTop (mkF m 147 #[.val (.ref r0), .val (.ref r1), .val (.int x2), .val (.int (0 : Int32)), .val (.int (0 : Int32)), .val (.int (0 : Int32)), .val (.int (1 : Int32))] []))
  refine own_st (fun t_ => XS.iloadN (own_here Y74) hx rfl (hb hby own_d3_147) rfl) ?_
  show own_Ends _ _ _ _ (T73.setTop (mkF m 148 #[.val (.ref r0), .val (.ref r1), .val (.int x2), .val (.int (0 : Int32)), .val (.int (0 : Int32)), .val (.int (0 : Int32)), .val (.int (1 : Int32))] [(.int (0 : Int32))]))
  refine own_st (fun t_ => XS.ifYes (own_here Y74) hx rfl (pc0 := 148) (pc' := 173) rfl (hb hby own_d3_148) rfl (XT.i0_eq_t (by decide)) (by decide) (by decide)) ?_
  show own_Ends _ _ _ _ (T73.setTop (mkF m 173 #[.val (.ref r0), .val (.ref r1), .val (.int x2), .val (.int (0 : Int32)), .val (.int (0 : Int32)), .val (.int (0 : Int32)), .val (.int (1 : Int32))] []))
  refine own_st (fun t_ => XS.iload (own_here Y74) hx rfl (hb hby own_d3_173) rfl) ?_
  show own_Ends _ _ _ _ (T73.setTop (mkF m 175 #[.val (.ref r0), .val (.ref r1), .val (.int x2), .val (.int (0 : Int32)), .val (.int (0 : Int32)), .val (.int (0 : Int32)), .val (.int (1 : Int32))] [(.int (0 : Int32))]))
  refine own_st (fun t_ => XS.ifYes (own_here Y74) hx rfl (pc0 := 175) (pc' := 202) rfl (hb hby own_d3_175) rfl (XT.i0_eq_t (by decide)) (by decide) (by decide)) ?_
  show own_Ends _ _ _ _ (T73.setTop (mkF m 202 #[.val (.ref r0), .val (.ref r1), .val (.int x2), .val (.int (0 : Int32)), .val (.int (0 : Int32)), .val (.int (0 : Int32)), .val (.int (1 : Int32))] []))
  refine own_st (fun t_ => XS.aloadN (own_here Y74) hx rfl (hb hby own_d3_202) rfl rfl) ?_
  show own_Ends _ _ _ _ (T73.setTop (mkF m 203 #[.val (.ref r0), .val (.ref r1), .val (.int x2), .val (.int (0 : Int32)), .val (.int (0 : Int32)), .val (.int (0 : Int32)), .val (.int (1 : Int32))] [(.ref r0)]))
  refine own_st (fun t_ => XS.aloadN (own_here Y74) hx rfl (hb hby own_d3_203) rfl rfl) ?_
  show own_Ends _ _ _ _ (T73.setTop (mkF m 204 #[.val (.ref r0), .val (.ref r1), .val (.int x2), .val (.int (0 : Int32)), .val (.int (0 : Int32)), .val (.int (0 : Int32)), .val (.int (1 : Int32))] [(.ref r1), (.ref r0)]))
  refine own_putF Y74 hx hZ hown (host := "") (Or.inl (hw _ (List.mem_of_getElem? (i := 27) rfl))) Via.refl Fkind E (Or.inr ⟨(hw _ (List.mem_of_getElem? (i := 28) rfl)), rfl, hnm⟩) (hw _ (List.mem_of_getElem? (i := 10) rfl)) g (ty := (.object "com/example/fillgauge/fillgauge/core/ColumnType$Kind")) (by decide) rfl rfl rfl rfl (hb hby own_d3_204) (fun T75 h77 Y76 W78 F79 => ?_)
  show own_Ends _ _ _ _ (T75.setTop (mkF m 207 #[.val (.ref r0), .val (.ref r1), .val (.int x2), .val (.int (0 : Int32)), .val (.int (0 : Int32)), .val (.int (0 : Int32)), .val (.int (1 : Int32))] []))
  refine own_st (fun t_ => XS.aloadN (own_here Y76) hx rfl (hb hby own_d3_207) rfl rfl) ?_
  show own_Ends _ _ _ _ (T75.setTop (mkF m 208 #[.val (.ref r0), .val (.ref r1), .val (.int x2), .val (.int (0 : Int32)), .val (.int (0 : Int32)), .val (.int (0 : Int32)), .val (.int (1 : Int32))] [(.ref r0)]))
  refine own_st (fun t_ => XS.iloadN (own_here Y76) hx rfl (hb hby own_d3_208) rfl) ?_
  show own_Ends _ _ _ _ (T75.setTop (mkF m 209 #[.val (.ref r0), .val (.ref r1), .val (.int x2), .val (.int (0 : Int32)), .val (.int (0 : Int32)), .val (.int (0 : Int32)), .val (.int (1 : Int32))] [(.int x2), (.ref r0)]))
  have f80 : Exa Z h77 r0 "com/example/fillgauge/fillgauge/core/ColumnType" := E.wr W78
  have f81 : Fld Z h77 r0 "com/example/fillgauge/fillgauge/core/ColumnType" "length" "I" (.int (0 : Int32)) := Flength.other W78 (Or.inr (slot_ne (Or.inr (hw _ (List.mem_of_getElem? (i := 30) rfl))) (Or.inr (hw _ (List.mem_of_getElem? (i := 28) rfl))) (by decide) (t := .int) (t' := (.object "com/example/fillgauge/fillgauge/core/ColumnType$Kind")) (by decide) (by decide)))
  refine own_putF Y76 hx hZ hown (host := "") (Or.inl (hw _ (List.mem_of_getElem? (i := 29) rfl))) Via.refl f81 f80 (Or.inr ⟨(hw _ (List.mem_of_getElem? (i := 30) rfl)), rfl, hnm⟩) (hw _ (List.mem_of_getElem? (i := 10) rfl)) g (ty := .int) (by decide) rfl rfl rfl rfl (hb hby own_d3_209) (fun T82 h84 Y83 W85 F86 => ?_)
  show own_Ends _ _ _ _ (T82.setTop (mkF m 212 #[.val (.ref r0), .val (.ref r1), .val (.int x2), .val (.int (0 : Int32)), .val (.int (0 : Int32)), .val (.int (0 : Int32)), .val (.int (1 : Int32))] []))
  refine own_st (fun t_ => XS.aloadN (own_here Y83) hx rfl (hb hby own_d3_212) rfl rfl) ?_
  show own_Ends _ _ _ _ (T82.setTop (mkF m 213 #[.val (.ref r0), .val (.ref r1), .val (.int x2), .val (.int (0 : Int32)), .val (.int (0 : Int32)), .val (.int (0 : Int32)), .val (.int (1 : Int32))] [(.ref r0)]))
  refine own_st (fun t_ => XS.iloadN (own_here Y83) hx rfl (hb hby own_d3_213) rfl) ?_
  show own_Ends _ _ _ _ (T82.setTop (mkF m 214 #[.val (.ref r0), .val (.ref r1), .val (.int x2), .val (.int (0 : Int32)), .val (.int (0 : Int32)), .val (.int (0 : Int32)), .val (.int (1 : Int32))] [(.int (0 : Int32)), (.ref r0)]))
  have f87 : Exa Z h84 r0 "com/example/fillgauge/fillgauge/core/ColumnType" := f80.wr W85
  have f88 : Fld Z h77 r0 "com/example/fillgauge/fillgauge/core/ColumnType" "precision" "I" (.int (0 : Int32)) := Fprecision.other W78 (Or.inr (slot_ne (Or.inr (hw _ (List.mem_of_getElem? (i := 32) rfl))) (Or.inr (hw _ (List.mem_of_getElem? (i := 28) rfl))) (by decide) (t := .int) (t' := (.object "com/example/fillgauge/fillgauge/core/ColumnType$Kind")) (by decide) (by decide)))
  have f89 : Fld Z h84 r0 "com/example/fillgauge/fillgauge/core/ColumnType" "precision" "I" (.int (0 : Int32)) := f88.other W85 (Or.inr (slot_ne (Or.inr (hw _ (List.mem_of_getElem? (i := 32) rfl))) (Or.inr (hw _ (List.mem_of_getElem? (i := 30) rfl))) (by decide) (t := .int) (t' := .int) (by decide) (by decide)))
  refine own_putF Y83 hx hZ hown (host := "") (Or.inl (hw _ (List.mem_of_getElem? (i := 31) rfl))) Via.refl f89 f87 (Or.inr ⟨(hw _ (List.mem_of_getElem? (i := 32) rfl)), rfl, hnm⟩) (hw _ (List.mem_of_getElem? (i := 10) rfl)) g (ty := .int) (by decide) rfl rfl rfl rfl (hb hby own_d3_214) (fun T90 h92 Y91 W93 F94 => ?_)
  show own_Ends _ _ _ _ (T90.setTop (mkF m 217 #[.val (.ref r0), .val (.ref r1), .val (.int x2), .val (.int (0 : Int32)), .val (.int (0 : Int32)), .val (.int (0 : Int32)), .val (.int (1 : Int32))] []))
  refine own_st (fun t_ => XS.aloadN (own_here Y91) hx rfl (hb hby own_d3_217) rfl rfl) ?_
  show own_Ends _ _ _ _ (T90.setTop (mkF m 218 #[.val (.ref r0), .val (.ref r1), .val (.int x2), .val (.int (0 : Int32)), .val (.int (0 : Int32)), .val (.int (0 : Int32)), .val (.int (1 : Int32))] [(.ref r0)]))
  refine own_st (fun t_ => XS.iload (own_here Y91) hx rfl (hb hby own_d3_218) rfl) ?_
  show own_Ends _ _ _ _ (T90.setTop (mkF m 220 #[.val (.ref r0), .val (.ref r1), .val (.int x2), .val (.int (0 : Int32)), .val (.int (0 : Int32)), .val (.int (0 : Int32)), .val (.int (1 : Int32))] [(.int (0 : Int32)), (.ref r0)]))
  have f95 : Exa Z h92 r0 "com/example/fillgauge/fillgauge/core/ColumnType" := f87.wr W93
  have f96 : Fld Z h77 r0 "com/example/fillgauge/fillgauge/core/ColumnType" "scale" "I" (.int (0 : Int32)) := Fscale.other W78 (Or.inr (slot_ne (Or.inr (hw _ (List.mem_of_getElem? (i := 34) rfl))) (Or.inr (hw _ (List.mem_of_getElem? (i := 28) rfl))) (by decide) (t := .int) (t' := (.object "com/example/fillgauge/fillgauge/core/ColumnType$Kind")) (by decide) (by decide)))
  have f97 : Fld Z h84 r0 "com/example/fillgauge/fillgauge/core/ColumnType" "scale" "I" (.int (0 : Int32)) := f96.other W85 (Or.inr (slot_ne (Or.inr (hw _ (List.mem_of_getElem? (i := 34) rfl))) (Or.inr (hw _ (List.mem_of_getElem? (i := 30) rfl))) (by decide) (t := .int) (t' := .int) (by decide) (by decide)))
  have f98 : Fld Z h92 r0 "com/example/fillgauge/fillgauge/core/ColumnType" "scale" "I" (.int (0 : Int32)) := f97.other W93 (Or.inr (slot_ne (Or.inr (hw _ (List.mem_of_getElem? (i := 34) rfl))) (Or.inr (hw _ (List.mem_of_getElem? (i := 32) rfl))) (by decide) (t := .int) (t' := .int) (by decide) (by decide)))
  refine own_putF Y91 hx hZ hown (host := "") (Or.inl (hw _ (List.mem_of_getElem? (i := 33) rfl))) Via.refl f98 f95 (Or.inr ⟨(hw _ (List.mem_of_getElem? (i := 34) rfl)), rfl, hnm⟩) (hw _ (List.mem_of_getElem? (i := 10) rfl)) g (ty := .int) (by decide) rfl rfl rfl rfl (hb hby own_d3_220) (fun T99 h101 Y100 W102 F103 => ?_)
  show own_Ends _ _ _ _ (T99.setTop (mkF m 223 #[.val (.ref r0), .val (.ref r1), .val (.int x2), .val (.int (0 : Int32)), .val (.int (0 : Int32)), .val (.int (0 : Int32)), .val (.int (1 : Int32))] []))
  refine own_st (fun t_ => XS.aloadN (own_here Y100) hx rfl (hb hby own_d3_223) rfl rfl) ?_
  show own_Ends _ _ _ _ (T99.setTop (mkF m 224 #[.val (.ref r0), .val (.ref r1), .val (.int x2), .val (.int (0 : Int32)), .val (.int (0 : Int32)), .val (.int (0 : Int32)), .val (.int (1 : Int32))] [(.ref r0)]))
  refine own_st (fun t_ => XS.iload (own_here Y100) hx rfl (hb hby own_d3_224) rfl) ?_
  show own_Ends _ _ _ _ (T99.setTop (mkF m 226 #[.val (.ref r0), .val (.ref r1), .val (.int x2), .val (.int (0 : Int32)), .val (.int (0 : Int32)), .val (.int (0 : Int32)), .val (.int (1 : Int32))] [(.int (0 : Int32)), (.ref r0)]))
  have f104 : Exa Z h101 r0 "com/example/fillgauge/fillgauge/core/ColumnType" := f95.wr W102
  have f105 : Fld Z h77 r0 "com/example/fillgauge/fillgauge/core/ColumnType" "withTimeZone" "Z" (.int (0 : Int32)) := FwithTimeZone.other W78 (Or.inr (slot_ne (Or.inr (hw _ (List.mem_of_getElem? (i := 36) rfl))) (Or.inr (hw _ (List.mem_of_getElem? (i := 28) rfl))) (by decide) (t := .boolean) (t' := (.object "com/example/fillgauge/fillgauge/core/ColumnType$Kind")) (by decide) (by decide)))
  have f106 : Fld Z h84 r0 "com/example/fillgauge/fillgauge/core/ColumnType" "withTimeZone" "Z" (.int (0 : Int32)) := f105.other W85 (Or.inr (slot_ne (Or.inr (hw _ (List.mem_of_getElem? (i := 36) rfl))) (Or.inr (hw _ (List.mem_of_getElem? (i := 30) rfl))) (by decide) (t := .boolean) (t' := .int) (by decide) (by decide)))
  have f107 : Fld Z h92 r0 "com/example/fillgauge/fillgauge/core/ColumnType" "withTimeZone" "Z" (.int (0 : Int32)) := f106.other W93 (Or.inr (slot_ne (Or.inr (hw _ (List.mem_of_getElem? (i := 36) rfl))) (Or.inr (hw _ (List.mem_of_getElem? (i := 32) rfl))) (by decide) (t := .boolean) (t' := .int) (by decide) (by decide)))
  have f108 : Fld Z h101 r0 "com/example/fillgauge/fillgauge/core/ColumnType" "withTimeZone" "Z" (.int (0 : Int32)) := f107.other W102 (Or.inr (slot_ne (Or.inr (hw _ (List.mem_of_getElem? (i := 36) rfl))) (Or.inr (hw _ (List.mem_of_getElem? (i := 34) rfl))) (by decide) (t := .boolean) (t' := .int) (by decide) (by decide)))
  refine own_putFN Y100 hx hZ hown (hw _ (List.mem_of_getElem? (i := 35) rfl)) Via.refl f108 f104 (Or.inr ⟨(hw _ (List.mem_of_getElem? (i := 36) rfl)), rfl, hnm⟩) (hw _ (List.mem_of_getElem? (i := 10) rfl)) g (ty := .boolean) (v' := (.int ((0 : Int32) &&& 1))) (by decide) rfl (fits_nar_bool _) rfl rfl (hb hby own_d3_226) (fun T109 h111 Y110 W112 F113 => ?_)
  show own_Ends _ _ _ _ (T109.setTop (mkF m 229 #[.val (.ref r0), .val (.ref r1), .val (.int x2), .val (.int (0 : Int32)), .val (.int (0 : Int32)), .val (.int (0 : Int32)), .val (.int (1 : Int32))] []))
  have K114 : Keep h0 h77 [r0] := (Keep.refl h0 [r0]).wr W78 (Or.inl (List.mem_of_getElem? (i := 0) rfl))
  have K115 : Keep h0 h84 [r0] := K114.wr W85 (Or.inl (List.mem_of_getElem? (i := 0) rfl))
  have K116 : Keep h0 h92 [r0] := K115.wr W93 (Or.inl (List.mem_of_getElem? (i := 0) rfl))
  have K117 : Keep h0 h101 [r0] := K116.wr W102 (Or.inl (List.mem_of_getElem? (i := 0) rfl))
  have K118 : Keep h0 h111 [r0] := K117.wr W112 (Or.inl (List.mem_of_getElem? (i := 0) rfl))
  have f119 : Fld Z h92 r0 "com/example/fillgauge/fillgauge/core/ColumnType" "length" "I" (.int x2) := F86.other W93 (Or.inr (slot_ne (Or.inr (hw _ (List.mem_of_getElem? (i := 30) rfl))) (Or.inr (hw _ (List.mem_of_getElem? (i := 32) rfl))) (by decide) (t := .int) (t' := .int) (by decide) (by decide)))
  have f120 : Fld Z h101 r0 "com/example/fillgauge/fillgauge/core/ColumnType" "length" "I" (.int x2) := f119.other W102 (Or.inr (slot_ne (Or.inr (hw _ (List.mem_of_getElem? (i := 30) rfl))) (Or.inr (hw _ (List.mem_of_getElem? (i := 34) rfl))) (by decide) (t := .int) (t' := .int) (by decide) (by decide)))
  have f121 : Fld Z h111 r0 "com/example/fillgauge/fillgauge/core/ColumnType" "length" "I" (.int x2) := f120.other W112 (Or.inr (slot_ne (Or.inr (hw _ (List.mem_of_getElem? (i := 30) rfl))) (Or.inr (hw _ (List.mem_of_getElem? (i := 36) rfl))) (by decide) (t := .int) (t' := .boolean) (by decide) (by decide)))
  refine own_retV Y110 hx hlk hret (hb hby own_d3_229) (by decide) (by decide) ?_
  exact ⟨rfl, K118, f121⟩
theorem own_pd1 : parseMethodDescriptor "(Lcom/example/fillgauge/fillgauge/core/ColumnType$Kind;IIIZ)V" = some ⟨[(.object "com/example/fillgauge/fillgauge/core/ColumnType$Kind"), .int, .int, .int, .boolean], none⟩ := by decide +kernel
theorem own_d2_0 : decode prog_3_method_3_code 0 = .ok (.new 48, 3) := by decide +kernel
theorem own_d2_3 : decode prog_3_method_3_code 3 = .ok (.dup, 1) := by decide +kernel
theorem own_d2_4 : decode prog_3_method_3_code 4 = .ok (.getstatic 18, 3) := by decide +kernel
theorem own_d2_7 : decode prog_3_method_3_code 7 = .ok (.iload_n 0, 1) := by decide +kernel
theorem own_d2_8 : decode prog_3_method_3_code 8 = .ok (.iconst 0, 1) := by decide +kernel
theorem own_d2_9 : decode prog_3_method_3_code 9 = .ok (.iconst 0, 1) := by decide +kernel
theorem own_d2_10 : decode prog_3_method_3_code 10 = .ok (.iconst 0, 1) := by decide +kernel
theorem own_d2_11 : decode prog_3_method_3_code 11 = .ok (.invokespecial 66, 3) := by decide +kernel
theorem own_d2_14 : decode prog_3_method_3_code 14 = .ok (.areturn, 1) := by decide +kernel
theorem own_ef_own_rm2 (m : MethodId) (x0 : Int32) : entryFrame m #[(.int x0)] 1 = mkF m 0 #[.val (.int x0)] [] := by first | (simp [entryFrame, mkF, argsToLocals, Value.category]; done) | rfl
def own_Q_own_rm2 (Z : State) (x0 : Int32) (h0 : Heap) (n0 : Nat) (v : Option Value) (h : Heap) : Prop := ∃ b : Addr, v = some (.ref b) ∧ Exa Z h b "com/example/fillgauge/fillgauge/core/ColumnType" ∧ Fld Z h b "com/example/fillgauge/fillgauge/core/ColumnType" "length" "I" (.int x0)
set_option maxRecDepth 65536 in
set_option maxHeartbeats 40000000 in
theorem own_rm2 (l : Launch) (Z : State) (a0 : Array Value) (hw : ∀ d ∈ tables_1, d.before a0 Z = true) (ws : List Jvm.Cond) (x0 : Int32) (rC rD : Addr) (h0 : Heap) (n0 : Nat) (Z0 : n0 ≤ h0.size) (hlo : ¬ x0 < 0) (SC : Sta Z h0 "com/example/fillgauge/fillgauge/core/ColumnType$Kind" "CHAR" "Lcom/example/fillgauge/fillgauge/core/ColumnType$Kind;" (.ref rC)) (SD : Sta Z h0 "com/example/fillgauge/fillgauge/core/ColumnType$Kind" "DECIMAL" "Lcom/example/fillgauge/fillgauge/core/ColumnType$Kind;" (.ref rD)) (hnz : ¬ x0 = 0) (nD : rC ≠ rD) :
    own_Con l Z (⟨"com/example/fillgauge/fillgauge/core/ColumnType", "chars", "(I)Lcom/example/fillgauge/fillgauge/core/ColumnType;"⟩ : MethodName) prog_3_method_3_code 1 (some (.object "com/example/fillgauge/fillgauge/core/ColumnType")) ws ({ frames := 3, cells := 1, slots := 5, locals := 43 } : Room) #[(.int x0)] h0 n0 (own_Q_own_rm2 Z x0 h0 n0) := by
  refine own_body (plainFor_of_name own_pn1) ?_
  intro p e s m below meth c T0 hx hZ hby hml hown hnm hret hlk Y0
  replace hown : s.vm.findClass "com/example/fillgauge/fillgauge/core/ColumnType" = some m.cls := hown
  replace hnm : meth.name = "chars" := hnm
  rw [own_ef_own_rm2 m x0]
  show own_Ends _ _ _ _ (T0.setTop (mkF m 0 #[.val (.int x0)] []))
  refine own_new Y0 hx hZ hown (hw _ (List.mem_of_getElem? (i := 9) rfl)) (hw _ (List.mem_of_getElem? (i := 10) rfl)) (hw _ (List.mem_of_getElem? (i := 7) rfl)) rfl (hb hby own_d2_0) (by decide) (by decide) (fun T122 h124 b128 eb129 Y123 E125 X126 D127 => ?_)
  have g130 : n0 ≤ b128 := by rw [eb129]; exact Z0
  have F131 : Fld Z h124 b128 "com/example/fillgauge/fillgauge/core/ColumnType" "kind" "Lcom/example/fillgauge/fillgauge/core/ColumnType$Kind;" .null := D127 _ _ _ (.object "com/example/fillgauge/fillgauge/core/ColumnType$Kind") (Or.inr (hw _ (List.mem_of_getElem? (i := 28) rfl))) (by decide)
  have F132 : Fld Z h124 b128 "com/example/fillgauge/fillgauge/core/ColumnType" "length" "I" (.int (0 : Int32)) := D127 _ _ _ .int (Or.inr (hw _ (List.mem_of_getElem? (i := 30) rfl))) (by decide)
  have F133 : Fld Z h124 b128 "com/example/fillgauge/fillgauge/core/ColumnType" "precision" "I" (.int (0 : Int32)) := D127 _ _ _ .int (Or.inr (hw _ (List.mem_of_getElem? (i := 32) rfl))) (by decide)
  have F134 : Fld Z h124 b128 "com/example/fillgauge/fillgauge/core/ColumnType" "scale" "I" (.int (0 : Int32)) := D127 _ _ _ .int (Or.inr (hw _ (List.mem_of_getElem? (i := 34) rfl))) (by decide)
  have F135 : Fld Z h124 b128 "com/example/fillgauge/fillgauge/core/ColumnType" "withTimeZone" "Z" (.int (0 : Int32)) := D127 _ _ _ .boolean (Or.inr (hw _ (List.mem_of_getElem? (i := 36) rfl))) (by decide)
  show own_Ends _ _ _ _ (T122.setTop (mkF m 3 #[.val (.int x0)] [(.ref b128)]))
  refine own_st (fun t_ => XS.dup (own_here Y123) hx rfl (hb hby own_d2_3) rfl rfl) ?_
  show own_Ends _ _ _ _ (T122.setTop (mkF m 4 #[.val (.int x0)] [(.ref b128), (.ref b128)]))
  have f136 : Sta Z h124 "com/example/fillgauge/fillgauge/core/ColumnType$Kind" "CHAR" "Lcom/example/fillgauge/fillgauge/core/ColumnType$Kind;" (.ref rC) := SC.ext E125
  refine own_getS Y123 hx hZ hown (host := "") (Or.inl (hw _ (List.mem_of_getElem? (i := 11) rfl))) Via.refl f136 rfl (hb hby own_d2_4) (fun T137 Y138 => ?_)
  show own_Ends _ _ _ _ (T137.setTop (mkF m 7 #[.val (.int x0)] [(.ref rC), (.ref b128), (.ref b128)]))
  refine own_st (fun t_ => XS.iloadN (own_here Y138) hx rfl (hb hby own_d2_7) rfl) ?_
  show own_Ends _ _ _ _ (T137.setTop (mkF m 8 #[.val (.int x0)] [(.int x0), (.ref rC), (.ref b128), (.ref b128)]))
  refine own_st (fun t_ => XS.iconst (own_here Y138) hx rfl (hb hby own_d2_8) ) ?_
  show own_Ends _ _ _ _ (T137.setTop (mkF m 9 #[.val (.int x0)] [(.int (0 : Int32)), (.int x0), (.ref rC), (.ref b128), (.ref b128)]))
  refine own_st (fun t_ => XS.iconst (own_here Y138) hx rfl (hb hby own_d2_9) ) ?_
  show own_Ends _ _ _ _ (T137.setTop (mkF m 10 #[.val (.int x0)] [(.int (0 : Int32)), (.int (0 : Int32)), (.int x0), (.ref rC), (.ref b128), (.ref b128)]))
  refine own_st (fun t_ => XS.iconst (own_here Y138) hx rfl (hb hby own_d2_10) ) ?_
  show own_Ends _ _ _ _ (T137.setTop (mkF m 11 #[.val (.int x0)] [(.int (0 : Int32)), (.int (0 : Int32)), (.int (0 : Int32)), (.int x0), (.ref rC), (.ref b128), (.ref b128)]))
  have f139 : Sta Z h124 "com/example/fillgauge/fillgauge/core/ColumnType$Kind" "DECIMAL" "Lcom/example/fillgauge/fillgauge/core/ColumnType$Kind;" (.ref rD) := SD.ext E125
  refine own_callN Y138 hx hZ (y := (⟨"com/example/fillgauge/fillgauge/core/ColumnType", "<init>", "(Lcom/example/fillgauge/fillgauge/core/ColumnType$Kind;IIIZ)V"⟩ : MethodName)) rfl hown (hw _ (List.mem_of_getElem? (i := 14) rfl)) (hw _ (List.mem_of_getElem? (i := 15) rfl)) (hw _ (List.mem_of_getElem? (i := 7) rfl)) (hw _ (List.mem_of_getElem? (i := 16) rfl)) (by decide) (a := b128) (argsL := [(.ref rC), (.int x0), (.int (0 : Int32)), (.int (0 : Int32)), (.int (0 : Int32))]) (rest := [(.ref b128)]) (own_rm3C l Z a0 hw [] b128 rC x0 rD h124 n0  X126 F131 F132 F133 F134 F135 g130 hlo hnz f136 f139 nD) (W := 1) (by decide) (by decide) (by decide) (by decide) rfl (by rw [hml]; rfl) (lenOf own_pd1 rfl) rfl (by show 2 * 0 + _ ≤ _; exact Nat.le_of_eq rfl) (hb hby own_d2_11) (fun T140 h142 v143 Y141 q144 => ?_)
  obtain ⟨rfl, K145, F146⟩ := q144
  show own_Ends _ _ _ _ (T140.setTop (mkF m 14 #[.val (.int x0)] [(.ref b128)]))
  have f147 : Exa Z h142 b128 "com/example/fillgauge/fillgauge/core/ColumnType" := X126.keep K145
  refine own_retA Y141 hx hlk hret rfl rfl rfl (hb hby own_d2_14) (by decide) (by decide) ?_
  exact ⟨_, rfl, f147, F146⟩
theorem own_d8_0 : decode prog_3_method_4_code 0 = .ok (.new 48, 3) := by decide +kernel
theorem own_d8_3 : decode prog_3_method_4_code 3 = .ok (.dup, 1) := by decide +kernel
theorem own_d8_4 : decode prog_3_method_4_code 4 = .ok (.getstatic 24, 3) := by decide +kernel
theorem own_d8_7 : decode prog_3_method_4_code 7 = .ok (.iload_n 0, 1) := by decide +kernel
theorem own_d8_8 : decode prog_3_method_4_code 8 = .ok (.iconst 0, 1) := by decide +kernel
theorem own_d8_9 : decode prog_3_method_4_code 9 = .ok (.iconst 0, 1) := by decide +kernel
theorem own_d8_10 : decode prog_3_method_4_code 10 = .ok (.iconst 0, 1) := by decide +kernel
theorem own_d8_11 : decode prog_3_method_4_code 11 = .ok (.invokespecial 66, 3) := by decide +kernel
theorem own_d8_14 : decode prog_3_method_4_code 14 = .ok (.areturn, 1) := by decide +kernel
theorem own_ef_own_rm8 (m : MethodId) (x0 : Int32) : entryFrame m #[(.int x0)] 1 = mkF m 0 #[.val (.int x0)] [] := by first | (simp [entryFrame, mkF, argsToLocals, Value.category]; done) | rfl
def own_Q_own_rm8 (Z : State) (x0 : Int32) (h0 : Heap) (n0 : Nat) (v : Option Value) (h : Heap) : Prop := ∃ b : Addr, v = some (.ref b) ∧ Exa Z h b "com/example/fillgauge/fillgauge/core/ColumnType" ∧ Fld Z h b "com/example/fillgauge/fillgauge/core/ColumnType" "length" "I" (.int x0)
set_option maxRecDepth 65536 in
set_option maxHeartbeats 40000000 in
theorem own_rm8 (l : Launch) (Z : State) (a0 : Array Value) (hw : ∀ d ∈ tables_1, d.before a0 Z = true) (ws : List Jvm.Cond) (x0 : Int32) (rC rD rV : Addr) (h0 : Heap) (n0 : Nat) (Z0 : n0 ≤ h0.size) (hlo : ¬ x0 < 0) (SC : Sta Z h0 "com/example/fillgauge/fillgauge/core/ColumnType$Kind" "CHAR" "Lcom/example/fillgauge/fillgauge/core/ColumnType$Kind;" (.ref rC)) (SD : Sta Z h0 "com/example/fillgauge/fillgauge/core/ColumnType$Kind" "DECIMAL" "Lcom/example/fillgauge/fillgauge/core/ColumnType$Kind;" (.ref rD)) (SV : Sta Z h0 "com/example/fillgauge/fillgauge/core/ColumnType$Kind" "VARCHAR" "Lcom/example/fillgauge/fillgauge/core/ColumnType$Kind;" (.ref rV)) (nC : rV ≠ rC) (nD : rV ≠ rD) :
    own_Con l Z (⟨"com/example/fillgauge/fillgauge/core/ColumnType", "varchar", "(I)Lcom/example/fillgauge/fillgauge/core/ColumnType;"⟩ : MethodName) prog_3_method_4_code 1 (some (.object "com/example/fillgauge/fillgauge/core/ColumnType")) ws ({ frames := 3, cells := 1, slots := 5, locals := 43 } : Room) #[(.int x0)] h0 n0 (own_Q_own_rm8 Z x0 h0 n0) := by
  refine own_body (plainFor_of_name own_pn1) ?_
  intro p e s m below meth c T0 hx hZ hby hml hown hnm hret hlk Y0
  replace hown : s.vm.findClass "com/example/fillgauge/fillgauge/core/ColumnType" = some m.cls := hown
  replace hnm : meth.name = "varchar" := hnm
  rw [own_ef_own_rm8 m x0]
  show own_Ends _ _ _ _ (T0.setTop (mkF m 0 #[.val (.int x0)] []))
  refine own_new Y0 hx hZ hown (hw _ (List.mem_of_getElem? (i := 9) rfl)) (hw _ (List.mem_of_getElem? (i := 10) rfl)) (hw _ (List.mem_of_getElem? (i := 7) rfl)) rfl (hb hby own_d8_0) (by decide) (by decide) (fun T148 h150 b154 eb155 Y149 E151 X152 D153 => ?_)
  have g156 : n0 ≤ b154 := by rw [eb155]; exact Z0
  have F157 : Fld Z h150 b154 "com/example/fillgauge/fillgauge/core/ColumnType" "kind" "Lcom/example/fillgauge/fillgauge/core/ColumnType$Kind;" .null := D153 _ _ _ (.object "com/example/fillgauge/fillgauge/core/ColumnType$Kind") (Or.inr (hw _ (List.mem_of_getElem? (i := 28) rfl))) (by decide)
  have F158 : Fld Z h150 b154 "com/example/fillgauge/fillgauge/core/ColumnType" "length" "I" (.int (0 : Int32)) := D153 _ _ _ .int (Or.inr (hw _ (List.mem_of_getElem? (i := 30) rfl))) (by decide)
  have F159 : Fld Z h150 b154 "com/example/fillgauge/fillgauge/core/ColumnType" "precision" "I" (.int (0 : Int32)) := D153 _ _ _ .int (Or.inr (hw _ (List.mem_of_getElem? (i := 32) rfl))) (by decide)
  have F160 : Fld Z h150 b154 "com/example/fillgauge/fillgauge/core/ColumnType" "scale" "I" (.int (0 : Int32)) := D153 _ _ _ .int (Or.inr (hw _ (List.mem_of_getElem? (i := 34) rfl))) (by decide)
  have F161 : Fld Z h150 b154 "com/example/fillgauge/fillgauge/core/ColumnType" "withTimeZone" "Z" (.int (0 : Int32)) := D153 _ _ _ .boolean (Or.inr (hw _ (List.mem_of_getElem? (i := 36) rfl))) (by decide)
  show own_Ends _ _ _ _ (T148.setTop (mkF m 3 #[.val (.int x0)] [(.ref b154)]))
  refine own_st (fun t_ => XS.dup (own_here Y149) hx rfl (hb hby own_d8_3) rfl rfl) ?_
  show own_Ends _ _ _ _ (T148.setTop (mkF m 4 #[.val (.int x0)] [(.ref b154), (.ref b154)]))
  have f162 : Sta Z h150 "com/example/fillgauge/fillgauge/core/ColumnType$Kind" "VARCHAR" "Lcom/example/fillgauge/fillgauge/core/ColumnType$Kind;" (.ref rV) := SV.ext E151
  refine own_getS Y149 hx hZ hown (host := "") (Or.inl (hw _ (List.mem_of_getElem? (i := 49) rfl))) Via.refl f162 rfl (hb hby own_d8_4) (fun T163 Y164 => ?_)
  show own_Ends _ _ _ _ (T163.setTop (mkF m 7 #[.val (.int x0)] [(.ref rV), (.ref b154), (.ref b154)]))
  refine own_st (fun t_ => XS.iloadN (own_here Y164) hx rfl (hb hby own_d8_7) rfl) ?_
  show own_Ends _ _ _ _ (T163.setTop (mkF m 8 #[.val (.int x0)] [(.int x0), (.ref rV), (.ref b154), (.ref b154)]))
  refine own_st (fun t_ => XS.iconst (own_here Y164) hx rfl (hb hby own_d8_8) ) ?_
  show own_Ends _ _ _ _ (T163.setTop (mkF m 9 #[.val (.int x0)] [(.int (0 : Int32)), (.int x0), (.ref rV), (.ref b154), (.ref b154)]))
  refine own_st (fun t_ => XS.iconst (own_here Y164) hx rfl (hb hby own_d8_9) ) ?_
  show own_Ends _ _ _ _ (T163.setTop (mkF m 10 #[.val (.int x0)] [(.int (0 : Int32)), (.int (0 : Int32)), (.int x0), (.ref rV), (.ref b154), (.ref b154)]))
  refine own_st (fun t_ => XS.iconst (own_here Y164) hx rfl (hb hby own_d8_10) ) ?_
  show own_Ends _ _ _ _ (T163.setTop (mkF m 11 #[.val (.int x0)] [(.int (0 : Int32)), (.int (0 : Int32)), (.int (0 : Int32)), (.int x0), (.ref rV), (.ref b154), (.ref b154)]))
  have f165 : Sta Z h150 "com/example/fillgauge/fillgauge/core/ColumnType$Kind" "CHAR" "Lcom/example/fillgauge/fillgauge/core/ColumnType$Kind;" (.ref rC) := SC.ext E151
  have f166 : Sta Z h150 "com/example/fillgauge/fillgauge/core/ColumnType$Kind" "DECIMAL" "Lcom/example/fillgauge/fillgauge/core/ColumnType$Kind;" (.ref rD) := SD.ext E151
  refine own_callN Y164 hx hZ (y := (⟨"com/example/fillgauge/fillgauge/core/ColumnType", "<init>", "(Lcom/example/fillgauge/fillgauge/core/ColumnType$Kind;IIIZ)V"⟩ : MethodName)) rfl hown (hw _ (List.mem_of_getElem? (i := 14) rfl)) (hw _ (List.mem_of_getElem? (i := 15) rfl)) (hw _ (List.mem_of_getElem? (i := 7) rfl)) (hw _ (List.mem_of_getElem? (i := 16) rfl)) (by decide) (a := b154) (argsL := [(.ref rV), (.int x0), (.int (0 : Int32)), (.int (0 : Int32)), (.int (0 : Int32))]) (rest := [(.ref b154)]) (own_rm3V l Z a0 hw [] b154 rV x0 rC rD h150 n0  X152 F157 F158 F159 F160 F161 g156 hlo f165 f162 f166 nC nD) (W := 1) (by decide) (by decide) (by decide) (by decide) rfl (by rw [hml]; rfl) (lenOf own_pd1 rfl) rfl (by show 2 * 0 + _ ≤ _; exact Nat.le_of_eq rfl) (hb hby own_d8_11) (fun T167 h169 v170 Y168 q171 => ?_)
  obtain ⟨rfl, K172, F173⟩ := q171
  show own_Ends _ _ _ _ (T167.setTop (mkF m 14 #[.val (.int x0)] [(.ref b154)]))
  have f174 : Exa Z h169 b154 "com/example/fillgauge/fillgauge/core/ColumnType" := X152.keep K172
  refine own_retA Y168 hx hlk hret rfl rfl rfl (hb hby own_d8_14) (by decide) (by decide) ?_
  exact ⟨_, rfl, f174, F173⟩
theorem own_d7_0 : decode prog_3_method_11_code 0 = .ok (.aload_n 0, 1) := by decide +kernel
theorem own_d7_1 : decode prog_3_method_11_code 1 = .ok (.getfield 52, 3) := by decide +kernel
theorem own_d7_4 : decode prog_3_method_11_code 4 = .ok (.ireturn, 1) := by decide +kernel
theorem own_ef_own_rm7 (m : MethodId) (r0 : Addr) : entryFrame m #[(.ref r0)] 1 = mkF m 0 #[.val (.ref r0)] [] := by first | (simp [entryFrame, mkF, argsToLocals, Value.category]; done) | rfl
def own_Q_own_rm7 (Z : State) (w : Int32) (h0 : Heap) (n0 : Nat) (v : Option Value) (h : Heap) : Prop := v = some (.int w) ∧ h0 = h
set_option maxRecDepth 65536 in
set_option maxHeartbeats 40000000 in
theorem own_rm7 (l : Launch) (Z : State) (a0 : Array Value) (hw : ∀ d ∈ tables_1, d.before a0 Z = true) (ws : List Jvm.Cond) (r0 : Addr) (w : Int32) (h0 : Heap) (n0 : Nat)  (F : Fld Z h0 r0 "com/example/fillgauge/fillgauge/core/ColumnType" "length" "I" (.int w)) :
    own_Con l Z (⟨"com/example/fillgauge/fillgauge/core/ColumnType", "length", "()I"⟩ : MethodName) prog_3_method_11_code 1 (some .int) ws ({ frames := 0, cells := 0, slots := 0, locals := 0 } : Room) #[(.ref r0)] h0 n0 (own_Q_own_rm7 Z w h0 n0) := by
  refine own_body (plainFor_of_name own_pn1) ?_
  intro p e s m below meth c T0 hx hZ hby hml hown hnm hret hlk Y0
  replace hown : s.vm.findClass "com/example/fillgauge/fillgauge/core/ColumnType" = some m.cls := hown
  replace hnm : meth.name = "length" := hnm
  rw [own_ef_own_rm7 m r0]
  show own_Ends _ _ _ _ (T0.setTop (mkF m 0 #[.val (.ref r0)] []))
  refine own_st (fun t_ => XS.aloadN (own_here Y0) hx rfl (hb hby own_d7_0) rfl rfl) ?_
  show own_Ends _ _ _ _ (T0.setTop (mkF m 1 #[.val (.ref r0)] [(.ref r0)]))
  refine own_getF Y0 hx hZ hown (host := "") (Or.inl (hw _ (List.mem_of_getElem? (i := 29) rfl))) Via.refl F rfl rfl (hb hby own_d7_1) (fun T175 Y176 => ?_)
  show own_Ends _ _ _ _ (T175.setTop (mkF m 4 #[.val (.ref r0)] [(.int w)]))
  refine own_retI Y176 hx hlk hret (hb hby own_d7_4) (by decide) (by decide) ?_
  exact ⟨rfl, rfl⟩
theorem own_pn2 : plainName "com/example/fillgauge/fillgauge/core/LookalikeText" = true := by first | (simp [plainName, overriddenIn]; done) | decide +kernel
theorem own_pd2 : parseMethodDescriptor "()I" = some ⟨[], some .int⟩ := by decide +kernel
theorem own_d6_0 : decode prog_18_method_2_code 0 = .ok (.aload_n 0, 1) := by decide +kernel
theorem own_d6_1 : decode prog_18_method_2_code 1 = .ok (.invokevirtual 7, 3) := by decide +kernel
theorem own_d6_4 : decode prog_18_method_2_code 4 = .ok (.ifCond .ne 8, 3) := by decide +kernel
theorem own_d6_7 : decode prog_18_method_2_code 7 = .ok (.ldc 15, 2) := by decide +kernel
theorem own_d6_9 : decode prog_18_method_2_code 9 = .ok (.goto 7, 3) := by decide +kernel
theorem own_d6_16 : decode prog_18_method_2_code 16 = .ok (.ireturn, 1) := by decide +kernel
theorem own_d6_12 : decode prog_18_method_2_code 12 = .ok (.aload_n 0, 1) := by decide +kernel
theorem own_d6_13 : decode prog_18_method_2_code 13 = .ok (.invokevirtual 7, 3) := by decide +kernel
theorem own_ef_own_rm6 (m : MethodId) (r0 : Addr) : entryFrame m #[(.ref r0)] 1 = mkF m 0 #[.val (.ref r0)] [] := by first | (simp [entryFrame, mkF, argsToLocals, Value.category]; done) | rfl
def own_Q_own_rm6 (Z : State) (w : Int32) (h0 : Heap) (n0 : Nat) (v : Option Value) (h : Heap) : Prop := v = some (.int (if w = 0 then (2147483647 : Int32) else w)) ∧ h0 = h
set_option maxRecDepth 65536 in
set_option maxHeartbeats 40000000 in
theorem own_rm6 (l : Launch) (Z : State) (a0 : Array Value) (hw : ∀ d ∈ tables_1, d.before a0 Z = true) (ws : List Jvm.Cond) (r0 : Addr) (w : Int32) (h0 : Heap) (n0 : Nat)  (E : Exa Z h0 r0 "com/example/fillgauge/fillgauge/core/ColumnType") (F : Fld Z h0 r0 "com/example/fillgauge/fillgauge/core/ColumnType" "length" "I" (.int w)) :
    own_Con l Z (⟨"com/example/fillgauge/fillgauge/core/LookalikeText", "longest", "(Lcom/example/fillgauge/fillgauge/core/ColumnType;)I"⟩ : MethodName) prog_18_method_2_code 1 (some .int) ws ({ frames := 1, cells := 0, slots := 0, locals := 12 } : Room) #[(.ref r0)] h0 n0 (own_Q_own_rm6 Z w h0 n0) := by
  refine own_body (plainFor_of_name own_pn2) ?_
  intro p e s m below meth c T0 hx hZ hby hml hown hnm hret hlk Y0
  replace hown : s.vm.findClass "com/example/fillgauge/fillgauge/core/LookalikeText" = some m.cls := hown
  replace hnm : meth.name = "longest" := hnm
  rw [own_ef_own_rm6 m r0]
  show own_Ends _ _ _ _ (T0.setTop (mkF m 0 #[.val (.ref r0)] []))
  refine own_st (fun t_ => XS.aloadN (own_here Y0) hx rfl (hb hby own_d6_0) rfl rfl) ?_
  show own_Ends _ _ _ _ (T0.setTop (mkF m 1 #[.val (.ref r0)] [(.ref r0)]))
  refine own_callV Y0 hx hZ (y := (⟨"com/example/fillgauge/fillgauge/core/ColumnType", "length", "()I"⟩ : MethodName)) (z := (⟨"com/example/fillgauge/fillgauge/core/ColumnType", "length", "()I"⟩ : MethodName)) hown (hw _ (List.mem_of_getElem? (i := 41) rfl)) (hw _ (List.mem_of_getElem? (i := 42) rfl)) (notFace_of_selects (args := #[]) (mvT hZ (hw _ (List.mem_of_getElem? (i := 44) rfl)))) (hw _ (List.mem_of_getElem? (i := 44) rfl)) (hw _ (List.mem_of_getElem? (i := 43) rfl)) (hw _ (List.mem_of_getElem? (i := 7) rfl)) (hw _ (List.mem_of_getElem? (i := 45) rfl)) (by decide) (a := r0) E (argsL := []) (rest := []) (own_rm7 l Z a0 hw [] r0 w h0 n0  F) (W := 0) (by decide) (by decide) (by decide) (by decide) rfl (by rw [hml]; rfl) (lenOf own_pd2 rfl) rfl (by show 2 * 0 + _ ≤ _; exact Nat.le_of_eq rfl) (hb hby own_d6_1) (fun T177 h179 v180 Y178 q181 => ?_)
  obtain ⟨rfl, rfl⟩ := q181
  show own_Ends _ _ _ _ (T177.setTop (mkF m 4 #[.val (.ref r0)] [(.int w)]))
  by_cases c4_182 : w = (0 : Int32)
  ·
   refine own_st (fun t_ => XS.ifNo (own_here Y178) hx rfl (hb hby own_d6_4) rfl (XT.i0_ne_f c4_182)) ?_
   show own_Ends _ _ _ _ (T177.setTop (mkF m 7 #[.val (.ref r0)] []))
   refine own_ldcI Y178 hx hZ hown (hw _ (List.mem_of_getElem? (i := 51) rfl)) rfl (hb hby own_d6_7) ?_
   show own_Ends _ _ _ _ (T177.setTop (mkF m 9 #[.val (.ref r0)] [(.int (2147483647 : Int32))]))
   refine own_st (fun t_ => XS.goto (own_here Y178) hx rfl (pc0 := 9) (pc' := 16) rfl (hb hby own_d6_9) (by decide) (by decide)) ?_
   show own_Ends _ _ _ _ (T177.setTop (mkF m 16 #[.val (.ref r0)] [(.int (2147483647 : Int32))]))
   refine own_retI Y178 hx hlk hret (hb hby own_d6_16) (by decide) (by decide) ?_
   exact ⟨by simp [c4_182], rfl⟩
  ·
   refine own_st (fun t_ => XS.ifYes (own_here Y178) hx rfl (pc0 := 4) (pc' := 12) rfl (hb hby own_d6_4) rfl (XT.i0_ne_t c4_182) (by decide) (by decide)) ?_
   show own_Ends _ _ _ _ (T177.setTop (mkF m 12 #[.val (.ref r0)] []))
   refine own_st (fun t_ => XS.aloadN (own_here Y178) hx rfl (hb hby own_d6_12) rfl rfl) ?_
   show own_Ends _ _ _ _ (T177.setTop (mkF m 13 #[.val (.ref r0)] [(.ref r0)]))
   refine own_callV Y178 hx hZ (y := (⟨"com/example/fillgauge/fillgauge/core/ColumnType", "length", "()I"⟩ : MethodName)) (z := (⟨"com/example/fillgauge/fillgauge/core/ColumnType", "length", "()I"⟩ : MethodName)) hown (hw _ (List.mem_of_getElem? (i := 41) rfl)) (hw _ (List.mem_of_getElem? (i := 42) rfl)) (notFace_of_selects (args := #[]) (mvT hZ (hw _ (List.mem_of_getElem? (i := 44) rfl)))) (hw _ (List.mem_of_getElem? (i := 44) rfl)) (hw _ (List.mem_of_getElem? (i := 43) rfl)) (hw _ (List.mem_of_getElem? (i := 7) rfl)) (hw _ (List.mem_of_getElem? (i := 45) rfl)) (by decide) (a := r0) E (argsL := []) (rest := []) (own_rm7 l Z a0 hw [] r0 w h0 n0  F) (W := 0) (by decide) (by decide) (by decide) (by decide) rfl (by rw [hml]; rfl) (lenOf own_pd2 rfl) rfl (by show 2 * 0 + _ ≤ _; exact Nat.le_of_eq rfl) (hb hby own_d6_13) (fun T183 h185 v186 Y184 q187 => ?_)
   obtain ⟨rfl, rfl⟩ := q187
   show own_Ends _ _ _ _ (T183.setTop (mkF m 16 #[.val (.ref r0)] [(.int w)]))
   refine own_retI Y184 hx hlk hret (hb hby own_d6_16) (by decide) (by decide) ?_
   exact ⟨by simp [c4_182], rfl⟩
theorem own_pn3 : plainName "com/example/fillgauge/fillgauge/core/LookalikeTextLongestPinLaw" = true := by first | (simp [plainName, overriddenIn]; done) | decide +kernel
theorem own_pd3 : parseMethodDescriptor "(I)Lcom/example/fillgauge/fillgauge/core/ColumnType;" = some ⟨[.int], some (.object "com/example/fillgauge/fillgauge/core/ColumnType")⟩ := by decide +kernel
theorem own_pd4 : parseMethodDescriptor "(Lcom/example/fillgauge/fillgauge/core/ColumnType;)I" = some ⟨[(.object "com/example/fillgauge/fillgauge/core/ColumnType")], some .int⟩ := by decide +kernel
theorem own_pd5 : parseMethodDescriptor "(II)I" = some ⟨[.int, .int], some .int⟩ := by decide +kernel
theorem own_ef_own_rm0 (m : MethodId) (x0 : Int32) (x1 : Int32) : entryFrame m #[(.int x0), (.int x1)] maxLocals = mkF m 0 #[.val (.int x0), .val (.int x1), .unset, .unset, .unset, .unset] [] := by first | (simp [entryFrame, mkF, argsToLocals, Value.category, maxLocals]; done) | rfl
def own_Q_own_rm0 (Z : State) (x0 : Int32) (x1 : Int32) (h0 : Heap) (n0 : Nat) (v : Option Value) (h : Heap) : Prop := v = some (.int 1)
set_option maxRecDepth 65536 in
set_option maxHeartbeats 40000000 in
theorem own_rm0 (l : Launch) (Z : State) (a0 : Array Value) (hw : ∀ d ∈ tables_1, d.before a0 Z = true) (ws : List Jvm.Cond) (x0 : Int32) (x1 : Int32) (rC rD rV : Addr) (h0 : Heap) (n0 : Nat) (Z0 : n0 ≤ h0.size) (SCHAR : Sta Z h0 "com/example/fillgauge/fillgauge/core/ColumnType$Kind" "CHAR" "Lcom/example/fillgauge/fillgauge/core/ColumnType$Kind;" (.ref rC)) (SDECIMAL : Sta Z h0 "com/example/fillgauge/fillgauge/core/ColumnType$Kind" "DECIMAL" "Lcom/example/fillgauge/fillgauge/core/ColumnType$Kind;" (.ref rD)) (SVARCHAR : Sta Z h0 "com/example/fillgauge/fillgauge/core/ColumnType$Kind" "VARCHAR" "Lcom/example/fillgauge/fillgauge/core/ColumnType$Kind;" (.ref rV)) (nCD : rC ≠ rD) (nVC : rV ≠ rC) (nVD : rV ≠ rD) :
    own_Con l Z x code maxLocals ret ws room_1 #[(.int x0), (.int x1)] h0 n0 (own_Q_own_rm0 Z x0 x1 h0 n0) := by
  refine own_body (plainFor_of_name own_pn3) ?_
  intro p e s m below meth c T0 hx hZ hby hml hown hnm hret hlk Y0
  replace hown : s.vm.findClass "com/example/fillgauge/fillgauge/core/LookalikeTextLongestPinLaw" = some m.cls := hown
  replace hml : c.maxLocals = 6 := hml
  replace hret : meth.sig.returnType = some .boolean := hret
  rw [own_ef_own_rm0 m x0 x1]
  show own_Ends _ _ _ _ (T0.setTop (mkF m 0 #[.val (.int x0), .val (.int x1), .unset, .unset, .unset, .unset] []))
  refine own_st (fun t_ => XS.iloadN (own_here Y0) hx rfl (hb hby at_0) rfl) ?_
  show own_Ends _ _ _ _ (T0.setTop (mkF m 1 #[.val (.int x0), .val (.int x1), .unset, .unset, .unset, .unset] [(.int x0)]))
  refine own_ldcI Y0 hx hZ hown (hw _ (List.mem_of_getElem? (i := 0) rfl)) rfl (hb hby at_1) ?_
  show own_Ends _ _ _ _ (T0.setTop (mkF m 3 #[.val (.int x0), .val (.int x1), .unset, .unset, .unset, .unset] [(.int (2147483647 : Int32)), (.int x0)]))
  refine own_st (fun t_ => XS.iand (own_here Y0) hx rfl (hb hby at_3) rfl) ?_
  show own_Ends _ _ _ _ (T0.setTop (mkF m 4 #[.val (.int x0), .val (.int x1), .unset, .unset, .unset, .unset] [(.int (x0 &&& (2147483647 : Int32)))]))
  refine own_st (fun t_ => XS.istoreN (own_here Y0) hx rfl (hb hby at_4) rfl (l' := #[.val (.int x0), .val (.int x1), .val (.int (x0 &&& (2147483647 : Int32))), .unset, .unset, .unset]) rfl) ?_
  show own_Ends _ _ _ _ (T0.setTop (mkF m 5 #[.val (.int x0), .val (.int x1), .val (.int (x0 &&& (2147483647 : Int32))), .unset, .unset, .unset] []))
  generalize hn_ : (x0 &&& (2147483647 : Int32)) = n_
  have hlen : ¬ n_ < 0 := by have q := c_mask x0 2147483647 31 (by decide) (by decide); rw [hn_] at q; rw [own_lt]; have := Int.emod_nonneg x0.toInt (b := ((2 ^ 31 : Nat) : Int)) (by decide); show ¬ n_.toInt < 0; omega
  refine own_st (fun t_ => XS.iloadN (own_here Y0) hx rfl (hb hby at_5) rfl) ?_
  show own_Ends _ _ _ _ (T0.setTop (mkF m 6 #[.val (.int x0), .val (.int x1), .val (.int n_), .unset, .unset, .unset] [(.int x1)]))
  refine own_st (fun t_ => XS.iconst (own_here Y0) hx rfl (hb hby at_6) ) ?_
  show own_Ends _ _ _ _ (T0.setTop (mkF m 7 #[.val (.int x0), .val (.int x1), .val (.int n_), .unset, .unset, .unset] [(.int (1 : Int32)), (.int x1)]))
  refine own_st (fun t_ => XS.iand (own_here Y0) hx rfl (hb hby at_7) rfl) ?_
  show own_Ends _ _ _ _ (T0.setTop (mkF m 8 #[.val (.int x0), .val (.int x1), .val (.int n_), .unset, .unset, .unset] [(.int (x1 &&& (1 : Int32)))]))
  by_cases c8_188 : (x1 &&& (1 : Int32)) = (0 : Int32)
  ·
   refine own_st (fun t_ => XS.ifYes (own_here Y0) hx rfl (pc0 := 8) (pc' := 15) rfl (hb hby at_8) rfl (XT.i0_eq_t c8_188) (by decide) (by decide)) ?_
   show own_Ends _ _ _ _ (T0.setTop (mkF m 15 #[.val (.int x0), .val (.int x1), .val (.int n_), .unset, .unset, .unset] []))
   refine own_st (fun t_ => XS.iconst (own_here Y0) hx rfl (hb hby at_15) ) ?_
   show own_Ends _ _ _ _ (T0.setTop (mkF m 16 #[.val (.int x0), .val (.int x1), .val (.int n_), .unset, .unset, .unset] [(.int (0 : Int32))]))
   refine own_st (fun t_ => XS.istoreN (own_here Y0) hx rfl (hb hby at_16) rfl (l' := #[.val (.int x0), .val (.int x1), .val (.int n_), .val (.int (0 : Int32)), .unset, .unset]) rfl) ?_
   show own_Ends _ _ _ _ (T0.setTop (mkF m 17 #[.val (.int x0), .val (.int x1), .val (.int n_), .val (.int (0 : Int32)), .unset, .unset] []))
   refine own_st (fun t_ => XS.iloadN (own_here Y0) hx rfl (hb hby at_17) rfl) ?_
   show own_Ends _ _ _ _ (T0.setTop (mkF m 18 #[.val (.int x0), .val (.int x1), .val (.int n_), .val (.int (0 : Int32)), .unset, .unset] [(.int (0 : Int32))]))
   refine own_st (fun t_ => XS.ifYes (own_here Y0) hx rfl (pc0 := 18) (pc' := 51) rfl (hb hby at_18) rfl (XT.i0_eq_t (by decide)) (by decide) (by decide)) ?_
   show own_Ends _ _ _ _ (T0.setTop (mkF m 51 #[.val (.int x0), .val (.int x1), .val (.int n_), .val (.int (0 : Int32)), .unset, .unset] []))
   refine own_st (fun t_ => XS.iloadN (own_here Y0) hx rfl (hb hby at_51) rfl) ?_
   show own_Ends _ _ _ _ (T0.setTop (mkF m 52 #[.val (.int x0), .val (.int x1), .val (.int n_), .val (.int (0 : Int32)), .unset, .unset] [(.int n_)]))
   refine own_callS Y0 hx hZ (y := (⟨"com/example/fillgauge/fillgauge/core/ColumnType", "varchar", "(I)Lcom/example/fillgauge/fillgauge/core/ColumnType;"⟩ : MethodName)) hown (hw _ (List.mem_of_getElem? (i := 46) rfl)) (hw _ (List.mem_of_getElem? (i := 47) rfl)) (hw _ (List.mem_of_getElem? (i := 7) rfl)) (hw _ (List.mem_of_getElem? (i := 48) rfl)) (by decide) (argsL := [(.int n_)]) (rest := []) (own_rm8 l Z a0 hw [] n_ rC rD rV h0 n0 Z0 hlen SCHAR SDECIMAL SVARCHAR nVC nVD) (W := 0) (by decide) (by decide) (by decide) (by decide) rfl (by rw [hml]; rfl) (lenOf own_pd3 rfl) rfl (by show 2 * 0 + _ ≤ _; exact Nat.le_of_eq rfl) (hb hby at_52) (fun T189 h191 v192 Y190 q193 => ?_)
   obtain ⟨b194, rfl, E195, F196⟩ := q193
   show own_Ends _ _ _ _ (T189.setTop (mkF m 55 #[.val (.int x0), .val (.int x1), .val (.int n_), .val (.int (0 : Int32)), .unset, .unset] [(.ref b194)]))
   refine own_st (fun t_ => XS.astore (own_here Y190) hx rfl (hb hby at_55) rfl rfl (l' := #[.val (.int x0), .val (.int x1), .val (.int n_), .val (.int (0 : Int32)), .val (.ref b194), .unset]) rfl) ?_
   show own_Ends _ _ _ _ (T189.setTop (mkF m 57 #[.val (.int x0), .val (.int x1), .val (.int n_), .val (.int (0 : Int32)), .val (.ref b194), .unset] []))
   refine own_st (fun t_ => XS.aload (own_here Y190) hx rfl (hb hby at_57) rfl rfl) ?_
   show own_Ends _ _ _ _ (T189.setTop (mkF m 59 #[.val (.int x0), .val (.int x1), .val (.int n_), .val (.int (0 : Int32)), .val (.ref b194), .unset] [(.ref b194)]))
   refine own_callS Y190 hx hZ (y := (⟨"com/example/fillgauge/fillgauge/core/LookalikeText", "longest", "(Lcom/example/fillgauge/fillgauge/core/ColumnType;)I"⟩ : MethodName)) hown (hw _ (List.mem_of_getElem? (i := 37) rfl)) (hw _ (List.mem_of_getElem? (i := 38) rfl)) (hw _ (List.mem_of_getElem? (i := 39) rfl)) (hw _ (List.mem_of_getElem? (i := 40) rfl)) (by decide) (argsL := [(.ref b194)]) (rest := []) (own_rm6 l Z a0 hw [] b194 n_ h191 n0  E195 F196) (W := 0) (by decide) (by decide) (by decide) (by decide) rfl (by rw [hml]; rfl) (lenOf own_pd4 rfl) rfl (by show 2 * 0 + _ ≤ _; exact Nat.le_of_eq rfl) (hb hby at_59) (fun T197 h199 v200 Y198 q201 => ?_)
   obtain ⟨rfl, rfl⟩ := q201
   show own_Ends _ _ _ _ (T197.setTop (mkF m 62 #[.val (.int x0), .val (.int x1), .val (.int n_), .val (.int (0 : Int32)), .val (.ref b194), .unset] [(.int (if n_ = 0 then (2147483647 : Int32) else n_))]))
   refine own_st (fun t_ => XS.istore (own_here Y198) hx rfl (hb hby at_62) rfl (l' := #[.val (.int x0), .val (.int x1), .val (.int n_), .val (.int (0 : Int32)), .val (.ref b194), .val (.int (if n_ = 0 then (2147483647 : Int32) else n_))]) rfl) ?_
   show own_Ends _ _ _ _ (T197.setTop (mkF m 64 #[.val (.int x0), .val (.int x1), .val (.int n_), .val (.int (0 : Int32)), .val (.ref b194), .val (.int (if n_ = 0 then (2147483647 : Int32) else n_))] []))
   refine own_st (fun t_ => XS.iloadN (own_here Y198) hx rfl (hb hby at_64) rfl) ?_
   show own_Ends _ _ _ _ (T197.setTop (mkF m 65 #[.val (.int x0), .val (.int x1), .val (.int n_), .val (.int (0 : Int32)), .val (.ref b194), .val (.int (if n_ = 0 then (2147483647 : Int32) else n_))] [(.int n_)]))
   by_cases c65_202 : n_ = (0 : Int32)
   ·
    refine own_st (fun t_ => XS.ifNo (own_here Y198) hx rfl (hb hby at_65) rfl (XT.i0_ne_f c65_202)) ?_
    show own_Ends _ _ _ _ (T197.setTop (mkF m 68 #[.val (.int x0), .val (.int x1), .val (.int n_), .val (.int (0 : Int32)), .val (.ref b194), .val (.int (if n_ = 0 then (2147483647 : Int32) else n_))] []))
    refine own_st (fun t_ => XS.iload (own_here Y198) hx rfl (hb hby at_68) rfl) ?_
    show own_Ends _ _ _ _ (T197.setTop (mkF m 70 #[.val (.int x0), .val (.int x1), .val (.int n_), .val (.int (0 : Int32)), .val (.ref b194), .val (.int (if n_ = 0 then (2147483647 : Int32) else n_))] [(.int (if n_ = 0 then (2147483647 : Int32) else n_))]))
    refine own_ldcI Y198 hx hZ hown (hw _ (List.mem_of_getElem? (i := 0) rfl)) rfl (hb hby at_70) ?_
    show own_Ends _ _ _ _ (T197.setTop (mkF m 72 #[.val (.int x0), .val (.int x1), .val (.int n_), .val (.int (0 : Int32)), .val (.ref b194), .val (.int (if n_ = 0 then (2147483647 : Int32) else n_))] [(.int (2147483647 : Int32)), (.int (if n_ = 0 then (2147483647 : Int32) else n_))]))
    refine own_st (fun t_ => XS.icmpNo (own_here Y198) hx rfl (hb hby at_72) rfl (XT.ii_ne_f (by simp [c65_202]))) ?_
    show own_Ends _ _ _ _ (T197.setTop (mkF m 75 #[.val (.int x0), .val (.int x1), .val (.int n_), .val (.int (0 : Int32)), .val (.ref b194), .val (.int (if n_ = 0 then (2147483647 : Int32) else n_))] []))
    refine own_st (fun t_ => XS.iconst (own_here Y198) hx rfl (hb hby at_75) ) ?_
    show own_Ends _ _ _ _ (T197.setTop (mkF m 76 #[.val (.int x0), .val (.int x1), .val (.int n_), .val (.int (0 : Int32)), .val (.ref b194), .val (.int (if n_ = 0 then (2147483647 : Int32) else n_))] [(.int (1 : Int32))]))
    refine own_st (fun t_ => XS.goto (own_here Y198) hx rfl (pc0 := 76) (pc' := 80) rfl (hb hby at_76) (by decide) (by decide)) ?_
    show own_Ends _ _ _ _ (T197.setTop (mkF m 80 #[.val (.int x0), .val (.int x1), .val (.int n_), .val (.int (0 : Int32)), .val (.ref b194), .val (.int (if n_ = 0 then (2147483647 : Int32) else n_))] [(.int (1 : Int32))]))
    refine own_retN Y198 hx hlk (t := .boolean) hret (by simp) (hb hby at_80) (by decide) (by decide) ?_
    exact rfl
   ·
    refine own_st (fun t_ => XS.ifYes (own_here Y198) hx rfl (pc0 := 65) (pc' := 81) rfl (hb hby at_65) rfl (XT.i0_ne_t c65_202) (by decide) (by decide)) ?_
    show own_Ends _ _ _ _ (T197.setTop (mkF m 81 #[.val (.int x0), .val (.int x1), .val (.int n_), .val (.int (0 : Int32)), .val (.ref b194), .val (.int (if n_ = 0 then (2147483647 : Int32) else n_))] []))
    refine own_st (fun t_ => XS.iload (own_here Y198) hx rfl (hb hby at_81) rfl) ?_
    show own_Ends _ _ _ _ (T197.setTop (mkF m 83 #[.val (.int x0), .val (.int x1), .val (.int n_), .val (.int (0 : Int32)), .val (.ref b194), .val (.int (if n_ = 0 then (2147483647 : Int32) else n_))] [(.int (if n_ = 0 then (2147483647 : Int32) else n_))]))
    refine own_st (fun t_ => XS.iloadN (own_here Y198) hx rfl (hb hby at_83) rfl) ?_
    show own_Ends _ _ _ _ (T197.setTop (mkF m 84 #[.val (.int x0), .val (.int x1), .val (.int n_), .val (.int (0 : Int32)), .val (.ref b194), .val (.int (if n_ = 0 then (2147483647 : Int32) else n_))] [(.int n_), (.int (if n_ = 0 then (2147483647 : Int32) else n_))]))
    refine own_st (fun t_ => XS.icmpNo (own_here Y198) hx rfl (hb hby at_84) rfl (XT.ii_ne_f (by simp [c65_202]))) ?_
    show own_Ends _ _ _ _ (T197.setTop (mkF m 87 #[.val (.int x0), .val (.int x1), .val (.int n_), .val (.int (0 : Int32)), .val (.ref b194), .val (.int (if n_ = 0 then (2147483647 : Int32) else n_))] []))
    refine own_st (fun t_ => XS.iconst (own_here Y198) hx rfl (hb hby at_87) ) ?_
    show own_Ends _ _ _ _ (T197.setTop (mkF m 88 #[.val (.int x0), .val (.int x1), .val (.int n_), .val (.int (0 : Int32)), .val (.ref b194), .val (.int (if n_ = 0 then (2147483647 : Int32) else n_))] [(.int (1 : Int32))]))
    refine own_st (fun t_ => XS.goto (own_here Y198) hx rfl (pc0 := 88) (pc' := 92) rfl (hb hby at_88) (by decide) (by decide)) ?_
    show own_Ends _ _ _ _ (T197.setTop (mkF m 92 #[.val (.int x0), .val (.int x1), .val (.int n_), .val (.int (0 : Int32)), .val (.ref b194), .val (.int (if n_ = 0 then (2147483647 : Int32) else n_))] [(.int (1 : Int32))]))
    refine own_retN Y198 hx hlk (t := .boolean) hret (by simp) (hb hby at_92) (by decide) (by decide) ?_
    exact rfl
  ·
   refine own_st (fun t_ => XS.ifNo (own_here Y0) hx rfl (hb hby at_8) rfl (XT.i0_eq_f c8_188)) ?_
   show own_Ends _ _ _ _ (T0.setTop (mkF m 11 #[.val (.int x0), .val (.int x1), .val (.int n_), .unset, .unset, .unset] []))
   refine own_st (fun t_ => XS.iconst (own_here Y0) hx rfl (hb hby at_11) ) ?_
   show own_Ends _ _ _ _ (T0.setTop (mkF m 12 #[.val (.int x0), .val (.int x1), .val (.int n_), .unset, .unset, .unset] [(.int (1 : Int32))]))
   refine own_st (fun t_ => XS.goto (own_here Y0) hx rfl (pc0 := 12) (pc' := 16) rfl (hb hby at_12) (by decide) (by decide)) ?_
   show own_Ends _ _ _ _ (T0.setTop (mkF m 16 #[.val (.int x0), .val (.int x1), .val (.int n_), .unset, .unset, .unset] [(.int (1 : Int32))]))
   refine own_st (fun t_ => XS.istoreN (own_here Y0) hx rfl (hb hby at_16) rfl (l' := #[.val (.int x0), .val (.int x1), .val (.int n_), .val (.int (1 : Int32)), .unset, .unset]) rfl) ?_
   show own_Ends _ _ _ _ (T0.setTop (mkF m 17 #[.val (.int x0), .val (.int x1), .val (.int n_), .val (.int (1 : Int32)), .unset, .unset] []))
   refine own_st (fun t_ => XS.iloadN (own_here Y0) hx rfl (hb hby at_17) rfl) ?_
   show own_Ends _ _ _ _ (T0.setTop (mkF m 18 #[.val (.int x0), .val (.int x1), .val (.int n_), .val (.int (1 : Int32)), .unset, .unset] [(.int (1 : Int32))]))
   refine own_st (fun t_ => XS.ifNo (own_here Y0) hx rfl (hb hby at_18) rfl (XT.i0_eq_f (by decide))) ?_
   show own_Ends _ _ _ _ (T0.setTop (mkF m 21 #[.val (.int x0), .val (.int x1), .val (.int n_), .val (.int (1 : Int32)), .unset, .unset] []))
   refine own_st (fun t_ => XS.iloadN (own_here Y0) hx rfl (hb hby at_21) rfl) ?_
   show own_Ends _ _ _ _ (T0.setTop (mkF m 22 #[.val (.int x0), .val (.int x1), .val (.int n_), .val (.int (1 : Int32)), .unset, .unset] [(.int n_)]))
   refine own_st (fun t_ => XS.iconst (own_here Y0) hx rfl (hb hby at_22) ) ?_
   show own_Ends _ _ _ _ (T0.setTop (mkF m 23 #[.val (.int x0), .val (.int x1), .val (.int n_), .val (.int (1 : Int32)), .unset, .unset] [(.int (1 : Int32)), (.int n_)]))
   refine own_callS Y0 hx hZ (y := (⟨"java/lang/Math", "max", "(II)I"⟩ : MethodName)) hown (hw _ (List.mem_of_getElem? (i := 1) rfl)) (hw _ (List.mem_of_getElem? (i := 2) rfl)) (hw _ (List.mem_of_getElem? (i := 3) rfl)) (hw _ (List.mem_of_getElem? (i := 4) rfl)) (by decide) (argsL := [(.int n_), (.int (1 : Int32))]) (rest := []) (own_rm1 l Z a0 hw [] n_ (1 : Int32)  h0 n0  ) (W := 0) (by decide) (by decide) (by decide) (by decide) rfl (by rw [hml]; rfl) (lenOf own_pd5 rfl) rfl (by show 2 * 0 + _ ≤ _; exact Nat.le_of_eq rfl) (hb hby at_23) (fun T203 h205 v206 Y204 q207 => ?_)
   obtain ⟨rfl, rfl⟩ := q207
   show own_Ends _ _ _ _ (T203.setTop (mkF m 26 #[.val (.int x0), .val (.int x1), .val (.int n_), .val (.int (1 : Int32)), .unset, .unset] [(.int (own_max n_ (1 : Int32)))]))
   refine own_st (fun t_ => XS.istore (own_here Y204) hx rfl (hb hby at_26) rfl (l' := #[.val (.int x0), .val (.int x1), .val (.int n_), .val (.int (1 : Int32)), .val (.int (own_max n_ (1 : Int32))), .unset]) rfl) ?_
   show own_Ends _ _ _ _ (T203.setTop (mkF m 28 #[.val (.int x0), .val (.int x1), .val (.int n_), .val (.int (1 : Int32)), .val (.int (own_max n_ (1 : Int32))), .unset] []))
   generalize hm_ : (own_max n_ (1 : Int32)) = m_
   have hm1 : 1 ≤ m_.toInt := by rw [← hm_, own_max]; have e1 : (1 : Int32).toInt = 1 := rfl; split <;> rename_i q <;> simp only [own_lt] at q <;> omega
   have hmlo : ¬ m_ < 0 := by rw [own_lt]; show ¬ m_.toInt < 0; omega
   have hmnz : ¬ m_ = 0 := by rw [own_eq]; show ¬ m_.toInt = 0; omega
   refine own_st (fun t_ => XS.iload (own_here Y204) hx rfl (hb hby at_28) rfl) ?_
   show own_Ends _ _ _ _ (T203.setTop (mkF m 30 #[.val (.int x0), .val (.int x1), .val (.int n_), .val (.int (1 : Int32)), .val (.int m_), .unset] [(.int m_)]))
   refine own_callS Y204 hx hZ (y := (⟨"com/example/fillgauge/fillgauge/core/ColumnType", "chars", "(I)Lcom/example/fillgauge/fillgauge/core/ColumnType;"⟩ : MethodName)) hown (hw _ (List.mem_of_getElem? (i := 5) rfl)) (hw _ (List.mem_of_getElem? (i := 6) rfl)) (hw _ (List.mem_of_getElem? (i := 7) rfl)) (hw _ (List.mem_of_getElem? (i := 8) rfl)) (by decide) (argsL := [(.int m_)]) (rest := []) (own_rm2 l Z a0 hw [] m_ rC rD h0 n0 Z0 hmlo SCHAR SDECIMAL hmnz nCD) (W := 0) (by decide) (by decide) (by decide) (by decide) rfl (by rw [hml]; rfl) (lenOf own_pd3 rfl) rfl (by show 2 * 0 + _ ≤ _; exact Nat.le_of_eq rfl) (hb hby at_30) (fun T208 h210 v211 Y209 q212 => ?_)
   obtain ⟨b213, rfl, E214, F215⟩ := q212
   show own_Ends _ _ _ _ (T208.setTop (mkF m 33 #[.val (.int x0), .val (.int x1), .val (.int n_), .val (.int (1 : Int32)), .val (.int m_), .unset] [(.ref b213)]))
   refine own_st (fun t_ => XS.astore (own_here Y209) hx rfl (hb hby at_33) rfl rfl (l' := #[.val (.int x0), .val (.int x1), .val (.int n_), .val (.int (1 : Int32)), .val (.int m_), .val (.ref b213)]) rfl) ?_
   show own_Ends _ _ _ _ (T208.setTop (mkF m 35 #[.val (.int x0), .val (.int x1), .val (.int n_), .val (.int (1 : Int32)), .val (.int m_), .val (.ref b213)] []))
   refine own_st (fun t_ => XS.aload (own_here Y209) hx rfl (hb hby at_35) rfl rfl) ?_
   show own_Ends _ _ _ _ (T208.setTop (mkF m 37 #[.val (.int x0), .val (.int x1), .val (.int n_), .val (.int (1 : Int32)), .val (.int m_), .val (.ref b213)] [(.ref b213)]))
   refine own_callS Y209 hx hZ (y := (⟨"com/example/fillgauge/fillgauge/core/LookalikeText", "longest", "(Lcom/example/fillgauge/fillgauge/core/ColumnType;)I"⟩ : MethodName)) hown (hw _ (List.mem_of_getElem? (i := 37) rfl)) (hw _ (List.mem_of_getElem? (i := 38) rfl)) (hw _ (List.mem_of_getElem? (i := 39) rfl)) (hw _ (List.mem_of_getElem? (i := 40) rfl)) (by decide) (argsL := [(.ref b213)]) (rest := []) (own_rm6 l Z a0 hw [] b213 m_ h210 n0  E214 F215) (W := 0) (by decide) (by decide) (by decide) (by decide) rfl (by rw [hml]; rfl) (lenOf own_pd4 rfl) rfl (by show 2 * 0 + _ ≤ _; exact Nat.le_of_eq rfl) (hb hby at_37) (fun T216 h218 v219 Y217 q220 => ?_)
   obtain ⟨rfl, rfl⟩ := q220
   show own_Ends _ _ _ _ (T216.setTop (mkF m 40 #[.val (.int x0), .val (.int x1), .val (.int n_), .val (.int (1 : Int32)), .val (.int m_), .val (.ref b213)] [(.int (if m_ = 0 then (2147483647 : Int32) else m_))]))
   refine own_st (fun t_ => XS.iload (own_here Y217) hx rfl (hb hby at_40) rfl) ?_
   show own_Ends _ _ _ _ (T216.setTop (mkF m 42 #[.val (.int x0), .val (.int x1), .val (.int n_), .val (.int (1 : Int32)), .val (.int m_), .val (.ref b213)] [(.int m_), (.int (if m_ = 0 then (2147483647 : Int32) else m_))]))
   refine own_st (fun t_ => XS.icmpNo (own_here Y217) hx rfl (hb hby at_42) rfl (XT.ii_ne_f (by simp [hmnz]))) ?_
   show own_Ends _ _ _ _ (T216.setTop (mkF m 45 #[.val (.int x0), .val (.int x1), .val (.int n_), .val (.int (1 : Int32)), .val (.int m_), .val (.ref b213)] []))
   refine own_st (fun t_ => XS.iconst (own_here Y217) hx rfl (hb hby at_45) ) ?_
   show own_Ends _ _ _ _ (T216.setTop (mkF m 46 #[.val (.int x0), .val (.int x1), .val (.int n_), .val (.int (1 : Int32)), .val (.int m_), .val (.ref b213)] [(.int (1 : Int32))]))
   refine own_st (fun t_ => XS.goto (own_here Y217) hx rfl (pc0 := 46) (pc' := 50) rfl (hb hby at_46) (by decide) (by decide)) ?_
   show own_Ends _ _ _ _ (T216.setTop (mkF m 50 #[.val (.int x0), .val (.int x1), .val (.int n_), .val (.int (1 : Int32)), .val (.int m_), .val (.ref b213)] [(.int (1 : Int32))]))
   refine own_retN Y217 hx hlk (t := .boolean) hret (by simp) (hb hby at_50) (by decide) (by decide) ?_
   exact rfl
set_option maxRecDepth 65536 in
set_option maxHeartbeats 40000000 in
theorem own_comes_1 {Post : Tables → Env → Array Value → State → Outcome → State → Prop} (hpost : ∀ tb e args s v u, (limb_1_1.after args s (.returned v) u = true ∧ limb_1_2.after args s (.returned v) u = true ∧ True) → FrameEnd s (.returned v) u (Jvm.fieldLocs frame_1_writes args s ++ Jvm.arrayLocs frame_1_arrays args s ++ Jvm.staticLocs frame_1_statics s) 16 128 → Post tb e args s (.returned v) u) :
    ArmFor flags0 classFile x code maxLocals ret World_1 tables_1 room_1 Calls_1 rest_1 Pre_1 Post := by
  intro l hfl _ _ p e ha hc hk s m args below hf hA hF happ hP
  obtain ⟨hcalls, hrest, hpre⟩ := hP
  obtain ⟨-, -, -, hnamed, -, -, -, hat⟩ := (Spec.applies_iff hf).mp happ
  obtain ⟨hg, hn⟩ := and_e (Cond.before_iff.mp (show (Jvm.Cond.and given_1 narrow_1).before args s = true from hpre))
  obtain ⟨g1, g2⟩ := and_e hg
  obtain ⟨g3, g4⟩ := and_e g2
  obtain ⟨w0, w1, rfl⟩ : ∃ w0 w1 : Value, args = #[w0, w1] := by
    have hs : args.size = 2 := by simpa [Cond.value, given_1] using g1
    obtain ⟨L⟩ := args
    match L, hs with
    | [w0, w1], _ => exact ⟨w0, w1, rfl⟩
  have hw := fun d (hd : d ∈ tables_1) => atoms_spec (ws := Jvm.Cond.code x code maxLocals ret :: tables_1) hat d (List.mem_cons_of_mem _ hd)
  have hfit : Fit s := fun {y c} hc i hi => by
    obtain ⟨ha, rfl⟩ := Array.getElem?_eq_some_iff.mp hc
    have q := List.all_eq_true.mp ((Array.all_eq_true_iff_forall_mem.mp hF) _ (Array.getElem_mem ha)) i (List.mem_range.mpr hi)
    simpa [Array.getElem?_eq_getElem hi] using q
  obtain ⟨i0, ei0⟩ := is_v g3
  obtain rfl : w0 = (.int i0) := Option.some.inj ei0
  obtain ⟨i1, ei1⟩ := is_v g4
  obtain rfl : w1 = (.int i1) := Option.some.inj ei1
  obtain ⟨xCHAR, hn1⟩ := and_e hn
  obtain ⟨xDECIMAL, hn2⟩ := and_e hn1
  obtain ⟨oCHAR, hn3⟩ := and_e hn2
  obtain ⟨oDECIMAL, hn4⟩ := and_e hn3
  obtain ⟨xVARCHAR, oVARCHAR⟩ := and_e hn4
  obtain ⟨rC, evCHAR, SCHAR, ECHAR⟩ := own_static xCHAR (hw _ (List.mem_of_getElem? (i := 12) rfl)) (hw _ (List.mem_of_getElem? (i := 13) rfl))
  have FCHAR := own_fldI evCHAR oCHAR
  obtain ⟨rD, evDECIMAL, SDECIMAL, EDECIMAL⟩ := own_static xDECIMAL (hw _ (List.mem_of_getElem? (i := 12) rfl)) (hw _ (List.mem_of_getElem? (i := 26) rfl))
  have FDECIMAL := own_fldI evDECIMAL oDECIMAL
  obtain ⟨rV, evVARCHAR, SVARCHAR, EVARCHAR⟩ := own_static xVARCHAR (hw _ (List.mem_of_getElem? (i := 12) rfl)) (hw _ (List.mem_of_getElem? (i := 50) rfl))
  have FVARCHAR := own_fldI evVARCHAR oVARCHAR
  obtain ⟨n, o, h1, h2, h3, _, L, rfl, ⟨N, rfl⟩, hq⟩ := own_rm0 l s _ hw tables_1 i0 i1 rC rD rV s.heap s.heap.size (Nat.le_refl _) SCHAR SDECIMAL SVARCHAR (FCHAR.ne FDECIMAL (by decide)) (FVARCHAR.ne FCHAR (by decide)) (FVARCHAR.ne FDECIMAL (by decide)) p e ha hc hk s m _ below hf ((Spec.applies_iff_loose hf).mp happ).1 ⟨rfl, State.Warmed39.refl s, rfl⟩ trivial
  refine ⟨n, _, h1, h2, h3, hpost _ _ _ _ _ _ ⟨Cond.after_iff.mpr rfl, Cond.after_iff.mpr (eq_i res_at (Term.int_eval (1)) rfl), trivial⟩ ⟨hq.1, hq.2.1, (hq.2.2.sift fun y hy => Or.inr (N y hy)).mono (by decide) (by decide)⟩⟩
theorem main_1_1 : Claimed_1_1 := own_comes_1 fun _ _ _ _ _ _ h hF => ⟨h.1, hF⟩
theorem main_1_2 : Claimed_1_2 := own_comes_1 fun _ _ _ _ _ _ h hF => ⟨h.2.1, hF⟩
end Jvm.Pilot.@@N@@
namespace Jvm.Pilot.@@N@@
open Jvm Jvm.ClassFile Sem Op Lib Jvm.Free Jvm.Stand Jvm.Pilot.@@N@@.Jvm.D
/-! MADE BY PROGRAM (witnessworld.py) out of the Statement's table words and the real class files: 16 classes; the members and pool entries that the words name. The judged class is class 1, her method 1. -/
namespace start1
open Jvm.ClassFile
def u (s : String) : CpInfo := .utf8 (stringToUtf16 s)
/-- a pool by its gaps: so many unusable entries, then the entry; so many at the end -/
def gap : Nat → List CpInfo → List CpInfo
  | 0, r => r
  | n + 1, r => .unusable :: gap n r
def poolList (es : List (Nat × CpInfo)) (last : Nat) : List CpInfo := es.foldr (fun e r => gap e.1 (e.2 :: r)) (gap last [])
def pool (es : List (Nat × CpInfo)) (last : Nat) : Array CpInfo := ⟨poolList es last⟩
def fileOf (pool : Array CpInfo) (this : Nat) (attrs : Array Attribute := #[]) (ms : Array MethodInfo := #[]) (fl : Nat := 33) (sup : Nat := 0) (ifs : Array Nat := #[]) (fds : Array FieldInfo := #[]) : ClassFile where
  minorVersion := 0
  majorVersion := 65
  constantPool := pool
  accessFlags := fl
  thisClass := this
  superClass := sup
  interfaces := ifs
  fields := fds
  methods := ms
  attributes := attrs
def plain (name : String) (sup : Option ClassId) : Class where
  name := name
  kind := .ordinary
  loader := none
  accessFlags := 33
  super := sup
  interfaces := #[]
  cf := none
  fields := #[]
  methods := #[]
  instanceTypes := #[]
  staticTypes := #[]
  resolved := #[]
  callSites := []
  init := .initialized
  statics := none
  mirror := none

def pool0 : Array CpInfo := pool [(5, u "<init>"), (0, u "()V"), (1, .class_ 10), (1, u "java/lang/Object")] 113

def k0c0 : Code := { maxStack := 0, maxLocals := 1, code := object_method_1_code, exceptionTable := #[], attributes := #[] }
def k0m0 : Method := { name := "<init>", desc := "()V", sig := { parameters := [], returnType := none }, accessFlags := 1, code := some k0c0 }
/-- java/lang/Object -/
def k0 : Class := { plain "java/lang/Object" none with
  accessFlags := 33
  interfaces := #[]
  cf := some (fileOf pool0 8 #[] #[{ accessFlags := 1, nameIndex := 5, descriptorIndex := 6, attributes := #[] }] 33 0 #[] #[])
  fields := #[]
  methods := #[k0m0]
  instanceTypes := #[]
  staticTypes := #[]
  resolved := Array.replicate 124 none
  statics := none }

def pool1 : Array CpInfo := pool [(2, .class_ 4), (1, u "java/lang/Object"), (0, u "<init>"), (0, u "()V"), (0, .integer 2147483647), (0, .methodref 9 10), (0, .class_ 11), (0, .nameAndType 12 13), (0, u "java/lang/Math"), (0, u "max"), (0, u "(II)I"), (0, .methodref 15 16), (0, .class_ 17), (0, .nameAndType 18 19), (0, u "com/example/fillgauge/fillgauge/core/ColumnType"), (0, u "chars"), (0, u "(I)Lcom/example/fillgauge/fillgauge/core/ColumnType;"), (0, .methodref 21 22), (0, .class_ 23), (0, .nameAndType 24 25), (0, u "com/example/fillgauge/fillgauge/core/LookalikeText"), (0, u "longest"), (0, u "(Lcom/example/fillgauge/fillgauge/core/ColumnType;)I"), (0, .methodref 15 27), (0, .nameAndType 28 19), (0, u "varchar"), (2, .class_ 32), (0, u "com/example/fillgauge/fillgauge/core/LookalikeTextLongestPinLaw"), (2, u "law"), (0, u "(II)Z")] 3

def k1m0 : Method := { name := "<init>", desc := "()V", sig := { parameters := [], returnType := none }, accessFlags := 2, code := none }
def k1c1 : Code := { maxStack := 2, maxLocals := 6, code := code, exceptionTable := #[], attributes := #[] }
def k1m1 : Method := { name := "law", desc := "(II)Z", sig := { parameters := [.int, .int], returnType := some .boolean }, accessFlags := 9, code := some k1c1 }
/-- com/example/fillgauge/fillgauge/core/LookalikeTextLongestPinLaw -/
def k1 : Class := { plain "com/example/fillgauge/fillgauge/core/LookalikeTextLongestPinLaw" (some 0) with
  accessFlags := 49
  interfaces := #[]
  cf := some (fileOf pool1 31 #[] #[{ accessFlags := 2, nameIndex := 5, descriptorIndex := 6, attributes := #[] }, { accessFlags := 9, nameIndex := 35, descriptorIndex := 36, attributes := #[] }] 49 2 #[] #[])
  fields := #[]
  methods := #[k1m0, k1m1]
  instanceTypes := #[]
  staticTypes := #[]
  resolved := Array.replicate 40 none
  statics := none }

def pool2 : Array CpInfo := pool [(1, .class_ 2), (0, u "java/lang/Math"), (1, .class_ 6), (1, u "java/lang/Object"), (0, u "<init>"), (0, u "()V"), (89, .class_ 100), (1, u "java/lang/Math$RandomNumberGeneratorHolder"), (71, u "negativeZeroFloatBits"), (0, u "J"), (2, u "negativeZeroDoubleBits"), (21, u "max"), (46, u "$assertionsDisabled"), (0, u "Z"), (88, u "(II)I"), (2, u "twoToTheDoubleScaleDown"), (0, u "D"), (4, u "twoToTheDoubleScaleUp"), (9, u "E"), (3, u "PI"), (2, u "TAU"), (2, u "DEGREES_TO_RADIANS"), (0, u "RADIANS_TO_DEGREES")] 94

def k2m0 : Method := { name := "<init>", desc := "()V", sig := { parameters := [], returnType := none }, accessFlags := 2, code := none }
def k2c1 : Code := { maxStack := 2, maxLocals := 2, code := jdk_29_method_65_code, exceptionTable := #[], attributes := #[] }
def k2m1 : Method := { name := "max", desc := "(II)I", sig := { parameters := [.int, .int], returnType := some .int }, accessFlags := 9, code := some k2c1 }
/-- java/lang/Math -/
def k2 : Class := { plain "java/lang/Math" (some 0) with
  accessFlags := 49
  interfaces := #[]
  cf := some (fileOf pool2 1 #[.nestMembers #[98]] #[{ accessFlags := 2, nameIndex := 7, descriptorIndex := 8, attributes := #[] }, { accessFlags := 9, nameIndex := 198, descriptorIndex := 335, attributes := #[] }] 49 4 #[] #[{ accessFlags := 25, nameIndex := 354, descriptorIndex := 339, attributes := #[] }, { accessFlags := 25, nameIndex := 358, descriptorIndex := 339, attributes := #[] }, { accessFlags := 25, nameIndex := 361, descriptorIndex := 339, attributes := #[] }, { accessFlags := 26, nameIndex := 364, descriptorIndex := 339, attributes := #[] }, { accessFlags := 26, nameIndex := 365, descriptorIndex := 339, attributes := #[] }, { accessFlags := 26, nameIndex := 172, descriptorIndex := 173, attributes := #[] }, { accessFlags := 26, nameIndex := 176, descriptorIndex := 173, attributes := #[] }, { accessFlags := 8, nameIndex := 344, descriptorIndex := 339, attributes := #[] }, { accessFlags := 8, nameIndex := 338, descriptorIndex := 339, attributes := #[] }, { accessFlags := 4120, nameIndex := 245, descriptorIndex := 246, attributes := #[] }])
  fields := #[{ name := "E", type := .double, accessFlags := 25, slot := 0, constantValue := 0 }, { name := "PI", type := .double, accessFlags := 25, slot := 1, constantValue := 0 }, { name := "TAU", type := .double, accessFlags := 25, slot := 2, constantValue := 0 }, { name := "DEGREES_TO_RADIANS", type := .double, accessFlags := 26, slot := 3, constantValue := 0 }, { name := "RADIANS_TO_DEGREES", type := .double, accessFlags := 26, slot := 4, constantValue := 0 }, { name := "negativeZeroFloatBits", type := .long, accessFlags := 26, slot := 5, constantValue := 0 }, { name := "negativeZeroDoubleBits", type := .long, accessFlags := 26, slot := 6, constantValue := 0 }, { name := "twoToTheDoubleScaleUp", type := .double, accessFlags := 8, slot := 7, constantValue := 0 }, { name := "twoToTheDoubleScaleDown", type := .double, accessFlags := 8, slot := 8, constantValue := 0 }, { name := "$assertionsDisabled", type := .boolean, accessFlags := 4120, slot := 9, constantValue := 0 }]
  methods := #[k2m0, k2m1]
  instanceTypes := #[]
  staticTypes := #[.double, .double, .double, .double, .double, .long, .long, .double, .double, .boolean]
  resolved := Array.replicate 460 none
  statics := none }

def pool3 : Array CpInfo := pool [(1, .methodref 2 3), (0, .class_ 4), (0, .nameAndType 5 6), (0, u "java/lang/Object"), (0, u "<init>"), (0, u "()V"), (0, .class_ 8), (0, u "java/lang/Record")] 13

def k3c0 : Code := { maxStack := 1, maxLocals := 1, code := jdk_30_method_1_code, exceptionTable := #[], attributes := #[] }
def k3m0 : Method := { name := "<init>", desc := "()V", sig := { parameters := [], returnType := none }, accessFlags := 4, code := some k3c0 }
/-- java/lang/Record -/
def k3 : Class := { plain "java/lang/Record" (some 0) with
  accessFlags := 1057
  interfaces := #[]
  cf := some (fileOf pool3 7 #[] #[{ accessFlags := 4, nameIndex := 5, descriptorIndex := 6, attributes := #[] }] 1057 2 #[] #[])
  fields := #[]
  methods := #[k3m0]
  instanceTypes := #[]
  staticTypes := #[]
  resolved := Array.replicate 22 none
  statics := none }

def pool4 : Array CpInfo := pool [(1, .methodref 2 3), (0, .class_ 4), (0, .nameAndType 5 6), (0, u "java/lang/Record"), (0, u "<init>"), (0, u "()V"), (11, .fieldref 19 20), (0, .class_ 21), (0, .nameAndType 22 23), (0, u "com/example/fillgauge/fillgauge/core/ColumnType$Kind"), (0, u "CHAR"), (0, u "Lcom/example/fillgauge/fillgauge/core/ColumnType$Kind;"), (0, .fieldref 19 25), (0, .nameAndType 26 23), (0, u "VARCHAR"), (11, .fieldref 19 39), (0, .nameAndType 40 23), (0, u "DECIMAL"), (6, .fieldref 48 49), (0, .class_ 50), (0, .nameAndType 51 23), (0, u "com/example/fillgauge/fillgauge/core/ColumnType"), (0, u "kind"), (0, .fieldref 48 53), (0, .nameAndType 54 55), (0, u "length"), (0, u "I"), (0, .fieldref 48 57), (0, .nameAndType 58 55), (0, u "precision"), (0, .fieldref 48 60), (0, .nameAndType 61 55), (0, u "scale"), (0, .fieldref 48 63), (0, .nameAndType 64 65), (0, u "withTimeZone"), (0, u "Z"), (0, .methodref 48 67), (0, .nameAndType 5 68), (0, u "(Lcom/example/fillgauge/fillgauge/core/ColumnType$Kind;IIIZ)V"), (3, u "()I"), (22, u "UNBOUNDED"), (8, u "chars"), (0, u "(I)Lcom/example/fillgauge/fillgauge/core/ColumnType;"), (0, u "varchar")] 56

def k4c0 : Code := { maxStack := 4, maxLocals := 7, code := prog_3_method_1_code, exceptionTable := #[], attributes := #[] }
def k4m0 : Method := { name := "<init>", desc := "(Lcom/example/fillgauge/fillgauge/core/ColumnType$Kind;IIIZ)V", sig := { parameters := [(.object "com/example/fillgauge/fillgauge/core/ColumnType$Kind"), .int, .int, .int, .boolean], returnType := none }, accessFlags := 1, code := some k4c0 }
def k4c1 : Code := { maxStack := 7, maxLocals := 1, code := prog_3_method_3_code, exceptionTable := #[], attributes := #[] }
def k4m1 : Method := { name := "chars", desc := "(I)Lcom/example/fillgauge/fillgauge/core/ColumnType;", sig := { parameters := [.int], returnType := some (.object "com/example/fillgauge/fillgauge/core/ColumnType") }, accessFlags := 9, code := some k4c1 }
def k4c2 : Code := { maxStack := 7, maxLocals := 1, code := prog_3_method_4_code, exceptionTable := #[], attributes := #[] }
def k4m2 : Method := { name := "varchar", desc := "(I)Lcom/example/fillgauge/fillgauge/core/ColumnType;", sig := { parameters := [.int], returnType := some (.object "com/example/fillgauge/fillgauge/core/ColumnType") }, accessFlags := 9, code := some k4c2 }
def k4c3 : Code := { maxStack := 1, maxLocals := 1, code := prog_3_method_11_code, exceptionTable := #[], attributes := #[] }
def k4m3 : Method := { name := "length", desc := "()I", sig := { parameters := [], returnType := some .int }, accessFlags := 1, code := some k4c3 }
/-- com/example/fillgauge/fillgauge/core/ColumnType -/
def k4 : Class := { plain "com/example/fillgauge/fillgauge/core/ColumnType" (some 3) with
  accessFlags := 49
  interfaces := #[]
  cf := some (fileOf pool4 48 #[.nestMembers #[19]] #[{ accessFlags := 1, nameIndex := 5, descriptorIndex := 68, attributes := #[] }, { accessFlags := 9, nameIndex := 104, descriptorIndex := 105, attributes := #[] }, { accessFlags := 9, nameIndex := 106, descriptorIndex := 105, attributes := #[] }, { accessFlags := 1, nameIndex := 54, descriptorIndex := 72, attributes := #[] }] 49 2 #[] #[{ accessFlags := 18, nameIndex := 51, descriptorIndex := 23, attributes := #[] }, { accessFlags := 18, nameIndex := 54, descriptorIndex := 55, attributes := #[] }, { accessFlags := 18, nameIndex := 58, descriptorIndex := 55, attributes := #[] }, { accessFlags := 18, nameIndex := 61, descriptorIndex := 55, attributes := #[] }, { accessFlags := 18, nameIndex := 64, descriptorIndex := 65, attributes := #[] }, { accessFlags := 25, nameIndex := 95, descriptorIndex := 55, attributes := #[] }])
  fields := #[{ name := "kind", type := (.object "com/example/fillgauge/fillgauge/core/ColumnType$Kind"), accessFlags := 18, slot := 0, constantValue := 0 }, { name := "length", type := .int, accessFlags := 18, slot := 1, constantValue := 0 }, { name := "precision", type := .int, accessFlags := 18, slot := 2, constantValue := 0 }, { name := "scale", type := .int, accessFlags := 18, slot := 3, constantValue := 0 }, { name := "withTimeZone", type := .boolean, accessFlags := 18, slot := 4, constantValue := 0 }, { name := "UNBOUNDED", type := .int, accessFlags := 25, slot := 0, constantValue := 0 }]
  methods := #[k4m0, k4m1, k4m2, k4m3]
  instanceTypes := #[(.object "com/example/fillgauge/fillgauge/core/ColumnType$Kind"), .int, .int, .int, .boolean]
  staticTypes := #[.int]
  resolved := Array.replicate 163 none
  statics := none }

def pool5 : Array CpInfo := pool [(1, .class_ 2), (0, u "java/lang/constant/Constable"), (0, .class_ 4), (0, u "java/lang/Object")] 6

/-- java/lang/constant/Constable -/
def k5 : Class := { plain "java/lang/constant/Constable" (some 0) with
  accessFlags := 1537
  interfaces := #[]
  cf := some (fileOf pool5 1 #[] #[] 1537 3 #[] #[])
  fields := #[]
  methods := #[]
  instanceTypes := #[]
  staticTypes := #[]
  resolved := Array.replicate 11 none
  statics := none }

def pool6 : Array CpInfo := pool [(1, .class_ 2), (0, u "java/lang/Comparable"), (0, .class_ 4), (0, u "java/lang/Object")] 7

/-- java/lang/Comparable -/
def k6 : Class := { plain "java/lang/Comparable" (some 0) with
  accessFlags := 1537
  interfaces := #[]
  cf := some (fileOf pool6 1 #[] #[] 1537 3 #[] #[])
  fields := #[]
  methods := #[]
  instanceTypes := #[]
  staticTypes := #[]
  resolved := Array.replicate 12 none
  statics := none }

def pool7 : Array CpInfo := pool [(1, .class_ 2), (0, u "java/io/Serializable"), (0, .class_ 4), (0, u "java/lang/Object")] 2

/-- java/io/Serializable -/
def k7 : Class := { plain "java/io/Serializable" (some 0) with
  accessFlags := 1537
  interfaces := #[]
  cf := some (fileOf pool7 1 #[] #[] 1537 3 #[] #[])
  fields := #[]
  methods := #[]
  instanceTypes := #[]
  staticTypes := #[]
  resolved := Array.replicate 7 none
  statics := none }

def pool8 : Array CpInfo := pool [(2, .class_ 4), (1, u "java/lang/Enum"), (0, u "name"), (0, u "Ljava/lang/String;"), (2, u "ordinal"), (0, u "I"), (1, .class_ 14), (1, u "java/lang/Object"), (4, u "hash"), (86, .class_ 108), (1, u "java/lang/Enum$EnumDesc"), (2, .class_ 112), (0, u "java/lang/constant/Constable"), (0, .class_ 114), (0, u "java/lang/Comparable"), (0, .class_ 116), (0, u "java/io/Serializable")] 87

/-- java/lang/Enum -/
def k8 : Class := { plain "java/lang/Enum" (some 0) with
  accessFlags := 1057
  interfaces := #[5, 6, 7]
  cf := some (fileOf pool8 2 #[.nestMembers #[106]] #[] 1057 12 #[111, 113, 115] #[{ accessFlags := 18, nameIndex := 5, descriptorIndex := 6, attributes := #[] }, { accessFlags := 18, nameIndex := 9, descriptorIndex := 10, attributes := #[] }, { accessFlags := 2, nameIndex := 19, descriptorIndex := 10, attributes := #[] }])
  fields := #[{ name := "name", type := (.object "java/lang/String"), accessFlags := 18, slot := 0, constantValue := 0 }, { name := "ordinal", type := .int, accessFlags := 18, slot := 1, constantValue := 0 }, { name := "hash", type := .int, accessFlags := 2, slot := 2, constantValue := 0 }]
  methods := #[]
  instanceTypes := #[(.object "java/lang/String"), .int, .int]
  staticTypes := #[]
  resolved := Array.replicate 204 none
  statics := none }

def pool9 : Array CpInfo := pool [(1, .class_ 2), (0, u "com/example/fillgauge/fillgauge/core/ColumnType$Kind"), (2, u "TINYINT"), (0, u "Lcom/example/fillgauge/fillgauge/core/ColumnType$Kind;"), (2, u "SMALLINT"), (2, u "INTEGER"), (2, u "BIGINT"), (2, u "DECIMAL"), (2, u "REAL"), (2, u "BOOLEAN"), (2, u "CHAR"), (2, u "VARCHAR"), (2, u "DATE"), (2, u "TIMESTAMP"), (2, u "$VALUES"), (0, u "[Lcom/example/fillgauge/fillgauge/core/ColumnType$Kind;"), (6, .class_ 49), (1, u "java/lang/Enum"), (34, .class_ 85), (0, u "com/example/fillgauge/fillgauge/core/ColumnType")] 2

/-- com/example/fillgauge/fillgauge/core/ColumnType$Kind -/
def k9 : Class := { plain "com/example/fillgauge/fillgauge/core/ColumnType$Kind" (some 8) with
  accessFlags := 16433
  interfaces := #[]
  cf := some (fileOf pool9 1 #[.nestHost 84] #[] 16433 47 #[] #[{ accessFlags := 16409, nameIndex := 5, descriptorIndex := 6, attributes := #[] }, { accessFlags := 16409, nameIndex := 9, descriptorIndex := 6, attributes := #[] }, { accessFlags := 16409, nameIndex := 12, descriptorIndex := 6, attributes := #[] }, { accessFlags := 16409, nameIndex := 15, descriptorIndex := 6, attributes := #[] }, { accessFlags := 16409, nameIndex := 18, descriptorIndex := 6, attributes := #[] }, { accessFlags := 16409, nameIndex := 21, descriptorIndex := 6, attributes := #[] }, { accessFlags := 16409, nameIndex := 24, descriptorIndex := 6, attributes := #[] }, { accessFlags := 16409, nameIndex := 27, descriptorIndex := 6, attributes := #[] }, { accessFlags := 16409, nameIndex := 30, descriptorIndex := 6, attributes := #[] }, { accessFlags := 16409, nameIndex := 33, descriptorIndex := 6, attributes := #[] }, { accessFlags := 16409, nameIndex := 36, descriptorIndex := 6, attributes := #[] }, { accessFlags := 4122, nameIndex := 39, descriptorIndex := 40, attributes := #[] }])
  fields := #[{ name := "TINYINT", type := (.object "com/example/fillgauge/fillgauge/core/ColumnType$Kind"), accessFlags := 16409, slot := 0, constantValue := 0 }, { name := "SMALLINT", type := (.object "com/example/fillgauge/fillgauge/core/ColumnType$Kind"), accessFlags := 16409, slot := 1, constantValue := 0 }, { name := "INTEGER", type := (.object "com/example/fillgauge/fillgauge/core/ColumnType$Kind"), accessFlags := 16409, slot := 2, constantValue := 0 }, { name := "BIGINT", type := (.object "com/example/fillgauge/fillgauge/core/ColumnType$Kind"), accessFlags := 16409, slot := 3, constantValue := 0 }, { name := "DECIMAL", type := (.object "com/example/fillgauge/fillgauge/core/ColumnType$Kind"), accessFlags := 16409, slot := 4, constantValue := 0 }, { name := "REAL", type := (.object "com/example/fillgauge/fillgauge/core/ColumnType$Kind"), accessFlags := 16409, slot := 5, constantValue := 0 }, { name := "BOOLEAN", type := (.object "com/example/fillgauge/fillgauge/core/ColumnType$Kind"), accessFlags := 16409, slot := 6, constantValue := 0 }, { name := "CHAR", type := (.object "com/example/fillgauge/fillgauge/core/ColumnType$Kind"), accessFlags := 16409, slot := 7, constantValue := 0 }, { name := "VARCHAR", type := (.object "com/example/fillgauge/fillgauge/core/ColumnType$Kind"), accessFlags := 16409, slot := 8, constantValue := 0 }, { name := "DATE", type := (.object "com/example/fillgauge/fillgauge/core/ColumnType$Kind"), accessFlags := 16409, slot := 9, constantValue := 0 }, { name := "TIMESTAMP", type := (.object "com/example/fillgauge/fillgauge/core/ColumnType$Kind"), accessFlags := 16409, slot := 10, constantValue := 0 }, { name := "$VALUES", type := (.array (.object "com/example/fillgauge/fillgauge/core/ColumnType$Kind")), accessFlags := 4122, slot := 11, constantValue := 0 }]
  methods := #[]
  instanceTypes := #[(.object "java/lang/String"), .int, .int]
  staticTypes := #[(.object "com/example/fillgauge/fillgauge/core/ColumnType$Kind"), (.object "com/example/fillgauge/fillgauge/core/ColumnType$Kind"), (.object "com/example/fillgauge/fillgauge/core/ColumnType$Kind"), (.object "com/example/fillgauge/fillgauge/core/ColumnType$Kind"), (.object "com/example/fillgauge/fillgauge/core/ColumnType$Kind"), (.object "com/example/fillgauge/fillgauge/core/ColumnType$Kind"), (.object "com/example/fillgauge/fillgauge/core/ColumnType$Kind"), (.object "com/example/fillgauge/fillgauge/core/ColumnType$Kind"), (.object "com/example/fillgauge/fillgauge/core/ColumnType$Kind"), (.object "com/example/fillgauge/fillgauge/core/ColumnType$Kind"), (.object "com/example/fillgauge/fillgauge/core/ColumnType$Kind"), (.array (.object "com/example/fillgauge/fillgauge/core/ColumnType$Kind"))]
  resolved := Array.replicate 88 none
  statics := some 0 }

def pool10 : Array CpInfo := pool [(2, .class_ 4), (1, u "java/lang/Object"), (0, u "<init>"), (0, u "()V"), (0, .methodref 8 9), (0, .class_ 10), (0, .nameAndType 11 12), (0, u "com/example/fillgauge/fillgauge/core/ColumnType"), (0, u "length"), (0, u "()I"), (2, .integer 2147483647), (1, .class_ 19), (1, u "com/example/fillgauge/fillgauge/core/LookalikeText"), (21, u "longest"), (0, u "(Lcom/example/fillgauge/fillgauge/core/ColumnType;)I"), (5, u "Ljava/util/List;"), (61, u "ALPHA_3_LENGTH"), (0, u "I"), (26, u "STATE_CODE_LENGTH"), (30, .class_ 170), (0, u "com/example/fillgauge/fillgauge/core/LookalikeText$States"), (15, u "SHORTEST_EMAIL"), (0, .class_ 188), (0, u "com/example/fillgauge/fillgauge/core/LookalikeText$Emails"), (12, u "STREET_KINDS"), (25, .class_ 228), (0, u "com/example/fillgauge/fillgauge/core/LookalikeText$Addresses"), (5, u "TEN_DIGIT_PHONES"), (3, u "SEVEN_DIGIT_PHONES"), (1, .class_ 241), (0, u "com/example/fillgauge/fillgauge/core/LookalikeText$Phones"), (9, u "ZIP_CODE_LENGTH"), (0, .class_ 253), (0, u "com/example/fillgauge/fillgauge/core/LookalikeText$PostalCodes"), (10, .class_ 265), (0, u "com/example/fillgauge/fillgauge/core/LookalikeText$Companies"), (2, u "COMPANY_SUFFIXES"), (8, u "TITLE_WORD_WEIGHTS"), (0, u "[I"), (0, .class_ 280), (0, u "com/example/fillgauge/fillgauge/core/LookalikeText$Titles"), (3, .class_ 285), (0, u "com/example/fillgauge/fillgauge/core/LookalikeText$WithPlainAfter"), (100, .class_ 388), (1, u "com/example/fillgauge/fillgauge/core/LookalikeText$StreetKind"), (19, u "DOMAINS"), (34, u "ZIP_PLUS_FOUR_LENGTH"), (112, u "COMPANY_TRADES"), (2, u "FIRST_AREA_CODE"), (2, u "AREA_CODES"), (1, u "PHONES_PER_AREA_CODE"), (1, u "ZIP_CODES"), (1, u "FIRST_ZIP_CODE"), (1, u "LAST_ZIP_CODE"), (1, u "ZIP_PLUS_FOUR_ONE_IN"), (1, u "HOUSE_NUMBER_DIGITS"), (0, u "HOUSE_NUMBERS")] 143

def k10m0 : Method := { name := "<init>", desc := "()V", sig := { parameters := [], returnType := none }, accessFlags := 2, code := none }
def k10c1 : Code := { maxStack := 1, maxLocals := 1, code := prog_18_method_2_code, exceptionTable := #[], attributes := #[] }
def k10m1 : Method := { name := "longest", desc := "(Lcom/example/fillgauge/fillgauge/core/ColumnType;)I", sig := { parameters := [(.object "com/example/fillgauge/fillgauge/core/ColumnType")], returnType := some .int }, accessFlags := 8, code := some k10c1 }
/-- com/example/fillgauge/fillgauge/core/LookalikeText -/
def k10 : Class := { plain "com/example/fillgauge/fillgauge/core/LookalikeText" (some 0) with
  accessFlags := 48
  interfaces := #[]
  cf := some (fileOf pool10 17 #[.nestMembers #[284, 279, 264, 252, 240, 227, 386, 187, 169]] #[{ accessFlags := 2, nameIndex := 5, descriptorIndex := 6, attributes := #[] }, { accessFlags := 8, nameIndex := 41, descriptorIndex := 42, attributes := #[] }] 48 2 #[] #[{ accessFlags := 26, nameIndex := 408, descriptorIndex := 48, attributes := #[] }, { accessFlags := 26, nameIndex := 186, descriptorIndex := 111, attributes := #[] }, { accessFlags := 26, nameIndex := 234, descriptorIndex := 48, attributes := #[] }, { accessFlags := 26, nameIndex := 238, descriptorIndex := 48, attributes := #[] }, { accessFlags := 26, nameIndex := 559, descriptorIndex := 111, attributes := #[] }, { accessFlags := 26, nameIndex := 562, descriptorIndex := 111, attributes := #[] }, { accessFlags := 26, nameIndex := 564, descriptorIndex := 111, attributes := #[] }, { accessFlags := 26, nameIndex := 138, descriptorIndex := 111, attributes := #[] }, { accessFlags := 26, nameIndex := 110, descriptorIndex := 111, attributes := #[] }, { accessFlags := 26, nameIndex := 251, descriptorIndex := 111, attributes := #[] }, { accessFlags := 26, nameIndex := 566, descriptorIndex := 111, attributes := #[] }, { accessFlags := 26, nameIndex := 568, descriptorIndex := 111, attributes := #[] }, { accessFlags := 26, nameIndex := 570, descriptorIndex := 111, attributes := #[] }, { accessFlags := 26, nameIndex := 572, descriptorIndex := 111, attributes := #[] }, { accessFlags := 26, nameIndex := 443, descriptorIndex := 111, attributes := #[] }, { accessFlags := 26, nameIndex := 574, descriptorIndex := 111, attributes := #[] }, { accessFlags := 26, nameIndex := 575, descriptorIndex := 111, attributes := #[] }, { accessFlags := 26, nameIndex := 201, descriptorIndex := 48, attributes := #[] }, { accessFlags := 26, nameIndex := 268, descriptorIndex := 48, attributes := #[] }, { accessFlags := 26, nameIndex := 556, descriptorIndex := 48, attributes := #[] }, { accessFlags := 26, nameIndex := 277, descriptorIndex := 278, attributes := #[] }])
  fields := #[{ name := "DOMAINS", type := (.object "java/util/List"), accessFlags := 26, slot := 0, constantValue := 0 }, { name := "SHORTEST_EMAIL", type := .int, accessFlags := 26, slot := 1, constantValue := 0 }, { name := "TEN_DIGIT_PHONES", type := (.object "java/util/List"), accessFlags := 26, slot := 2, constantValue := 0 }, { name := "SEVEN_DIGIT_PHONES", type := (.object "java/util/List"), accessFlags := 26, slot := 3, constantValue := 0 }, { name := "FIRST_AREA_CODE", type := .int, accessFlags := 26, slot := 4, constantValue := 0 }, { name := "AREA_CODES", type := .int, accessFlags := 26, slot := 5, constantValue := 0 }, { name := "PHONES_PER_AREA_CODE", type := .int, accessFlags := 26, slot := 6, constantValue := 0 }, { name := "STATE_CODE_LENGTH", type := .int, accessFlags := 26, slot := 7, constantValue := 0 }, { name := "ALPHA_3_LENGTH", type := .int, accessFlags := 26, slot := 8, constantValue := 0 }, { name := "ZIP_CODE_LENGTH", type := .int, accessFlags := 26, slot := 9, constantValue := 0 }, { name := "ZIP_CODES", type := .int, accessFlags := 26, slot := 10, constantValue := 0 }, { name := "FIRST_ZIP_CODE", type := .int, accessFlags := 26, slot := 11, constantValue := 0 }, { name := "LAST_ZIP_CODE", type := .int, accessFlags := 26, slot := 12, constantValue := 0 }, { name := "ZIP_PLUS_FOUR_ONE_IN", type := .int, accessFlags := 26, slot := 13, constantValue := 0 }, { name := "ZIP_PLUS_FOUR_LENGTH", type := .int, accessFlags := 26, slot := 14, constantValue := 0 }, { name := "HOUSE_NUMBER_DIGITS", type := .int, accessFlags := 26, slot := 15, constantValue := 0 }, { name := "HOUSE_NUMBERS", type := .int, accessFlags := 26, slot := 16, constantValue := 0 }, { name := "STREET_KINDS", type := (.object "java/util/List"), accessFlags := 26, slot := 17, constantValue := 0 }, { name := "COMPANY_SUFFIXES", type := (.object "java/util/List"), accessFlags := 26, slot := 18, constantValue := 0 }, { name := "COMPANY_TRADES", type := (.object "java/util/List"), accessFlags := 26, slot := 19, constantValue := 0 }, { name := "TITLE_WORD_WEIGHTS", type := (.array .int), accessFlags := 26, slot := 20, constantValue := 0 }]
  methods := #[k10m0, k10m1]
  instanceTypes := #[]
  staticTypes := #[(.object "java/util/List"), .int, (.object "java/util/List"), (.object "java/util/List"), .int, .int, .int, .int, .int, .int, .int, .int, .int, .int, .int, .int, .int, (.object "java/util/List"), (.object "java/util/List"), (.object "java/util/List"), (.array .int)]
  resolved := Array.replicate 719 none
  statics := none }

def pool11 : Array CpInfo := pool [(1, u "java/lang/Cloneable"), (0, .class_ 1), (0, u "java/lang/Object"), (0, .class_ 3)] 3

/-- java/lang/Cloneable -/
def k11 : Class := { plain "java/lang/Cloneable" (some 0) with
  accessFlags := 1537
  interfaces := #[]
  cf := some (fileOf pool11 2 #[] #[] 1537 4 #[] #[])
  fields := #[]
  methods := #[]
  instanceTypes := #[]
  staticTypes := #[]
  resolved := Array.replicate 8 none
  statics := none }

/-- the primitive byte -/
def k12 : Class := { plain "byte" none with kind := .primitive 'B', accessFlags := 0x411 }
/-- [B -/
def k13 : Class := { plain "[B" (some 0) with kind := .array 12 .byte, interfaces := #[11, 7], accessFlags := 1041 }

/-- the primitive int -/
def k14 : Class := { plain "int" none with kind := .primitive 'I', accessFlags := 0x411 }
/-- [I -/
def k15 : Class := { plain "[I" (some 0) with kind := .array 14 .int, interfaces := #[11, 7], accessFlags := 1041 }

def heap : Heap := #[{ cls := 9, slots := #[.null, .null, .null, .null, .ref 2, .null, .null, .ref 1, .ref 3, .null, .null, .null], vm := .statics 9 },
  { cls := 9, slots := #[.null, .int 7, .int 0], vm := .none },
  { cls := 9, slots := #[.null, .int 4, .int 0], vm := .none },
  { cls := 9, slots := #[.null, .int 8, .int 0], vm := .none }]
def classes : Array Class := #[k0, k1, k2, k3, k4, k5, k6, k7, k8, k9, k10, k11, k12, k13, k14, k15]
def interned : List (Array UInt16 × Addr) := []
def slotsUsed : Nat := 21
def theMethod : MethodId := ⟨1, 1⟩
def args0 : Array Value := #[.int 5, .int 3]
def aboutOver (below : List Frame) : State where
  vm := { classes := classes, interned := interned.toArray }
  heap := heap
  slotsUsed := slotsUsed
  threads := #[{ frames := .invoking theMethod args0 :: below }]
def below0 : List Frame := [.native { method := ⟨0, 0⟩, args := #[] }]
def about1 : State := aboutOver below0
def p0 : Program := .bare "" "" ""
def e0 : Env := launch0.env 0 0 0
theorem w_frames : about1.frames = Frame.invoking theMethod args0 :: below0 := rfl
set_option maxRecDepth 65536 in
theorem w_args : argsFit about1.vm theMethod args0 = true := by decide +kernel
set_option maxRecDepth 65536 in
theorem w_heap : heapFits about1 = true := by decide +kernel
set_option maxRecDepth 65536 in
theorem w_runnable : about1.curStatus? = some .runnable := by decide +kernel
set_option maxRecDepth 65536 in
theorem w_alone : about1.alone = true := by decide +kernel
set_option maxRecDepth 65536 in
theorem w_named : about1.methodNamed? x = some theMethod := by decide +kernel
set_option maxRecDepth 65536 in
theorem w_hears : about1.hears theMethod below0 = true := by decide +kernel
set_option maxRecDepth 65536 in
theorem w_ripe : about1.ripe theMethod args0 below0 = true := by decide +kernel
theorem w_running : about1.status = .running := rfl
set_option maxRecDepth 65536 in
theorem w_room : about1.hasRoom e0.platform room_1 = true :=
  launch0.hasRoom_least _ room_1 (by decide +kernel) (by decide +kernel) (by decide +kernel) (by decide +kernel) (by decide +kernel) (by decide +kernel)
theorem allAtoms_all (ts : List Jvm.Cond) (a : Array Jvm.Value) (st : Jvm.State) : (allAtoms ts).before a st = ts.all (fun c => c.before a st) := by
  induction ts with
  | nil => rfl
  | cons c t ih =>
    show (Jvm.Cond.and c (allAtoms t)).before a st = _
    rw [Jvm.Cond.before_and, ih, List.all_cons]
def words1 : List Jvm.Cond := Jvm.Cond.code x code maxLocals ret :: tables_1
/-- a 'code' word, met by the world's own term for the bytes: nothing is compared byte by byte -/
theorem code_word {y : MethodName} {bytes : ByteArray} {mx : Nat} {rt : Option FieldType} {a : Array Value} {s : State} {m : MethodId} {meth : Method} {c : Code} (h1 : s.methodNamed? y = some m) (h2 : s.vm.method? m = some meth) (h3 : meth.code = some c) (h4 : c.code = bytes)
    (h5 : (c.maxLocals == mx && c.exceptionTable.isEmpty && decide (c.maxStack ≤ mostOperands) && decide (meth.sig.returnType = rt) && !meth.locks && decide (parseMethodDescriptor y.desc = some meth.sig)) = true) : (Jvm.Cond.code y bytes mx rt).before a s = true := by
  simp only [Bool.and_eq_true, beq_iff_eq, Bool.not_eq_true', decide_eq_true_eq] at h5
  obtain ⟨⟨⟨⟨⟨g1, g2⟩, g3⟩, g4⟩, g5⟩, g6⟩ := h5
  simp [Cond.before, Cond.holds, Cond.value, h1, h2, h3, h4, g1, g2, g3, g4, g5, g6]
def isCode : Jvm.Cond → Bool
  | .code _ _ _ _ => true
  | _ => false
theorem all_split {L : List Jvm.Cond} {P : Jvm.Cond → Bool} (h1 : L.all (fun c => isCode c || P c) = true) (h2 : ∀ c ∈ L.filter isCode, P c = true) : L.all P = true := by
  refine List.all_eq_true.mpr fun c hc => ?_
  have h := List.all_eq_true.mp h1 c hc
  rcases Bool.eq_false_or_eq_true (isCode c) with hi | hi
  · exact h2 c (List.mem_filter.mpr ⟨hc, hi⟩)
  · simpa [hi] using h
set_option maxRecDepth 65536 in
theorem w_c0 : (Jvm.Cond.code x code maxLocals ret).before args0 about1 = true := code_word (m := ⟨1, 1⟩) (meth := k1m1) (c := k1c1) (by decide +kernel) rfl rfl rfl (by decide +kernel)
set_option maxRecDepth 65536 in
theorem w_c1 : (Jvm.Cond.code ({ cls := "java/lang/Math", name := "max", desc := "(II)I" } : Jvm.MethodName) jdk_29_method_65_code (2 : Nat) (Option.some Jvm.ClassFile.FieldType.int)).before args0 about1 = true := code_word (m := ⟨2, 1⟩) (meth := k2m1) (c := k2c1) (by decide +kernel) rfl rfl rfl (by decide +kernel)
set_option maxRecDepth 65536 in
theorem w_c2 : (Jvm.Cond.code ({ cls := "com/example/fillgauge/fillgauge/core/ColumnType", name := "chars", desc := "(I)Lcom/example/fillgauge/fillgauge/core/ColumnType;" } : Jvm.MethodName) prog_3_method_3_code (1 : Nat) (Option.some (Jvm.ClassFile.FieldType.object "com/example/fillgauge/fillgauge/core/ColumnType"))).before args0 about1 = true := code_word (m := ⟨4, 1⟩) (meth := k4m1) (c := k4c1) (by decide +kernel) rfl rfl rfl (by decide +kernel)
set_option maxRecDepth 65536 in
theorem w_c3 : (Jvm.Cond.code ({ cls := "com/example/fillgauge/fillgauge/core/ColumnType", name := "<init>", desc := "(Lcom/example/fillgauge/fillgauge/core/ColumnType$Kind;IIIZ)V" } : Jvm.MethodName) prog_3_method_1_code (7 : Nat) (Option.none : Option Jvm.ClassFile.FieldType)).before args0 about1 = true := code_word (m := ⟨4, 0⟩) (meth := k4m0) (c := k4c0) (by decide +kernel) rfl rfl rfl (by decide +kernel)
set_option maxRecDepth 65536 in
theorem w_c4 : (Jvm.Cond.code ({ cls := "java/lang/Record", name := "<init>", desc := "()V" } : Jvm.MethodName) jdk_30_method_1_code (1 : Nat) (Option.none : Option Jvm.ClassFile.FieldType)).before args0 about1 = true := code_word (m := ⟨3, 0⟩) (meth := k3m0) (c := k3c0) (by decide +kernel) rfl rfl rfl (by decide +kernel)
set_option maxRecDepth 65536 in
theorem w_c5 : (Jvm.Cond.code ({ cls := "java/lang/Object", name := "<init>", desc := "()V" } : Jvm.MethodName) object_method_1_code (1 : Nat) (Option.none : Option Jvm.ClassFile.FieldType)).before args0 about1 = true := code_word (m := ⟨0, 0⟩) (meth := k0m0) (c := k0c0) (by decide +kernel) rfl rfl rfl (by decide +kernel)
set_option maxRecDepth 65536 in
theorem w_c6 : (Jvm.Cond.code ({ cls := "com/example/fillgauge/fillgauge/core/LookalikeText", name := "longest", desc := "(Lcom/example/fillgauge/fillgauge/core/ColumnType;)I" } : Jvm.MethodName) prog_18_method_2_code (1 : Nat) (Option.some Jvm.ClassFile.FieldType.int)).before args0 about1 = true := code_word (m := ⟨10, 1⟩) (meth := k10m1) (c := k10c1) (by decide +kernel) rfl rfl rfl (by decide +kernel)
set_option maxRecDepth 65536 in
theorem w_c7 : (Jvm.Cond.code ({ cls := "com/example/fillgauge/fillgauge/core/ColumnType", name := "length", desc := "()I" } : Jvm.MethodName) prog_3_method_11_code (1 : Nat) (Option.some Jvm.ClassFile.FieldType.int)).before args0 about1 = true := code_word (m := ⟨4, 3⟩) (meth := k4m3) (c := k4c3) (by decide +kernel) rfl rfl rfl (by decide +kernel)
set_option maxRecDepth 65536 in
theorem w_c8 : (Jvm.Cond.code ({ cls := "com/example/fillgauge/fillgauge/core/ColumnType", name := "varchar", desc := "(I)Lcom/example/fillgauge/fillgauge/core/ColumnType;" } : Jvm.MethodName) prog_3_method_4_code (1 : Nat) (Option.some (Jvm.ClassFile.FieldType.object "com/example/fillgauge/fillgauge/core/ColumnType"))).before args0 about1 = true := code_word (m := ⟨4, 2⟩) (meth := k4m2) (c := k4c2) (by decide +kernel) rfl rfl rfl (by decide +kernel)
def codes1 : List Jvm.Cond := [Jvm.Cond.code x code maxLocals ret, Jvm.Cond.code ({ cls := "java/lang/Math", name := "max", desc := "(II)I" } : Jvm.MethodName) jdk_29_method_65_code (2 : Nat) (Option.some Jvm.ClassFile.FieldType.int), Jvm.Cond.code ({ cls := "com/example/fillgauge/fillgauge/core/ColumnType", name := "chars", desc := "(I)Lcom/example/fillgauge/fillgauge/core/ColumnType;" } : Jvm.MethodName) prog_3_method_3_code (1 : Nat) (Option.some (Jvm.ClassFile.FieldType.object "com/example/fillgauge/fillgauge/core/ColumnType")), Jvm.Cond.code ({ cls := "com/example/fillgauge/fillgauge/core/ColumnType", name := "<init>", desc := "(Lcom/example/fillgauge/fillgauge/core/ColumnType$Kind;IIIZ)V" } : Jvm.MethodName) prog_3_method_1_code (7 : Nat) (Option.none : Option Jvm.ClassFile.FieldType), Jvm.Cond.code ({ cls := "java/lang/Record", name := "<init>", desc := "()V" } : Jvm.MethodName) jdk_30_method_1_code (1 : Nat) (Option.none : Option Jvm.ClassFile.FieldType), Jvm.Cond.code ({ cls := "java/lang/Object", name := "<init>", desc := "()V" } : Jvm.MethodName) object_method_1_code (1 : Nat) (Option.none : Option Jvm.ClassFile.FieldType), Jvm.Cond.code ({ cls := "com/example/fillgauge/fillgauge/core/LookalikeText", name := "longest", desc := "(Lcom/example/fillgauge/fillgauge/core/ColumnType;)I" } : Jvm.MethodName) prog_18_method_2_code (1 : Nat) (Option.some Jvm.ClassFile.FieldType.int), Jvm.Cond.code ({ cls := "com/example/fillgauge/fillgauge/core/ColumnType", name := "length", desc := "()I" } : Jvm.MethodName) prog_3_method_11_code (1 : Nat) (Option.some Jvm.ClassFile.FieldType.int), Jvm.Cond.code ({ cls := "com/example/fillgauge/fillgauge/core/ColumnType", name := "varchar", desc := "(I)Lcom/example/fillgauge/fillgauge/core/ColumnType;" } : Jvm.MethodName) prog_3_method_4_code (1 : Nat) (Option.some (Jvm.ClassFile.FieldType.object "com/example/fillgauge/fillgauge/core/ColumnType"))]
set_option maxRecDepth 65536 in
theorem codes_eq : words1.filter isCode = codes1 := rfl
theorem w_codes : ∀ c ∈ words1.filter isCode, c.before args0 about1 = true := by
  rw [codes_eq]
  intro c hc
  simp only [codes1, List.mem_cons, List.not_mem_nil, or_false] at hc
  rcases hc with rfl | rfl | rfl | rfl | rfl | rfl | rfl | rfl | rfl
  · exact w_c0
  · exact w_c1
  · exact w_c2
  · exact w_c3
  · exact w_c4
  · exact w_c5
  · exact w_c6
  · exact w_c7
  · exact w_c8
set_option maxRecDepth 65536 in
theorem w_t1 : (words1.take 24).all (fun c => isCode c || c.before args0 about1) = true := by decide +kernel
set_option maxRecDepth 65536 in
theorem w_t2 : ((words1.drop 24).take 24).all (fun c => isCode c || c.before args0 about1) = true := by decide +kernel
set_option maxRecDepth 65536 in
theorem w_t3 : ((words1.drop 24).drop 24).all (fun c => isCode c || c.before args0 about1) = true := by decide +kernel
theorem w_tables : (allAtoms (Jvm.Cond.code x code maxLocals ret :: tables_1)).before args0 about1 = true := by
  rw [allAtoms_all]
  show words1.all (fun c => c.before args0 about1) = true
  refine all_split ?_ w_codes
  rw [← List.take_append_drop 24 words1, List.all_append, w_t1, ← List.take_append_drop 24 (words1.drop 24), List.all_append, w_t2, w_t3]
  rfl
set_option maxRecDepth 65536 in
theorem w_case : (Jvm.Cond.and given_1 narrow_1).before args0 about1 = true := by decide +kernel
theorem w_applies : (headSpec (Jvm.Cond.code x code maxLocals ret :: tables_1) room_1).applies x e0.platform about1 = true :=
  (Spec.applies_iff w_frames).mpr ⟨w_running, w_runnable, w_alone, w_named, w_hears, w_ripe, w_room, w_tables⟩
theorem atStart : AtStart classFile x code maxLocals ret World_1 tables_1 room_1 Calls_1 rest_1 Pre_1 launch0 p0 e0 about1 theMethod args0 below0 :=
  ⟨lists_1, trivial, launch0.admits_env _ _ _, launch0.least_env, fairChoices_fair.cas, fairChoices_fair.clock, w_frames, w_args, w_heap, w_applies, trivial, trivial, w_case⟩
end start1
theorem witness_1 : WitnessClaimed_1 := ⟨start1.p0, start1.e0, start1.about1, start1.theMethod, start1.args0, start1.below0, start1.atStart⟩
end Jvm.Pilot.@@N@@
