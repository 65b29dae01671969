import JvmDerived
import JvmDerived.Pilot.@@N@@Statement
import JvmDerived.Pilot.@@N@@Code
set_option linter.unusedVariables false
set_option linter.unusedSimpArgs false
set_option maxHeartbeats 4000000
namespace Jvm.Pilot.@@N@@
open Jvm Jvm.ClassFile Sem Op Lib Jvm.Free Jvm.Stand Jvm.LawKit Jvm.RoadKit Bundle Jvm.Pilot.@@N@@.Jvm.D
/-! own kit: a walk read backwards: G T g says that from the state T with g on top the body comes to a good end -/
section OwnKit
variable {p : Program} {l : Launch} {e : Env} {R : Room} {s : State} {m : MethodId} {args : Array Value} {below : List Frame} {meth : Method} {c : Code} {T : State} {cells slots : Nat} {Z : State} {a0 : Array Value} {h : Heap} {n0 : Nat} {G : State → JFrame → Prop} {Q : Option Value → Heap → Prop}
def Clo (p : Program) (e : Env) (below : List Frame) (G : State → JFrame → Prop) : Prop := ∀ (T T' : State) (g g' : JFrame), (∀ t, Steps p.tables e below (T'.setTop g') t → Steps p.tables e below (T.setTop g) t) → G T' g' → G T g
theorem Clo.go (hs : Clo p e below G) {T T' : State} {g g' : JFrame} (st : ∀ t, Steps p.tables e below (T'.setTop g') t → Steps p.tables e below (T.setTop g) t) (k : G T' g') : G T g := hs T T' g g' st k
def Sd (p : Program) (l : Launch) (e : Env) (R : Room) (s : State) (m : MethodId) (args : Array Value) (below : List Frame) (meth : Method) (c : Code) (n0 : Nat) (T : State) (h : Heap) (cells slots : Nat) : Prop := ∃ locs, Stand p l e R s m args below meth c T locs cells slots ∧ Fr n0 locs ∧ T.heap = h
theorem Sd.here (X : Sd p l e R s m args below meth c n0 T h cells slots) : At T m c below := by obtain ⟨_, X, _⟩ := X; exact X.here
theorem Sd.more (X : Sd p l e R s m args below meth c n0 T h cells slots) {k n : Nat} (hk : cells ≤ k) (hn : slots ≤ n) : Sd p l e R s m args below meth c n0 T h k n := by obtain ⟨L, X, N⟩ := X; exact ⟨L, X.more hk hn, N⟩
/-- how a body ends -/
def Fnl (p : Program) (l : Launch) (e : Env) (R : Room) (s : State) (m : MethodId) (args : Array Value) (below : List Frame) (meth : Method) (c : Code) (n0 : Nat) (Q : Option Value → Heap → Prop) (G : State → JFrame → Prop) : Prop :=
  ∀ (T : State) (h : Heap) (k n : Nat) (g : JFrame) (v : Option Value), Sd p l e R s m args below meth c n0 T h k n → k ≤ R.cells → n ≤ R.slots → (meth.sig.returnType = none → v = none) →
    (∀ fs, (∀ (f : JFrame) (acts : List Action), f.method = m → f.locked = none → f.entered = [] → (doReturn e (T.setTop f) acts v).1 = T.setFrames fs) → Steps p.tables e below (T.setTop g) (T.setFrames fs)) → Q v h → G T g
/-- a body's contract -/
def Con (l : Launch) (Z : State) (y : MethodName) (bytes : ByteArray) (maxL : Nat) (ret : Option FieldType) (ws : List Jvm.Cond) (rm : Room) (as' : Array Value) (h : Heap) (n0 : Nat) (Q : Option Value → Heap → Prop) : Prop :=
  MetFree l y (head1 (Jvm.Cond.code y bytes maxL ret :: ws) rm) (fun a U => a = as' ∧ Z.Warmed39 U.vm ∧ U.heap = h) (fun _ _ _ _ _ => True)
    (fun _ U o U' => ∃ v L, o = .returned v ∧ (Q v U'.heap ∧ Fr n0 L) ∧ FrameEnd U o U' L rm.cells rm.slots)
theorem Con.of {y : MethodName} {bytes : ByteArray} {maxL : Nat} {ret : Option FieldType} {ws : List Jvm.Cond} {rm : Room} {as' : Array Value} (hp : plainFor y = true)
    (body : ∀ (G : State → JFrame → Prop) (p : Program) (e : Env) (s : State) (m : MethodId) (below : List Frame) (meth : Method) (c : Code) (s₁ : State),
      Clo p e below G → p.tables.exec = Jvm.exec → c.code = bytes → c.maxLocals = maxL → s.vm.findClass y.cls = some m.cls → meth.name = y.name → meth.sig.returnType = ret → Z.Warmed39 s.vm →
      Sd p l e rm s m as' below meth c n0 s₁ h 0 0 → Fnl p l e rm s m as' below meth c n0 Q G → G s₁ (entryFrame m as' maxL)) : Con l Z y bytes maxL ret ws rm as' h n0 Q := by
  refine MetFree.of_bodySF hp hisR ?_
  intro p e s m args below meth c s₁ Bd hml hP hK
  obtain ⟨ha, hZ, hh⟩ := hP
  subst ha
  refine body (fun T g => ∃ s₂ o, Steps p.tables e below (T.setTop g) s₂ ∧ s₂.status = .running ∧ Ended s₂ below o ∧ ∃ v L, o = .returned v ∧ (Q v s₂.heap ∧ Fr n0 L) ∧ FrameEnd s o s₂ L rm.cells rm.slots) p e s m below meth c s₁ ?_ Bd.exec Bd.bytes hml (findClass_of_methodNamed Bd.named) (name_of_methodNamed Bd.named Bd.method).1 Bd.returns hZ ⟨[], Stand.of_body Bd, Fr.nil n0, by rw [← hh, Bd.state]; rfl⟩ ?_
  · intro T T' g g' st ⟨s₂, o, h1, r⟩
    exact ⟨s₂, o, st _ h1, r⟩
  · intro T h k n g v ⟨locs, X, N, eh⟩ hk hn hv st q
    obtain ⟨fs, hr, hrun, hended, hW, hsame⟩ := X.leave (v := v) hv Bd.notSynchronized
    exact ⟨_, _, st fs hr, hrun, hended, v, locs, rfl, ⟨by show Q v T.heap; rw [eh]; exact q, N⟩, ⟨_, rfl⟩, hW, hsame.mono hk hn⟩
theorem rRetI (fin : Fnl p l e R s m args below meth c n0 Q G) (X : Sd p l e R s m args below meth c n0 T h cells slots) (hx : p.tables.exec = Jvm.exec) (hk : cells ≤ R.cells) (hn : slots ≤ R.slots) (hret : meth.sig.returnType = some .int) {pc : Nat} {Ls : Array Slot} {z : Int32} {rest : List Value} (hd : decode c.code pc = .ok (.ireturn, 1)) (q : Q (some (.int z)) h) : G T (mkF m pc Ls (.int z :: rest)) :=
  fin T h cells slots _ (some (.int z)) X hk hn (fun h => by rw [hret] at h; cases h) (fun fs hr => by obtain ⟨_, X, _⟩ := X; exact retOut X hx hret rfl (Or.inl ⟨rfl, Or.inl rfl, _, rfl⟩) hd hr) q
theorem rRetN (fin : Fnl p l e R s m args below meth c n0 Q G) (X : Sd p l e R s m args below meth c n0 T h cells slots) (hx : p.tables.exec = Jvm.exec) (hk : cells ≤ R.cells) (hn : slots ≤ R.slots) {t : FieldType} (hret : meth.sig.returnType = some t) (ht : t = .boolean ∨ t = .byte ∨ t = .char ∨ t = .short) {pc : Nat} {Ls : Array Slot} {z z' : Int32} {rest : List Value} (hd : decode c.code pc = .ok (.ireturn, 1)) (hz : nar t z = z') (q : Q (some (.int z')) h) : G T (mkF m pc Ls (.int z :: rest)) :=
  fin T h cells slots _ (some (.int (nar t z))) X hk hn (fun h => by rw [hret] at h; cases h) (fun fs hr => by obtain ⟨_, X, _⟩ := X; exact retN X hx hret ht hd hr) (hz ▸ q)
theorem rRetL (fin : Fnl p l e R s m args below meth c n0 Q G) (X : Sd p l e R s m args below meth c n0 T h cells slots) (hx : p.tables.exec = Jvm.exec) (hk : cells ≤ R.cells) (hn : slots ≤ R.slots) (hret : meth.sig.returnType = some .long) {pc : Nat} {Ls : Array Slot} {z : Int64} {rest : List Value} (hd : decode c.code pc = .ok (.lreturn, 1)) (q : Q (some (.long z)) h) : G T (mkF m pc Ls (.long z :: rest)) :=
  fin T h cells slots _ (some (.long z)) X hk hn (fun h => by rw [hret] at h; cases h) (fun fs hr => by obtain ⟨_, X, _⟩ := X; exact retOut X hx hret rfl (Or.inr (Or.inl ⟨rfl, rfl, _, rfl⟩)) hd hr) q
theorem rRetA (fin : Fnl p l e R s m args below meth c n0 Q G) (X : Sd p l e R s m args below meth c n0 T h cells slots) (hx : p.tables.exec = Jvm.exec) (hk : cells ≤ R.cells) (hn : slots ≤ R.slots) {t : FieldType} (hret : meth.sig.returnType = some t) (ht : t.isReference = true) {pc : Nat} {Ls : Array Slot} {z : Value} (hz : z.isRef = true) (hw : narrow t z = z) {rest : List Value} (hd : decode c.code pc = .ok (.areturn, 1)) (q : Q (some z) h) : G T (mkF m pc Ls (z :: rest)) :=
  fin T h cells slots _ (some z) X hk hn (fun h => by rw [hret] at h; cases h) (fun fs hr => by obtain ⟨_, X, _⟩ := X; exact retOut X hx hret hw (Or.inr (Or.inr (Or.inr (Or.inr ⟨rfl, ht, hz⟩)))) hd hr) q
theorem rRetD (fin : Fnl p l e R s m args below meth c n0 Q G) (X : Sd p l e R s m args below meth c n0 T h cells slots) (hx : p.tables.exec = Jvm.exec) (hk : cells ≤ R.cells) (hn : slots ≤ R.slots) (hret : meth.sig.returnType = some .double) {pc : Nat} {Ls : Array Slot} {z : UInt64} {rest : List Value} (hd : decode c.code pc = .ok (.dreturn, 1)) (q : Q (some (.double z)) h) : G T (mkF m pc Ls (.double z :: rest)) :=
  fin T h cells slots _ (some (.double z)) X hk hn (fun h => by rw [hret] at h; cases h) (fun fs hr => by obtain ⟨_, X, _⟩ := X; exact retOut X hx hret rfl (Or.inr (Or.inr (Or.inl ⟨rfl, rfl, _, rfl⟩))) hd hr) q
theorem rRetV (fin : Fnl p l e R s m args below meth c n0 Q G) (X : Sd p l e R s m args below meth c n0 T h cells slots) (hx : p.tables.exec = Jvm.exec) (hk : cells ≤ R.cells) (hn : slots ≤ R.slots) (hret : meth.sig.returnType = none) {pc : Nat} {Ls : Array Slot} (hd : decode c.code pc = .ok (.return_, 1)) (q : Q none h) : G T (mkF m pc Ls []) :=
  fin T h cells slots _ none X hk hn (fun _ => rfl) (fun fs hr => by obtain ⟨_, X, _⟩ := X; exact X.returnOut hx hret hd hr) q
theorem rLdcI (hs : Clo p e below G) (X : Sd p l e R s m args below meth c n0 T h cells slots) (hx : p.tables.exec = Jvm.exec) (hZ : Z.Warmed39 s.vm) {own : String} {index : Nat} {v : Int32} (hown : s.vm.findClass own = some m.cls) (w : (Jvm.Cond.constant own index v).before a0 Z = true) {g : JFrame} (hg : g.method = m) (hd : decode c.code g.pc = .ok (.ldc index, 2)) (k : G T { g with pc := g.pc + 2, stack := .int v :: g.stack }) : G T g := by
  obtain ⟨_, X, _⟩ := X
  exact hs.go (X.ldcInt hx hown (mvT hZ w) hg hd) k
theorem rLdcL (hs : Clo p e below G) (X : Sd p l e R s m args below meth c n0 T h cells slots) (hx : p.tables.exec = Jvm.exec) (hZ : Z.Warmed39 s.vm) {own : String} {index : Nat} {v : Int64} (hown : s.vm.findClass own = some m.cls) (w : (Jvm.Cond.constantLong own index v).before a0 Z = true) {g : JFrame} (hg : g.method = m) (hd : decode c.code g.pc = .ok (.ldc2_w index, 3)) (k : G T { g with pc := g.pc + 3, stack := .long v :: g.stack }) : G T g := by
  obtain ⟨_, X, _⟩ := X
  exact hs.go (X.ldc2Long hx hown (mvT hZ w) hg hd) k
theorem rLdcD (hs : Clo p e below G) (X : Sd p l e R s m args below meth c n0 T h cells slots) (hx : p.tables.exec = Jvm.exec) (hZ : Z.Warmed39 s.vm) {own : String} {index : Nat} {v : UInt64} (hown : s.vm.findClass own = some m.cls) (w : (Jvm.Cond.constantDouble own index v).before a0 Z = true) {g : JFrame} (hg : g.method = m) (hd : decode c.code g.pc = .ok (.ldc2_w index, 3)) (k : G T { g with pc := g.pc + 3, stack := .double v :: g.stack }) : G T g := by
  obtain ⟨_, X, _⟩ := X
  exact hs.go (X.ldc2DoubleC hx hown (mvT hZ w) hg hd) k
theorem rIrem (hs : Clo p e below G) (X : Sd p l e R s m args below meth c n0 T h cells slots) (hx : p.tables.exec = Jvm.exec) {g : JFrame} (hg : g.method = m) {x y : Int32} {rest : List Value} (hd : decode c.code g.pc = .ok (.irem, 1)) (hst : g.stack = .int y :: .int x :: rest) (hy : y ≠ 0) (k : G T { g with pc := g.pc + 1, stack := .int (x % y) :: rest }) : G T g := by
  obtain ⟨_, X, _⟩ := X
  exact hs.go (fun _ q => iremM X hx hg hd hst hy q) k
theorem rLrem (hs : Clo p e below G) (X : Sd p l e R s m args below meth c n0 T h cells slots) (hx : p.tables.exec = Jvm.exec) {g : JFrame} (hg : g.method = m) {x y : Int64} {rest : List Value} (hd : decode c.code g.pc = .ok (.lrem, 1)) (hst : g.stack = .long y :: .long x :: rest) (hy : y ≠ 0) (k : G T { g with pc := g.pc + 1, stack := .long (x % y) :: rest }) : G T g :=
  hs.go (fun _ q => XS.lrem X.here hx hg hd hst hy q) (by rw [lrem_mod]; exact k)
/-! arrays -/
theorem rNewP (hs : Clo p e below G) (X : Sd p l e R s m args below meth c n0 T h cells slots) (hx : p.tables.exec = Jvm.exec) (hZ : Z.Warmed39 s.vm) {aty : ArrayType} (w : (Jvm.Cond.arrayClass (newarray.typeOf aty)).before a0 Z = true) {g : JFrame} (hg : g.method = m) (hd : decode c.code g.pc = .ok (.newarray aty, 2)) {n : Int32} {rest : List Value} (hst : g.stack = .int n :: rest)
    (hn : ¬ n < 0) (cap len : Nat) (hcap : n.toNatClampNeg ≤ cap) (hb : cap * 8 ≤ 536870912) (hc : cells + 1 ≤ R.cells) (hl : slots + cap ≤ R.slots)
    (k : ∀ (T' : State) (h' : Heap) (cA : ClassId) (b : Addr), b = h.size → Sd p l e R s m args below meth c n0 T' h' (cells + 1) (slots + cap) → Ext h h' → Arv Z h' b cA (newarray.typeOf aty) n (List.replicate len (defaultValue (newarray.typeOf aty))) (defaultValue (newarray.typeOf aty)) → G T' { g with pc := g.pc + 2, stack := .ref b :: rest }) : G T g := by
  obtain ⟨L, X, N, eh⟩ := X
  obtain ⟨T', h', cA, X', e', E, A, st⟩ := newP X hx hZ w eh hg hd hst hn hcap hb hc hl
  exact hs.go st (k T' h' cA h.size rfl ⟨L, X', N, e'⟩ E ((Arv.new A hn).pad (pad_rep [] _ len)))
theorem rStI (hs : Clo p e below G) (X : Sd p l e R s m args below meth c n0 T h cells slots) (hx : p.tables.exec = Jvm.exec) (hZ : Z.Warmed39 s.vm) {a : Addr} {kc : ClassId} {z : Int32} {vs : List Value} {dv : Value} (V : Arv Z h a kc .int z vs dv) (ga : n0 ≤ a) {j x : Int32} (hj : ¬ j < 0 ∧ j < z) (i : Nat) (hi : j.toNatClampNeg = i) (hl : i < vs.length)
    {g : JFrame} (hg : g.method = m) {rest : List Value} (hst : g.stack = .int x :: .int j :: .ref a :: rest) (hd : decode c.code g.pc = .ok (.iastore, 1))
    (k : ∀ (T' : State) (h' : Heap), Sd p l e R s m args below meth c n0 T' h' cells slots → Wr h h' a i (.int x) → Arv Z h' a kc .int z (vs.set i (.int x)) dv → G T' { g with pc := g.pc + 1, stack := rest }) : G T g := by
  obtain ⟨L, X, N, eh⟩ := X
  obtain ⟨cl, A, q1, S, q3, H, F⟩ := V
  obtain ⟨T', h', X', e', W, st⟩ := stI X hx hZ eh A (j := j) (inb_of S hj) hg hst hd
  exact hs.go st (k T' h' ⟨_, X', Fr.snoc X' N ga, e'⟩ (hi ▸ W) (Arv.set A q1 S q3 H F rfl W i hi hl))
theorem rStB (hs : Clo p e below G) (X : Sd p l e R s m args below meth c n0 T h cells slots) (hx : p.tables.exec = Jvm.exec) (hZ : Z.Warmed39 s.vm) {a : Addr} {kc : ClassId} {z : Int32} {vs : List Value} {dv : Value} (V : Arv Z h a kc .byte z vs dv) (ga : n0 ≤ a) {j x x' : Int32} (hj : ¬ j < 0 ∧ j < z) (i : Nat) (hi : j.toNatClampNeg = i) (hl : i < vs.length) (hnx : x.toInt8.toInt32 = x')
    {g : JFrame} (hg : g.method = m) {rest : List Value} (hst : g.stack = .int x :: .int j :: .ref a :: rest) (hd : decode c.code g.pc = .ok (.bastore, 1))
    (k : ∀ (T' : State) (h' : Heap), Sd p l e R s m args below meth c n0 T' h' cells slots → Wr h h' a i (.int x') → Arv Z h' a kc .byte z (vs.set i (.int x')) dv → G T' { g with pc := g.pc + 1, stack := rest }) : G T g := by
  obtain ⟨L, X, N, eh⟩ := X
  obtain ⟨cl, A, q1, S, q3, H, F⟩ := V
  obtain ⟨T', h', X', e', W, st⟩ := stB X hx hZ eh A (j := j) (inb_of S hj) hg hst hd
  subst hnx
  exact hs.go st (k T' h' ⟨_, X', Fr.snoc X' N ga, e'⟩ (hi ▸ W) (Arv.set A q1 S q3 H F (fits_nar_byte _) W i hi hl))
theorem rStC (hs : Clo p e below G) (X : Sd p l e R s m args below meth c n0 T h cells slots) (hx : p.tables.exec = Jvm.exec) (hZ : Z.Warmed39 s.vm) {a : Addr} {kc : ClassId} {z : Int32} {vs : List Value} {dv : Value} (V : Arv Z h a kc .char z vs dv) (ga : n0 ≤ a) {j x x' : Int32} (hj : ¬ j < 0 ∧ j < z) (i : Nat) (hi : j.toNatClampNeg = i) (hl : i < vs.length) (hnx : nar .char x = x')
    {g : JFrame} (hg : g.method = m) {rest : List Value} (hst : g.stack = .int x :: .int j :: .ref a :: rest) (hd : decode c.code g.pc = .ok (.castore, 1))
    (k : ∀ (T' : State) (h' : Heap), Sd p l e R s m args below meth c n0 T' h' cells slots → Wr h h' a i (.int x') → Arv Z h' a kc .char z (vs.set i (.int x')) dv → G T' { g with pc := g.pc + 1, stack := rest }) : G T g := by
  obtain ⟨L, X, N, eh⟩ := X
  obtain ⟨cl, A, q1, S, q3, H, F⟩ := V
  obtain ⟨T', h', X', e', W, st⟩ := stC X hx hZ eh A (j := j) (inb_of S hj) hg hst hd
  subst hnx
  exact hs.go st (k T' h' ⟨_, X', Fr.snoc X' N ga, e'⟩ (hi ▸ W) (Arv.set A q1 S q3 H F (fits_nar_char _) W i hi hl))
theorem rLdI (hs : Clo p e below G) (X : Sd p l e R s m args below meth c n0 T h cells slots) (hx : p.tables.exec = Jvm.exec) (hZ : Z.Warmed39 s.vm) {a : Addr} {kc : ClassId} {z : Int32} {vs : List Value} {dv : Value} (V : Arv Z h a kc .int z vs dv) {j : Int32} (hj : ¬ j < 0 ∧ j < z) {v : Value} (hv : vs.getD j.toNatClampNeg dv = v)
    {g : JFrame} (hg : g.method = m) {rest : List Value} (hst : g.stack = .int j :: .ref a :: rest) (hd : decode c.code g.pc = .ok (.iaload, 1)) (k : G T { g with pc := g.pc + 1, stack := v :: rest }) : G T g := by
  obtain ⟨L, X, N, eh⟩ := X
  obtain ⟨cl, A, q1, S, q3, H, F⟩ := V
  exact hs.go (X.iaload hx (j := j) (v := v) (by rw [eh]; exact A.1) (State.isArrayOf_alike hZ.alike A.2.1) A.2.2 (inb_of S hj) (H.at (inb_of S hj) hv) hg hst hd) k
theorem rLdB (hs : Clo p e below G) (X : Sd p l e R s m args below meth c n0 T h cells slots) (hx : p.tables.exec = Jvm.exec) (hZ : Z.Warmed39 s.vm) {a : Addr} {kc : ClassId} {z : Int32} {vs : List Value} {dv : Value} (V : Arv Z h a kc .byte z vs dv) {j : Int32} (hj : ¬ j < 0 ∧ j < z) {v : Value} (hv : vs.getD j.toNatClampNeg dv = v)
    {g : JFrame} (hg : g.method = m) {rest : List Value} (hst : g.stack = .int j :: .ref a :: rest) (hd : decode c.code g.pc = .ok (.baload, 1)) (k : G T { g with pc := g.pc + 1, stack := v :: rest }) : G T g := by
  obtain ⟨L, X, N, eh⟩ := X
  obtain ⟨cl, A, q1, S, q3, H, F⟩ := V
  exact hs.go (X.baloadBytes hx (j := j) (v := v) (by rw [eh]; exact A.1) (State.isArrayOf_alike hZ.alike A.2.1) A.2.2 (inb_of S hj) (H.at (inb_of S hj) hv) hg hst hd) k
theorem rLdC (hs : Clo p e below G) (X : Sd p l e R s m args below meth c n0 T h cells slots) (hx : p.tables.exec = Jvm.exec) (hZ : Z.Warmed39 s.vm) {a : Addr} {kc : ClassId} {z : Int32} {vs : List Value} {dv : Value} (V : Arv Z h a kc .char z vs dv) {j : Int32} (hj : ¬ j < 0 ∧ j < z) {v : Value} (hv : vs.getD j.toNatClampNeg dv = v)
    {g : JFrame} (hg : g.method = m) {rest : List Value} (hst : g.stack = .int j :: .ref a :: rest) (hd : decode c.code g.pc = .ok (.caload, 1)) (k : G T { g with pc := g.pc + 1, stack := v :: rest }) : G T g := by
  obtain ⟨L, X, N, eh⟩ := X
  obtain ⟨cl, A, q1, S, q3, H, F⟩ := V
  exact hs.go (X.caload hx (j := j) (v := v) (by rw [eh]; exact A.1) (State.isArrayOf_alike hZ.alike A.2.1) A.2.2 (inb_of S hj) (H.at (inb_of S hj) hv) hg hst hd) k
theorem rLdR (hs : Clo p e below G) (X : Sd p l e R s m args below meth c n0 T h cells slots) (hx : p.tables.exec = Jvm.exec) (hZ : Z.Warmed39 s.vm) {a : Addr} {kc : ClassId} {ty : FieldType} {z : Int32} {vs : List Value} {dv : Value} (V : Arv Z h a kc ty z vs dv) (hty : ty.isReference = true) {j : Int32} (hj : ¬ j < 0 ∧ j < z) {v : Value} (hv : vs.getD j.toNatClampNeg dv = v)
    {g : JFrame} (hg : g.method = m) {rest : List Value} (hst : g.stack = .int j :: .ref a :: rest) (hd : decode c.code g.pc = .ok (.aaload, 1)) (k : G T { g with pc := g.pc + 1, stack := v :: rest }) : G T g := by
  obtain ⟨L, X, N, eh⟩ := X
  obtain ⟨cl, A, q1, S, q3, H, F⟩ := V
  exact hs.go (X.aaload hx (j := j) (v := v) (by rw [eh]; exact A.1) (State.isArrayOf_alike hZ.alike A.2.1) hty A.2.2 (inb_of S hj) (H.at (inb_of S hj) hv) hg hst hd) k
theorem rLen (hs : Clo p e below G) (X : Sd p l e R s m args below meth c n0 T h cells slots) (hx : p.tables.exec = Jvm.exec) (hZ : Z.Warmed39 s.vm) {a : Addr} {kc : ClassId} {ty : FieldType} {z : Int32} {vs : List Value} {dv : Value} (V : Arv Z h a kc ty z vs dv)
    {g : JFrame} (hg : g.method = m) {rest : List Value} (hst : g.stack = .ref a :: rest) (hd : decode c.code g.pc = .ok (.arraylength, 1)) (k : G T { g with pc := g.pc + 1, stack := .int z :: rest }) : G T g := by
  obtain ⟨L, X, N, eh⟩ := X
  obtain ⟨cl, A, q1, S, q3, H, F⟩ := V
  exact hs.go (X.arraylength hx (by rw [eh]; exact A.1) (State.isArrayOf_alike hZ.alike A.2.1) hg hst hd) (by rw [len_of S q3]; exact k)
theorem rNewR (hs : Clo p e below G) (X : Sd p l e R s m args below meth c n0 T h cells slots) (hx : p.tables.exec = Jvm.exec) (hZ : Z.Warmed39 s.vm) {own C : String} {index : Nat} (hown : s.vm.findClass own = some m.cls) (w1 : (Jvm.Cond.classLink own index C).before a0 Z = true) (w2 : (Jvm.Cond.arrayOver (.object C)).before a0 Z = true) {g : JFrame} (hg : g.method = m) (hd : decode c.code g.pc = .ok (.anewarray index, 3)) {n : Int32} {rest : List Value} (hst : g.stack = .int n :: rest)
    (hn : ¬ n < 0) (cap len : Nat) (hcap : n.toNatClampNeg ≤ cap) (hb : cap * 8 ≤ 536870912) (hc : cells + 1 ≤ R.cells) (hl : slots + cap ≤ R.slots)
    (k : ∀ (T' : State) (h' : Heap) (cA : ClassId) (b : Addr), b = h.size → Sd p l e R s m args below meth c n0 T' h' (cells + 1) (slots + cap) → Ext h h' → Arv Z h' b cA (.object C) n (List.replicate len .null) .null → Ovr Z cA C → G T' { g with pc := g.pc + 3, stack := .ref b :: rest }) : G T g := by
  obtain ⟨L, X, N, eh⟩ := X
  obtain ⟨T', h', cA, X', e', E, A, O, st⟩ := newR X hx hZ hown w1 w2 eh hg hd hst hn hcap hb hc hl
  exact hs.go st (k T' h' cA h.size rfl ⟨L, X', N, e'⟩ E ((Arv.new A hn).pad (pad_rep [] _ len)) O)
theorem rStR (hs : Clo p e below G) (X : Sd p l e R s m args below meth c n0 T h cells slots) (hx : p.tables.exec = Jvm.exec) (hZ : Z.Warmed39 s.vm) {a : Addr} {kc : ClassId} {C : String} {z : Int32} {vs : List Value} {dv : Value} (V : Arv Z h a kc (.object C) z vs dv) (O : Ovr Z kc C) (ga : n0 ≤ a) {j : Int32} {y : Addr} (I : Ins Z h y C true) (hj : ¬ j < 0 ∧ j < z) (i : Nat) (hi : j.toNatClampNeg = i) (hl : i < vs.length)
    {g : JFrame} (hg : g.method = m) {rest : List Value} (hst : g.stack = .ref y :: .int j :: .ref a :: rest) (hd : decode c.code g.pc = .ok (.aastore, 1))
    (k : ∀ (T' : State) (h' : Heap), Sd p l e R s m args below meth c n0 T' h' cells slots → Wr h h' a i (.ref y) → Arv Z h' a kc (.object C) z (vs.set i (.ref y)) dv → G T' { g with pc := g.pc + 1, stack := rest }) : G T g := by
  obtain ⟨L, X, N, eh⟩ := X
  obtain ⟨cl, A, q1, S, q3, H, F⟩ := V
  obtain ⟨T', h', X', e', W, st⟩ := stR X hx hZ eh A (j := j) (v := .ref y) (inb_of S hj) rfl (Sto.ofV A q1 O I) hg hst hd
  exact hs.go st (k T' h' ⟨_, X', Fr.snoc X' N ga, e'⟩ (hi ▸ W) (Arv.set A q1 S q3 H F rfl W i hi hl))
/-! objects -/
theorem rNewO (hs : Clo p e below G) (X : Sd p l e R s m args below meth c n0 T h cells slots) (hx : p.tables.exec = Jvm.exec) (hZ : Z.Warmed39 s.vm) {own C : String} {index n : Nat} (hown : s.vm.findClass own = some m.cls) (w : (Jvm.Cond.classLink own index C).before a0 Z = true) (wi : (Jvm.Cond.instantiable C n).before a0 Z = true) (wz : (Jvm.Cond.initialized C).before a0 Z = true)
    {g : JFrame} (hg : g.method = m) (hd : decode c.code g.pc = .ok (.new index, 3)) (hc : cells + 1 ≤ R.cells) (hl : slots + n ≤ R.slots)
    (k : ∀ (T' : State) (h' : Heap) (b : Addr), b = h.size → Sd p l e R s m args below meth c n0 T' h' (cells + 1) (slots + n) → Ext h h' → Exa Z h' b C → (∀ {O nm d : String} {ty : FieldType}, Laid Z a0 C O nm d → parseFieldDescriptor d = some ty → Fld Z h' b O nm d (defaultValue ty)) → G T' { g with pc := g.pc + 3, stack := .ref b :: g.stack }) : G T g := by
  obtain ⟨L, X, N, eh⟩ := X
  obtain ⟨T', h', X', e', E, A, D, -, st⟩ := newO X hx hZ hown w wi wz eh hg hd hc hl
  exact hs.go st (k T' h' h.size rfl ⟨L, X', N, e'⟩ E A D)
theorem rInitO (hs : Clo p e below G) (X : Sd p l e R s m args below meth c n0 T h cells slots) (hx : p.tables.exec = Jvm.exec) (hZ : Z.Warmed39 s.vm) {own : String} {idx : Nat} (hown : s.vm.findClass own = some m.cls) (w1 : (Jvm.Cond.methodLink own idx Lib.objectInit).before a0 Z = true) (w2 : (Jvm.Cond.instanceMethod Lib.objectInit).before a0 Z = true)
    (w3 : (Jvm.Cond.code Lib.objectInit ⟨#[0xb1]⟩ 1 none).before a0 Z = true) {g : JFrame} (hg : g.method = m) (hsize : g.locals.size = c.maxLocals) {a : Addr} {rest : List Value} (hst : g.stack = .ref a :: rest) (hd : decode c.code g.pc = .ok (.invokespecial idx, 3))
    (hf : 1 ≤ R.frames) {W : Nat} (hW : 2 * g.monitorRoom + (rest.map fun v => v.category).sum ≤ W) (hl : W + 12 ≤ R.locals)
    (k : ∀ T' : State, Sd p l e R s m args below meth c n0 T' h cells slots → G T' { g with pc := g.pc + 3, stack := rest }) : G T g := by
  obtain ⟨L, X, N, eh⟩ := X
  obtain ⟨T', X', e', st⟩ := initO X hx hZ hown w1 w2 w3 eh hg hsize hst hd hf hW hl
  exact hs.go st (k T' ⟨L, X', N, e'⟩)
theorem rGetF (hs : Clo p e below G) (X : Sd p l e R s m args below meth c n0 T h cells slots) (hx : p.tables.exec = Jvm.exec) (hZ : Z.Warmed39 s.vm) {own R0 O n d host : String} {index : Nat} (hown : s.vm.findClass own = some m.cls) (w : (Jvm.Cond.fieldLink own index R0 n d).before a0 Z = true ∨ (Jvm.Cond.fieldLinkNest own index R0 n d host).before a0 Z = true) (via : Via Z R0 O n d)
    {a : Addr} {v : Value} (F : Fld Z h a O n d v) {g : JFrame} (hg : g.method = m) {rest : List Value} (hst : g.stack = .ref a :: rest) (hd : decode c.code g.pc = .ok (.getfield index, 3))
    (k : ∀ T' : State, Sd p l e R s m args below meth c n0 T' h cells slots → G T' { g with pc := g.pc + 3, stack := v :: rest }) : G T g := by
  obtain ⟨L, X, N, eh⟩ := X
  obtain ⟨T', X', e', st⟩ := getF X hx hZ hown w via eh F hg hst hd
  exact hs.go st (k T' ⟨L, X', N, e'⟩)
theorem rGetS (hs : Clo p e below G) (X : Sd p l e R s m args below meth c n0 T h cells slots) (hx : p.tables.exec = Jvm.exec) (hZ : Z.Warmed39 s.vm) {own R0 O n d host : String} {index : Nat} (hown : s.vm.findClass own = some m.cls) (w : (Jvm.Cond.fieldLink own index R0 n d).before a0 Z = true ∨ (Jvm.Cond.fieldLinkNest own index R0 n d host).before a0 Z = true) (via : Via Z R0 O n d)
    {v : Value} (F : Sta Z h O n d v) {g : JFrame} (hg : g.method = m) (hd : decode c.code g.pc = .ok (.getstatic index, 3))
    (k : ∀ T' : State, Sd p l e R s m args below meth c n0 T' h cells slots → G T' { g with pc := g.pc + 3, stack := v :: g.stack }) : G T g := by
  obtain ⟨L, X, N, eh⟩ := X
  obtain ⟨T', X', e', st⟩ := getS2 X hx hZ hown w via eh F hg hd
  exact hs.go st (k T' ⟨L, X', N, e'⟩)
theorem rPutF (hs : Clo p e below G) (X : Sd p l e R s m args below meth c n0 T h cells slots) (hx : p.tables.exec = Jvm.exec) (hZ : Z.Warmed39 s.vm) {own R0 O n d host C : String} {index kk : Nat} (ty : FieldType) (hown : s.vm.findClass own = some m.cls) (w : (Jvm.Cond.fieldLink own index R0 n d).before a0 Z = true ∨ (Jvm.Cond.fieldLinkNest own index R0 n d host).before a0 Z = true) (via : Via Z R0 O n d)
    {a : Addr} {v old : Value} (F : Fld Z h a O n d old) (E : Exa Z h a C) (ga : n0 ≤ a) (L : (Jvm.Cond.lays C O n d).before a0 Z = true ∨ ((Jvm.Cond.laysFinal C O n d).before a0 Z = true ∧ own = O ∧ meth.name = "<init>")) (wi : (Jvm.Cond.instantiable C kk).before a0 Z = true)
    (hty : parseFieldDescriptor d = some ty) (hn : narrow ty v = v) (hf : fits ty v = true) {g : JFrame} (hg : g.method = m) {rest : List Value} (hst : g.stack = v :: .ref a :: rest) (hd : decode c.code g.pc = .ok (.putfield index, 3))
    (k : ∀ (T' : State) (h' : Heap), Sd p l e R s m args below meth c n0 T' h' cells slots → Wr h h' a (Jvm.RoadKit.slotOf Z O n d) v → Fld Z h' a O n d v → G T' { g with pc := g.pc + 3, stack := rest }) : G T g := by
  obtain ⟨L0, X, N, eh⟩ := X
  obtain ⟨T', h', X', e', W, st⟩ := putF X hx hZ hown w via eh F E L wi hty hn hf hg hst hd
  exact hs.go st (k T' h' ⟨_, X', Fr.snoc X' N ga, e'⟩ W (F.same W))
/-! calls -/
theorem rCallS (hs : Clo p e below G) (X : Sd p l e R s m args below meth c n0 T h cells slots) (hx : p.tables.exec = Jvm.exec) (hZ : Z.Warmed39 s.vm) {own : String} {index : Nat} {y : MethodName} {bytes : ByteArray} {maxL : Nat} {ret : Option FieldType} {rm : Room} {as' : List Value} {Q' : Option Value → Heap → Prop}
    (hM : Con l Z y bytes maxL ret [] rm as'.toArray h n0 Q') (hown : s.vm.findClass own = some m.cls) (w1 : (Jvm.Cond.methodLink own index y).before a0 Z = true) (w2 : (Jvm.Cond.static y).before a0 Z = true) (w3 : (Jvm.Cond.initialized y.cls).before a0 Z = true) (w4 : (Jvm.Cond.code y bytes maxL ret).before a0 Z = true)
    (hy : y.cls ≠ "java/lang/invoke/MethodHandle" ∧ y.cls ≠ "java/lang/invoke/VarHandle") {g : JFrame} (hg : g.method = m) (hsize : g.locals.size = c.maxLocals) (rest : List Value) (hlen : ∀ sig, parseMethodDescriptor y.desc = some sig → as'.length = sig.parameters.length)
    (hst : g.stack = as'.reverse ++ rest) (W : Nat) (hW : 2 * g.monitorRoom + (rest.map fun v => v.category).sum ≤ W) (hd : decode c.code g.pc = .ok (.invokestatic index, 3))
    (hf : rm.frames + 1 ≤ R.frames) (hl : W + (maxL + 11) + rm.locals ≤ R.locals) (hc : cells + rm.cells ≤ R.cells) (hsl : slots + rm.slots ≤ R.slots)
    (k : ∀ (v : Option Value) (T' : State) (h' : Heap), Sd p l e R s m args below meth c n0 T' h' (cells + rm.cells) (slots + rm.slots) → Q' v h' → G T' { g with pc := g.pc + 3, stack := v.toList ++ rest }) : G T g := by
  obtain ⟨L, X, N, eh⟩ := X
  obtain ⟨v, vm₁, ⟨T', L', k', n'⟩, -, X', ⟨Lc, ⟨hQ, hN⟩, l', y', z'⟩, st⟩ := Jvm.LawKit.callS X hx (y := y) hown (mvT hZ w1) (mvT hZ w2) (mvT hZ w3) (mvT hZ w4) hy (backOf (Q := fun v h L => Q' v h ∧ Fr n0 L) (W := W) hM hZ w4 w3 hf hl) hg hsize (argsL := as') (rest := rest) hlen hst hW hd (fun _ _ => ⟨rfl, eh, hc, hsl⟩)
  dsimp only [Pt.U, Pt.locs, Pt.cells, Pt.slots] at X' l' y' z' st hQ
  subst l' y' z'
  exact hs.go st (k v T' T'.heap ⟨_, X', Fr.app N hN, rfl⟩ hQ)
theorem rCallI (hs : Clo p e below G) (X : Sd p l e R s m args below meth c n0 T h cells slots) (hx : p.tables.exec = Jvm.exec) (hZ : Z.Warmed39 s.vm) {own : String} {index : Nat} {y : MethodName} {bytes : ByteArray} {maxL : Nat} {rm : Room} {a : Addr} {as' : List Value} {Q' : Option Value → Heap → Prop}
    (hM : Con l Z y bytes maxL none [] rm (Value.ref a :: as').toArray h n0 Q') (hyn : y.name = "<init>") (hown : s.vm.findClass own = some m.cls) (w1 : (Jvm.Cond.methodLink own index y).before a0 Z = true) (w2 : (Jvm.Cond.instanceMethod y).before a0 Z = true) (w3 : (Jvm.Cond.initialized y.cls).before a0 Z = true) (w4 : (Jvm.Cond.code y bytes maxL none).before a0 Z = true)
    (hy : y.cls ≠ "java/lang/invoke/MethodHandle" ∧ y.cls ≠ "java/lang/invoke/VarHandle") {g : JFrame} (hg : g.method = m) (hsize : g.locals.size = c.maxLocals) (rest : List Value) (hlen : ∀ sig, parseMethodDescriptor y.desc = some sig → as'.length = sig.parameters.length)
    (hst : g.stack = as'.reverse ++ .ref a :: rest) (W : Nat) (hW : 2 * g.monitorRoom + (rest.map fun v => v.category).sum ≤ W) (hd : decode c.code g.pc = .ok (.invokespecial index, 3))
    (hf : rm.frames + 1 ≤ R.frames) (hl : W + (maxL + 11) + rm.locals ≤ R.locals) (hc : cells + rm.cells ≤ R.cells) (hsl : slots + rm.slots ≤ R.slots)
    (k : ∀ (v : Option Value) (T' : State) (h' : Heap), Sd p l e R s m args below meth c n0 T' h' (cells + rm.cells) (slots + rm.slots) → Q' v h' → G T' { g with pc := g.pc + 3, stack := v.toList ++ rest }) : G T g := by
  obtain ⟨L, X, N, eh⟩ := X
  obtain ⟨v, vm₁, ⟨T', L', k', n'⟩, -, X', ⟨Lc, ⟨hQ, hN⟩, l', y', z'⟩, st⟩ := X.specialBack hx (y := y) hyn hown (mvT hZ w1) (mvT hZ w2) (mvT hZ w4) hy (backOf (Q := fun v h L => Q' v h ∧ Fr n0 L) (W := W) hM hZ w4 w3 hf hl) hg hsize (Steps.refl _) (a := a) (argsL := as') (rest := rest) hlen hst hW hd (fun _ _ => ⟨rfl, eh, hc, hsl⟩)
  dsimp only [Pt.U, Pt.locs, Pt.cells, Pt.slots] at X' l' y' z' st hQ
  subst l' y' z'
  exact hs.go (fun _ q => st.trans q) (k v T' T'.heap ⟨_, X', Fr.app N hN, rfl⟩ hQ)
theorem rCallV (hs : Clo p e below G) (X : Sd p l e R s m args below meth c n0 T h cells slots) (hx : p.tables.exec = Jvm.exec) (hZ : Z.Warmed39 s.vm) {own C : String} {index : Nat} {y : MethodName} {bytes : ByteArray} {maxL : Nat} {ret : Option FieldType} {rm : Room} {a : Addr} {as' : List Value} {Q' : Option Value → Heap → Prop}
    (hM : Con l Z y bytes maxL ret [] rm (Value.ref a :: as').toArray h n0 Q') (E : Exa Z h a C) (hown : s.vm.findClass own = some m.cls) (w1 : (Jvm.Cond.methodLink own index y).before a0 Z = true) (w5 : (Jvm.Cond.declares y).before a0 Z = true) (w6 : (Jvm.Cond.selects C y y).before a0 Z = true) (w2 : (Jvm.Cond.instanceMethod y).before a0 Z = true) (w3 : (Jvm.Cond.initialized y.cls).before a0 Z = true) (w4 : (Jvm.Cond.code y bytes maxL ret).before a0 Z = true)
    (hy : y.cls ≠ "java/lang/invoke/MethodHandle" ∧ y.cls ≠ "java/lang/invoke/VarHandle") {g : JFrame} (hg : g.method = m) (hsize : g.locals.size = c.maxLocals) (rest : List Value) (hlen : ∀ sig, parseMethodDescriptor y.desc = some sig → as'.length = sig.parameters.length)
    (hst : g.stack = as'.reverse ++ .ref a :: rest) (W : Nat) (hW : 2 * g.monitorRoom + (rest.map fun v => v.category).sum ≤ W) (hd : decode c.code g.pc = .ok (.invokevirtual index, 3))
    (hf : rm.frames + 1 ≤ R.frames) (hl : W + (maxL + 11) + rm.locals ≤ R.locals) (hc : cells + rm.cells ≤ R.cells) (hsl : slots + rm.slots ≤ R.slots)
    (k : ∀ (v : Option Value) (T' : State) (h' : Heap), Sd p l e R s m args below meth c n0 T' h' (cells + rm.cells) (slots + rm.slots) → Q' v h' → G T' { g with pc := g.pc + 3, stack := v.toList ++ rest }) : G T g := by
  obtain ⟨L, X, N, eh⟩ := X
  obtain ⟨cB, kB, qa, qb, qc⟩ := isOf (T := T) hZ eh E
  obtain ⟨v, vm₁, ⟨T', L', k', n'⟩, -, X', ⟨Lc, ⟨hQ, hN⟩, l', y', z'⟩, st⟩ := X.virtualBack hx (y := y) (z := y) hown (mvT hZ w1) (mvT hZ w5) (notFace_of_selects (args := #[]) (mvT hZ w6)) (mvT hZ w6) (mvT hZ w2) hy (backOf (Q := fun v h L => Q' v h ∧ Fr n0 L) (W := W) hM hZ w4 w3 hf hl) qa qc hg hsize (Steps.refl _) (argsL := as') (rest := rest) hlen hst hW hd (fun _ _ => ⟨rfl, eh, hc, hsl⟩)
  dsimp only [Pt.U, Pt.locs, Pt.cells, Pt.slots] at X' l' y' z' st hQ
  subst l' y' z'
  exact hs.go (fun _ q => st.trans q) (k v T' T'.heap ⟨_, X', Fr.app N hN, rfl⟩ hQ)
/-! branches -/
theorem ltL {x y : Int64} (h : x < y) : if_icmp.holds .lt (lcmpW x y) 0 = true ∧ if_icmp.holds .ge (lcmpW x y) 0 = false := have q := tlt ((lw_lt x y).mpr h); ⟨q.1, q.2.1⟩
theorem nltL {x y : Int64} (h : ¬ x < y) : if_icmp.holds .lt (lcmpW x y) 0 = false ∧ if_icmp.holds .ge (lcmpW x y) 0 = true := have q := flt (fun z => h ((lw_lt x y).mp z)); ⟨q.1, q.2.1⟩
theorem gtL {x y : Int64} (h : y < x) : if_icmp.holds .gt (lcmpW x y) 0 = true ∧ if_icmp.holds .le (lcmpW x y) 0 = false := have q := tlt ((lw_gt x y).mpr h); ⟨q.2.2.1, q.2.2.2⟩
theorem ngtL {x y : Int64} (h : ¬ y < x) : if_icmp.holds .gt (lcmpW x y) 0 = false ∧ if_icmp.holds .le (lcmpW x y) 0 = true := have q := flt (fun z => h ((lw_gt x y).mp z)); ⟨q.2.2.1, q.2.2.2⟩
theorem eqL {x y : Int64} (h : x = y) : if_icmp.holds .eq (lcmpW x y) 0 = true ∧ if_icmp.holds .ne (lcmpW x y) 0 = false := teq ((lw_eq x y).mpr h)
theorem neqL {x y : Int64} (h : ¬ x = y) : if_icmp.holds .eq (lcmpW x y) 0 = false ∧ if_icmp.holds .ne (lcmpW x y) 0 = true := feq (fun z => h ((lw_eq x y).mp z))
theorem nameIt {α : Type} {P : α → Prop} (x : α) (k : ∀ z, z = x → P z) : P x := k x rfl
theorem eq64 {x y : Int64} (h : x.toInt = y.toInt) : x = y := Int64.toInt_inj.mp h
theorem eq32 {x y : Int32} (h : x.toInt = y.toInt) : x = y := Int32.toInt_inj.mp h
theorem lt64 {x y : Int64} : x < y ↔ x.toInt < y.toInt := Int64.lt_iff_toInt_lt
theorem lt32 {x y : Int32} : x < y ↔ x.toInt < y.toInt := Int32.lt_iff_toInt_lt
theorem e64 {x y : Int64} : x = y ↔ x.toInt = y.toInt := Int64.toInt_inj.symm
theorem e32 {x y : Int32} : x = y ↔ x.toInt = y.toInt := Int32.toInt_inj.symm
theorem c_lremM (x y : Int64) (d : Int) (hy : y.toInt = d) : (0 ≤ x.toInt → (x % y).toInt = x.toInt % d) ∧ (x.toInt < 0 → (x % y).toInt = -((-x.toInt) % d)) := by rw [Int64.toInt_mod, hy]; exact tr _ _
theorem nar_byte (x : Int32) : x.toInt8.toInt32.toInt8.toInt32 = x.toInt8.toInt32 := by simp
end OwnKit

theorem d2_0 : decode jdk_30_method_1_code 0 = .ok (.aload_n 0, 1) := by decide +kernel
theorem d2_1 : decode jdk_30_method_1_code 1 = .ok (.invokespecial 1, 3) := by decide +kernel
theorem d2_4 : decode jdk_30_method_1_code 4 = .ok (.return_, 1) := by decide +kernel
theorem pn_2 : plainFor (⟨"java/lang/Record", "<init>", "()V"⟩ : MethodName) = true := plainFor_of_name (by first | (simp [plainName, overriddenIn]; done) | decide +kernel)
theorem ef_2 (m : MethodId) (x0 : Addr) : entryFrame m #[(.ref x0)] 1 = mkF m 0 #[.val (.ref x0)] [] := by first | (simp [entryFrame, mkF, argsToLocals, Value.category]; done) | rfl
theorem hy_2 : ((⟨"java/lang/Record", "<init>", "()V"⟩ : MethodName)).cls ≠ "java/lang/invoke/MethodHandle" ∧ ((⟨"java/lang/Record", "<init>", "()V"⟩ : MethodName)).cls ≠ "java/lang/invoke/VarHandle" := by decide
set_option maxRecDepth 65536 in
set_option maxHeartbeats 40000000 in
theorem rm2 (l : Launch) (Z : State) (a0 : Array Value) (hw : ∀ d ∈ tables_1, d.before a0 Z = true) (ws : List Jvm.Cond) (a : Addr) (h0 : Heap) (n0 : Nat) (Z0 : n0 ≤ h0.size)  :
    Con l Z (⟨"java/lang/Record", "<init>", "()V"⟩ : MethodName) jdk_30_method_1_code 1 none ws ({ frames := 1, cells := 0, slots := 0, locals := 12 } : Room) #[(.ref a)] h0 n0 (fun v h => v = none ∧ h = h0) := by
  refine Con.of pn_2 ?_
  intro G p e s m below meth c s₁ hs hx hby hml hown hnm hret hZ X0 fin
  have hml : c.maxLocals = 1 := hml
  have hown : s.vm.findClass "java/lang/Record" = some m.cls := hown
  rw [ef_2]
  show G s₁ (mkF m 0 #[.val (.ref a)] [])
  refine hs.go (fun _ kk_ => XS.aloadN X0.here hx rfl (hb hby d2_0) rfl rfl kk_) ?_
  show G s₁ (mkF m 1 #[.val (.ref a)] [(.ref a)])
  refine rInitO hs X0 hx hZ hown (hw _ (List.mem_of_getElem? (i := 13) rfl)) (hw _ (List.mem_of_getElem? (i := 14) rfl)) (hw _ (List.mem_of_getElem? (i := 15) rfl)) rfl (by rw [hml]; rfl) rfl (hb hby d2_1) (by decide) (W := 0) (by show 2 * 0 + _ ≤ _; exact Nat.le_of_eq rfl) (by decide) (fun T1 X1 => ?_)
  show G T1 (mkF m 4 #[.val (.ref a)] [])
  exact rRetV fin X1 hx (by decide) (by decide) hret (hb hby d2_4) ⟨rfl, rfl⟩
theorem pd_0 : parseMethodDescriptor "()V" = some ⟨[], none⟩ := by decide +kernel
theorem d1_0 : decode prog_5_method_1_code 0 = .ok (.aload_n 0, 1) := by decide +kernel
theorem d1_1 : decode prog_5_method_1_code 1 = .ok (.invokespecial 1, 3) := by decide +kernel
theorem d1_4 : decode prog_5_method_1_code 4 = .ok (.aload_n 0, 1) := by decide +kernel
theorem d1_5 : decode prog_5_method_1_code 5 = .ok (.aload_n 1, 1) := by decide +kernel
theorem d1_6 : decode prog_5_method_1_code 6 = .ok (.putfield 7, 3) := by decide +kernel
theorem d1_9 : decode prog_5_method_1_code 9 = .ok (.aload_n 0, 1) := by decide +kernel
theorem d1_10 : decode prog_5_method_1_code 10 = .ok (.aload_n 2, 1) := by decide +kernel
theorem d1_11 : decode prog_5_method_1_code 11 = .ok (.putfield 13, 3) := by decide +kernel
theorem d1_14 : decode prog_5_method_1_code 14 = .ok (.return_, 1) := by decide +kernel
theorem pn_1 : plainFor (⟨"com/example/ranked_odds/rankedodds/eval/JudgedRanking", "<init>", "([I[I)V"⟩ : MethodName) = true := plainFor_of_name (by first | (simp [plainName, overriddenIn]; done) | decide +kernel)
theorem ef_1 (m : MethodId) (x0 : Addr) (x1 : Addr) (x2 : Addr) : entryFrame m #[(.ref x0), (.ref x1), (.ref x2)] 3 = mkF m 0 #[.val (.ref x0), .val (.ref x1), .val (.ref x2)] [] := by first | (simp [entryFrame, mkF, argsToLocals, Value.category]; done) | rfl
theorem hy_1 : ((⟨"com/example/ranked_odds/rankedodds/eval/JudgedRanking", "<init>", "([I[I)V"⟩ : MethodName)).cls ≠ "java/lang/invoke/MethodHandle" ∧ ((⟨"com/example/ranked_odds/rankedodds/eval/JudgedRanking", "<init>", "([I[I)V"⟩ : MethodName)).cls ≠ "java/lang/invoke/VarHandle" := by decide
set_option maxRecDepth 65536 in
set_option maxHeartbeats 40000000 in
theorem rm1 (l : Launch) (Z : State) (a0 : Array Value) (hw : ∀ d ∈ tables_1, d.before a0 Z = true) (ws : List Jvm.Cond) (a a1 a2 : Addr) (h0 : Heap) (n0 : Nat) (Z0 : n0 ≤ h0.size) (E_a : Exa Z h0 a "com/example/ranked_odds/rankedodds/eval/JudgedRanking") (g_a : n0 ≤ a) (F_relevance_a : Fld Z h0 a "com/example/ranked_odds/rankedodds/eval/JudgedRanking" "relevance" "[I" .null) (F_judged_a : Fld Z h0 a "com/example/ranked_odds/rankedodds/eval/JudgedRanking" "judged" "[I" .null) :
    Con l Z (⟨"com/example/ranked_odds/rankedodds/eval/JudgedRanking", "<init>", "([I[I)V"⟩ : MethodName) prog_5_method_1_code 3 none ws ({ frames := 2, cells := 0, slots := 0, locals := 24 } : Room) #[(.ref a), (.ref a1), (.ref a2)] h0 n0 (fun v h => v = none ∧ Keep h0 h [a] ∧ Exa Z h a "com/example/ranked_odds/rankedodds/eval/JudgedRanking" ∧ Fld Z h a "com/example/ranked_odds/rankedodds/eval/JudgedRanking" "judged" "[I" (.ref a2)) := by
  refine Con.of pn_1 ?_
  intro G p e s m below meth c s₁ hs hx hby hml hown hnm hret hZ X0 fin
  have hml : c.maxLocals = 3 := hml
  have hown : s.vm.findClass "com/example/ranked_odds/rankedodds/eval/JudgedRanking" = some m.cls := hown
  rw [ef_1]
  have K := Keep.refl h0 ([a] : List Addr)
  have Ksz := K.1
  show G s₁ (mkF m 0 #[.val (.ref a), .val (.ref a1), .val (.ref a2)] [])
  refine hs.go (fun _ kk_ => XS.aloadN X0.here hx rfl (hb hby d1_0) rfl rfl kk_) ?_
  show G s₁ (mkF m 1 #[.val (.ref a), .val (.ref a1), .val (.ref a2)] [(.ref a)])
  refine rCallI hs X0 hx hZ (as' := []) (rm2 l Z a0 hw [] a h0 n0 Z0) rfl hown (hw _ (List.mem_of_getElem? (i := 8) rfl)) (hw _ (List.mem_of_getElem? (i := 9) rfl)) (hw _ (List.mem_of_getElem? (i := 11) rfl)) (hw _ (List.mem_of_getElem? (i := 12) rfl)) hy_2 rfl (by rw [hml]; rfl) [] (lenOf pd_0 rfl) rfl 0 (by show 2 * 0 + _ ≤ _; exact Nat.le_of_eq rfl) (hb hby d1_1) (by decide) (by decide) (by decide) (by decide) (fun r1 T1 h1 X1 q1 => ?_)
  obtain ⟨rfl, qh1⟩ := q1
  rw [qh1] at X1
  show G T1 (mkF m 4 #[.val (.ref a), .val (.ref a1), .val (.ref a2)] [])
  refine hs.go (fun _ kk_ => XS.aloadN X1.here hx rfl (hb hby d1_4) rfl rfl kk_) ?_
  show G T1 (mkF m 5 #[.val (.ref a), .val (.ref a1), .val (.ref a2)] [(.ref a)])
  refine hs.go (fun _ kk_ => XS.aloadN X1.here hx rfl (hb hby d1_5) rfl rfl kk_) ?_
  show G T1 (mkF m 6 #[.val (.ref a), .val (.ref a1), .val (.ref a2)] [(.ref a1), (.ref a)])
  refine rPutF hs X1 hx hZ (.array .int) hown (host := "") (Or.inl (hw _ (List.mem_of_getElem? (i := 16) rfl))) Via.refl F_relevance_a E_a g_a (Or.inr ⟨(hw _ (List.mem_of_getElem? (i := 17) rfl)), rfl, hnm⟩) (hw _ (List.mem_of_getElem? (i := 3) rfl)) (by decide) rfl rfl rfl rfl (hb hby d1_6) (fun T2 h2 X2 W2 F_relevance_a => ?_)
  have E_a := E_a.wr W2
  have F_judged_a := F_judged_a.other W2 (Or.inr (slot_ne (Or.inr (hw _ (List.mem_of_getElem? (i := 19) rfl))) (Or.inr (hw _ (List.mem_of_getElem? (i := 17) rfl))) (by decide) (t := (.array .int)) (t' := (.array .int)) (by decide) (by decide)))
  have K := K.wr W2 (Or.inl (by simp))
  have Ksz := K.1
  have Z0 := Nat.le_trans Z0 (Keep.of_wr W2).1
  show G T2 (mkF m 9 #[.val (.ref a), .val (.ref a1), .val (.ref a2)] [])
  refine hs.go (fun _ kk_ => XS.aloadN X2.here hx rfl (hb hby d1_9) rfl rfl kk_) ?_
  show G T2 (mkF m 10 #[.val (.ref a), .val (.ref a1), .val (.ref a2)] [(.ref a)])
  refine hs.go (fun _ kk_ => XS.aloadN X2.here hx rfl (hb hby d1_10) rfl rfl kk_) ?_
  show G T2 (mkF m 11 #[.val (.ref a), .val (.ref a1), .val (.ref a2)] [(.ref a2), (.ref a)])
  refine rPutF hs X2 hx hZ (.array .int) hown (host := "") (Or.inl (hw _ (List.mem_of_getElem? (i := 18) rfl))) Via.refl F_judged_a E_a g_a (Or.inr ⟨(hw _ (List.mem_of_getElem? (i := 19) rfl)), rfl, hnm⟩) (hw _ (List.mem_of_getElem? (i := 3) rfl)) (by decide) rfl rfl rfl rfl (hb hby d1_11) (fun T3 h3 X3 W3 F_judged_a => ?_)
  have E_a := E_a.wr W3
  have F_relevance_a := F_relevance_a.other W3 (Or.inr (slot_ne (Or.inr (hw _ (List.mem_of_getElem? (i := 17) rfl))) (Or.inr (hw _ (List.mem_of_getElem? (i := 19) rfl))) (by decide) (t := (.array .int)) (t' := (.array .int)) (by decide) (by decide)))
  have K := K.wr W3 (Or.inl (by simp))
  have Ksz := K.1
  have Z0 := Nat.le_trans Z0 (Keep.of_wr W3).1
  show G T3 (mkF m 14 #[.val (.ref a), .val (.ref a1), .val (.ref a2)] [])
  exact rRetV fin X3 hx (by decide) (by decide) hret (hb hby d1_14) ⟨rfl, K, E_a, F_judged_a⟩
def f4 (pr : Int32) (jv : Int32) : Int32 := (if pr = (0 : Int32) then (0 : Int32) else (if (0 : Int32) < jv then (1 : Int32) else (0 : Int32)))
theorem d4_0 : decode method_2_code 0 = .ok (.iload_n 0, 1) := by decide +kernel
theorem d4_1 : decode method_2_code 1 = .ok (.ifCond .eq 9, 3) := by decide +kernel
theorem d4_4 : decode method_2_code 4 = .ok (.iload_n 1, 1) := by decide +kernel
theorem d4_5 : decode method_2_code 5 = .ok (.ifCond .le 5, 3) := by decide +kernel
theorem d4_8 : decode method_2_code 8 = .ok (.iconst 1, 1) := by decide +kernel
theorem d4_9 : decode method_2_code 9 = .ok (.ireturn, 1) := by decide +kernel
theorem d4_10 : decode method_2_code 10 = .ok (.iconst 0, 1) := by decide +kernel
theorem d4_11 : decode method_2_code 11 = .ok (.ireturn, 1) := by decide +kernel
theorem pn_4 : plainFor (⟨"com/example/ranked_odds/rankedodds/eval/JudgedRankingRelevantCountPinLaw", "one", "(ZI)I"⟩ : MethodName) = true := plainFor_of_name (by first | (simp [plainName, overriddenIn]; done) | decide +kernel)
theorem ef_4 (m : MethodId) (x0 : Int32) (x1 : Int32) : entryFrame m #[(.int x0), (.int x1)] 2 = mkF m 0 #[.val (.int x0), .val (.int x1)] [] := by first | (simp [entryFrame, mkF, argsToLocals, Value.category]; done) | rfl
theorem hy_4 : ((⟨"com/example/ranked_odds/rankedodds/eval/JudgedRankingRelevantCountPinLaw", "one", "(ZI)I"⟩ : MethodName)).cls ≠ "java/lang/invoke/MethodHandle" ∧ ((⟨"com/example/ranked_odds/rankedodds/eval/JudgedRankingRelevantCountPinLaw", "one", "(ZI)I"⟩ : MethodName)).cls ≠ "java/lang/invoke/VarHandle" := by decide
set_option maxRecDepth 65536 in
set_option maxHeartbeats 40000000 in
theorem rm4 (l : Launch) (Z : State) (a0 : Array Value) (hw : ∀ d ∈ tables_1, d.before a0 Z = true) (ws : List Jvm.Cond) (pr : Int32) (jv : Int32) (h0 : Heap) (n0 : Nat) (Z0 : n0 ≤ h0.size)  :
    Con l Z (⟨"com/example/ranked_odds/rankedodds/eval/JudgedRankingRelevantCountPinLaw", "one", "(ZI)I"⟩ : MethodName) method_2_code 2 (some .int) ws ({ frames := 0, cells := 0, slots := 0, locals := 0 } : Room) #[(.int pr), (.int jv)] h0 n0 (fun v h => v = some (.int (f4 pr jv)) ∧ h = h0) := by
  refine Con.of pn_4 ?_
  intro G p e s m below meth c s₁ hs hx hby hml hown hnm hret hZ X0 fin
  have hml : c.maxLocals = 2 := hml
  have hown : s.vm.findClass "com/example/ranked_odds/rankedodds/eval/JudgedRankingRelevantCountPinLaw" = some m.cls := hown
  rw [ef_4]
  show G s₁ (mkF m 0 #[.val (.int pr), .val (.int jv)] [])
  refine hs.go (fun _ kk_ => XS.iloadN X0.here hx rfl (hb hby d4_0) rfl  kk_) ?_
  show G s₁ (mkF m 1 #[.val (.int pr), .val (.int jv)] [(.int pr)])
  by_cases c1 : pr = (0 : Int32)
  · refine hs.go (fun _ kk_ => XS.ifYes X0.here hx rfl (pc0 := 1) (pc' := 10) rfl (hb hby d4_1) rfl ((if0 _ _).trans (teq c1).1) (by decide) (by decide) kk_) ?_
    show G s₁ (mkF m 10 #[.val (.int pr), .val (.int jv)] [])
    refine hs.go (fun _ kk_ => XS.iconst X0.here hx rfl (hb hby d4_10) kk_) ?_
    show G s₁ (mkF m 11 #[.val (.int pr), .val (.int jv)] [(.int (0 : Int32))])
    exact rRetI fin X0 hx (by decide) (by decide) hret (hb hby d4_11) ⟨by rw [f4, if_pos c1], rfl⟩
  · refine hs.go (fun _ kk_ => XS.ifNo X0.here hx rfl (hb hby d4_1) rfl ((if0 _ _).trans (feq c1).1) kk_) ?_
    show G s₁ (mkF m 4 #[.val (.int pr), .val (.int jv)] [])
    refine hs.go (fun _ kk_ => XS.iloadN X0.here hx rfl (hb hby d4_4) rfl  kk_) ?_
    show G s₁ (mkF m 5 #[.val (.int pr), .val (.int jv)] [(.int jv)])
    by_cases c5 : (0 : Int32) < jv
    · refine hs.go (fun _ kk_ => XS.ifNo X0.here hx rfl (hb hby d4_5) rfl ((if0 _ _).trans (tlt c5).2.2.2) kk_) ?_
      show G s₁ (mkF m 8 #[.val (.int pr), .val (.int jv)] [])
      refine hs.go (fun _ kk_ => XS.iconst X0.here hx rfl (hb hby d4_8) kk_) ?_
      show G s₁ (mkF m 9 #[.val (.int pr), .val (.int jv)] [(.int (1 : Int32))])
      exact rRetI fin X0 hx (by decide) (by decide) hret (hb hby d4_9) ⟨by rw [f4, if_neg c1, if_pos c5], rfl⟩
    · refine hs.go (fun _ kk_ => XS.ifYes X0.here hx rfl (pc0 := 5) (pc' := 10) rfl (hb hby d4_5) rfl ((if0 _ _).trans (flt c5).2.2.2) (by decide) (by decide) kk_) ?_
      show G s₁ (mkF m 10 #[.val (.int pr), .val (.int jv)] [])
      refine hs.go (fun _ kk_ => XS.iconst X0.here hx rfl (hb hby d4_10) kk_) ?_
      show G s₁ (mkF m 11 #[.val (.int pr), .val (.int jv)] [(.int (0 : Int32))])
      exact rRetI fin X0 hx (by decide) (by decide) hret (hb hby d4_11) ⟨by rw [f4, if_neg c1, if_neg c5], rfl⟩

def cpos : List Int32 → Int32 → Int32
  | [], c => c
  | x :: t, c => cpos t (if (0 : Int32) < x then c + 1 else c)
theorem own_at (us pre rest : List Int32) (x i : Int32) (hu : us = pre ++ x :: rest) (hi : i.toInt = pre.length) : List.getD (us.map Value.int) i.toNatClampNeg (.int (0 : Int32)) = .int x := by
  have e : i.toNatClampNeg = pre.length := by simp only [Int32.toNatClampNeg, hi]; rfl
  rw [e, hu]
  simp [List.getD]
theorem own_f41 (v : Int32) : f4 (1 : Int32) v = if (0 : Int32) < v then (1 : Int32) else (0 : Int32) := by rw [f4, if_neg (by decide)]
theorem own_f40 (v : Int32) : f4 (0 : Int32) v = (0 : Int32) := by rw [f4, if_pos rfl]
theorem own_l0 (a b c d : Int32) {e : Int32} (h : e = ((((f4 (0 : Int32) a) + (f4 (0 : Int32) b)) + (f4 (0 : Int32) c)) + (f4 (0 : Int32) d))) : cpos [] 0 = e := by
  rw [h]; simp only [own_f40, cpos]; rfl
theorem own_l1 (a b c d : Int32) {e : Int32} (h : e = ((((f4 (1 : Int32) a) + (f4 (0 : Int32) b)) + (f4 (0 : Int32) c)) + (f4 (0 : Int32) d))) : cpos [a] 0 = e := by
  rw [h]; simp only [own_f40, own_f41, cpos]
  by_cases h1 : (0 : Int32) < a <;> simp only [h1, if_true, if_false] <;> rfl
theorem own_l2 (a b c d : Int32) {e : Int32} (h : e = ((((f4 (1 : Int32) a) + (f4 (1 : Int32) b)) + (f4 (0 : Int32) c)) + (f4 (0 : Int32) d))) : cpos [a, b] 0 = e := by
  rw [h]; simp only [own_f40, own_f41, cpos]
  by_cases h1 : (0 : Int32) < a <;> by_cases h2 : (0 : Int32) < b <;> simp only [h1, h2, if_true, if_false] <;> rfl
theorem own_l3 (a b c d : Int32) {e : Int32} (h : e = ((((f4 (1 : Int32) a) + (f4 (1 : Int32) b)) + (f4 (1 : Int32) c)) + (f4 (0 : Int32) d))) : cpos [a, b, c] 0 = e := by
  rw [h]; simp only [own_f40, own_f41, cpos]
  by_cases h1 : (0 : Int32) < a <;> by_cases h2 : (0 : Int32) < b <;> by_cases h3 : (0 : Int32) < c <;> simp only [h1, h2, h3, if_true, if_false] <;> rfl
theorem own_l4 (a b c d : Int32) {e : Int32} (h : e = ((((f4 (1 : Int32) a) + (f4 (1 : Int32) b)) + (f4 (1 : Int32) c)) + (f4 (1 : Int32) d))) : cpos [a, b, c, d] 0 = e := by
  rw [h]; simp only [own_f41, cpos]
  by_cases h1 : (0 : Int32) < a <;> by_cases h2 : (0 : Int32) < b <;> by_cases h3 : (0 : Int32) < c <;> by_cases h4 : (0 : Int32) < d <;> simp only [h1, h2, h3, h4, if_true, if_false] <;> rfl
theorem own_sz {x f : Int32} (h : f = ((x &&& (2147483647 : Int32)) % (5 : Int32))) : f = (0 : Int32) ∨ f = (1 : Int32) ∨ f = (2 : Int32) ∨ f = (3 : Int32) ∨ f = (4 : Int32) := by
  have a := (c_and x 2147483647 (by decide)).1
  have b := (c_irem (x &&& (2147483647 : Int32)) 5 5 rfl).1 a
  rw [← h] at b
  have k0 : (0 : Int32).toInt = 0 := rfl
  have k1 : (1 : Int32).toInt = 1 := rfl
  have k2 : (2 : Int32).toInt = 2 := rfl
  have k3 : (3 : Int32).toInt = 3 := rfl
  have k4 : (4 : Int32).toInt = 4 := rfl
  simp only [e32 (x := f), k0, k1, k2, k3, k4]
  omega

theorem d5_0 : decode prog_5_method_4_code 0 = .ok (.iconst 0, 1) := by decide +kernel
theorem d5_1 : decode prog_5_method_4_code 1 = .ok (.istore_n 1, 1) := by decide +kernel
theorem d5_2 : decode prog_5_method_4_code 2 = .ok (.aload_n 0, 1) := by decide +kernel
theorem d5_3 : decode prog_5_method_4_code 3 = .ok (.getfield 13, 3) := by decide +kernel
theorem d5_6 : decode prog_5_method_4_code 6 = .ok (.astore_n 2, 1) := by decide +kernel
theorem d5_7 : decode prog_5_method_4_code 7 = .ok (.aload_n 2, 1) := by decide +kernel
theorem d5_8 : decode prog_5_method_4_code 8 = .ok (.arraylength, 1) := by decide +kernel
theorem d5_9 : decode prog_5_method_4_code 9 = .ok (.istore_n 3, 1) := by decide +kernel
theorem d5_10 : decode prog_5_method_4_code 10 = .ok (.iconst 0, 1) := by decide +kernel
theorem d5_11 : decode prog_5_method_4_code 11 = .ok (.istore 4, 2) := by decide +kernel
theorem d5_13 : decode prog_5_method_4_code 13 = .ok (.iload 4, 2) := by decide +kernel
theorem d5_15 : decode prog_5_method_4_code 15 = .ok (.iload_n 3, 1) := by decide +kernel
theorem d5_16 : decode prog_5_method_4_code 16 = .ok (.if_icmp .ge 23, 3) := by decide +kernel
theorem d5_19 : decode prog_5_method_4_code 19 = .ok (.aload_n 2, 1) := by decide +kernel
theorem d5_20 : decode prog_5_method_4_code 20 = .ok (.iload 4, 2) := by decide +kernel
theorem d5_22 : decode prog_5_method_4_code 22 = .ok (.iaload, 1) := by decide +kernel
theorem d5_23 : decode prog_5_method_4_code 23 = .ok (.istore 5, 2) := by decide +kernel
theorem d5_25 : decode prog_5_method_4_code 25 = .ok (.iload 5, 2) := by decide +kernel
theorem d5_27 : decode prog_5_method_4_code 27 = .ok (.ifCond .le 6, 3) := by decide +kernel
theorem d5_30 : decode prog_5_method_4_code 30 = .ok (.iinc 1 1, 3) := by decide +kernel
theorem d5_33 : decode prog_5_method_4_code 33 = .ok (.iinc 4 1, 3) := by decide +kernel
theorem d5_36 : decode prog_5_method_4_code 36 = .ok (.goto (-23), 3) := by decide +kernel
theorem d5_39 : decode prog_5_method_4_code 39 = .ok (.iload_n 1, 1) := by decide +kernel
theorem d5_40 : decode prog_5_method_4_code 40 = .ok (.ireturn, 1) := by decide +kernel
theorem pn_5 : plainFor (⟨"com/example/ranked_odds/rankedodds/eval/JudgedRanking", "relevantCount", "()I"⟩ : MethodName) = true := plainFor_of_name (by first | (simp [plainName, overriddenIn]; done) | decide +kernel)
theorem ef_5 (m : MethodId) (x0 : Addr) : entryFrame m #[(.ref x0)] 6 = mkF m 0 #[.val (.ref x0), .unset, .unset, .unset, .unset, .unset] [] := by first | (simp [entryFrame, mkF, argsToLocals, Value.category]; done) | rfl
theorem hy_5 : ((⟨"com/example/ranked_odds/rankedodds/eval/JudgedRanking", "relevantCount", "()I"⟩ : MethodName)).cls ≠ "java/lang/invoke/MethodHandle" ∧ ((⟨"com/example/ranked_odds/rankedodds/eval/JudgedRanking", "relevantCount", "()I"⟩ : MethodName)).cls ≠ "java/lang/invoke/VarHandle" := by decide
set_option maxRecDepth 65536 in
set_option maxHeartbeats 40000000 in
theorem rm5 (l : Launch) (Z : State) (a0 : Array Value) (hw : ∀ d ∈ tables_1, d.before a0 Z = true) (ws : List Jvm.Cond) (a aj : Addr) (z : Int32) (us : List Int32) (kc : ClassId) (h0 : Heap) (n0 : Nat) (Z0 : n0 ≤ h0.size) (F_judged_a : Fld Z h0 a "com/example/ranked_odds/rankedodds/eval/JudgedRanking" "judged" "[I" (.ref aj)) (V_aj : Arv Z h0 aj kc .int z (us.map Value.int) (.int (0 : Int32))) (hz : z.toInt = us.length) :
    Con l Z (⟨"com/example/ranked_odds/rankedodds/eval/JudgedRanking", "relevantCount", "()I"⟩ : MethodName) prog_5_method_4_code 6 (some .int) ws ({ frames := 0, cells := 0, slots := 0, locals := 0 } : Room) #[(.ref a)] h0 n0 (fun v h => v = some (.int (cpos us 0)) ∧ h = h0) := by
  refine Con.of pn_5 ?_
  intro G p e s m below meth c s₁ hs hx hby hml hown hnm hret hZ X0 fin
  have hml : c.maxLocals = 6 := hml
  have hown : s.vm.findClass "com/example/ranked_odds/rankedodds/eval/JudgedRanking" = some m.cls := hown
  rw [ef_5]
  show G s₁ (mkF m 0 #[.val (.ref a), .unset, .unset, .unset, .unset, .unset] [])
  refine hs.go (fun _ kk_ => XS.iconst X0.here hx rfl (hb hby d5_0) kk_) ?_
  show G s₁ (mkF m 1 #[.val (.ref a), .unset, .unset, .unset, .unset, .unset] [(.int (0 : Int32))])
  refine hs.go (fun _ kk_ => XS.istoreN X0.here hx rfl (hb hby d5_1) rfl (l' := #[.val (.ref a), .val (.int (0 : Int32)), .unset, .unset, .unset, .unset]) rfl kk_) ?_
  show G s₁ (mkF m 2 #[.val (.ref a), .val (.int (0 : Int32)), .unset, .unset, .unset, .unset] [])
  refine hs.go (fun _ kk_ => XS.aloadN X0.here hx rfl (hb hby d5_2) rfl rfl kk_) ?_
  show G s₁ (mkF m 3 #[.val (.ref a), .val (.int (0 : Int32)), .unset, .unset, .unset, .unset] [(.ref a)])
  refine rGetF hs X0 hx hZ hown (host := "") (Or.inl (hw _ (List.mem_of_getElem? (i := 18) rfl))) Via.refl F_judged_a rfl rfl (hb hby d5_3) (fun T1 X1 => ?_)
  show G T1 (mkF m 6 #[.val (.ref a), .val (.int (0 : Int32)), .unset, .unset, .unset, .unset] [(.ref aj)])
  refine hs.go (fun _ kk_ => XS.astoreN X1.here hx rfl (hb hby d5_6) rfl rfl (l' := #[.val (.ref a), .val (.int (0 : Int32)), .val (.ref aj), .unset, .unset, .unset]) rfl kk_) ?_
  show G T1 (mkF m 7 #[.val (.ref a), .val (.int (0 : Int32)), .val (.ref aj), .unset, .unset, .unset] [])
  refine hs.go (fun _ kk_ => XS.aloadN X1.here hx rfl (hb hby d5_7) rfl rfl kk_) ?_
  show G T1 (mkF m 8 #[.val (.ref a), .val (.int (0 : Int32)), .val (.ref aj), .unset, .unset, .unset] [(.ref aj)])
  refine rLen hs X1 hx hZ V_aj rfl rfl (hb hby d5_8) ?_
  show G T1 (mkF m 9 #[.val (.ref a), .val (.int (0 : Int32)), .val (.ref aj), .unset, .unset, .unset] [(.int z)])
  refine hs.go (fun _ kk_ => XS.istoreN X1.here hx rfl (hb hby d5_9) rfl (l' := #[.val (.ref a), .val (.int (0 : Int32)), .val (.ref aj), .val (.int z), .unset, .unset]) rfl kk_) ?_
  show G T1 (mkF m 10 #[.val (.ref a), .val (.int (0 : Int32)), .val (.ref aj), .val (.int z), .unset, .unset] [])
  refine hs.go (fun _ kk_ => XS.iconst X1.here hx rfl (hb hby d5_10) kk_) ?_
  show G T1 (mkF m 11 #[.val (.ref a), .val (.int (0 : Int32)), .val (.ref aj), .val (.int z), .unset, .unset] [(.int (0 : Int32))])
  refine hs.go (fun _ kk_ => XS.istore X1.here hx rfl (hb hby d5_11) rfl (l' := #[.val (.ref a), .val (.int (0 : Int32)), .val (.ref aj), .val (.int z), .val (.int (0 : Int32)), .unset]) rfl kk_) ?_
  show G T1 (mkF m 13 #[.val (.ref a), .val (.int (0 : Int32)), .val (.ref aj), .val (.int z), .val (.int (0 : Int32)), .unset] [])
  have loop : ∀ (rest pre : List Int32) (i ct : Int32) (o5 : Slot), us = pre ++ rest → i.toInt = pre.length → cpos rest ct = cpos us 0 → (o5 = .unset ∨ ∃ w5, o5 = .val (.int w5)) → G T1 (mkF m 13 #[.val (.ref a), .val (.int ct), .val (.ref aj), .val (.int z), .val (.int i), o5] []) := by
    intro rest
    induction rest with
    | nil =>
      intro pre i ct o5 hu hi hr ho
      have hlen : us.length = pre.length := by rw [hu]; simp
      show G T1 (mkF m 13 #[.val (.ref a), .val (.int ct), .val (.ref aj), .val (.int z), .val (.int i), o5] [])
      refine hs.go (fun _ kk_ => XS.iload X1.here hx rfl (hb hby d5_13) rfl  kk_) ?_
      show G T1 (mkF m 15 #[.val (.ref a), .val (.int ct), .val (.ref aj), .val (.int z), .val (.int i), o5] [(.int i)])
      refine hs.go (fun _ kk_ => XS.iloadN X1.here hx rfl (hb hby d5_15) rfl  kk_) ?_
      show G T1 (mkF m 16 #[.val (.ref a), .val (.int ct), .val (.ref aj), .val (.int z), .val (.int i), o5] [(.int z), (.int i)])
      refine hs.go (fun _ kk_ => XS.icmpYes X1.here hx rfl (pc0 := 16) (pc' := 39) rfl (hb hby d5_16) rfl (flt ((by rw [lt32]; omega) : ¬ (i < z))).2.1 (by decide) (by decide) kk_) ?_
      show G T1 (mkF m 39 #[.val (.ref a), .val (.int ct), .val (.ref aj), .val (.int z), .val (.int i), o5] [])
      refine hs.go (fun _ kk_ => XS.iloadN X1.here hx rfl (hb hby d5_39) rfl  kk_) ?_
      show G T1 (mkF m 40 #[.val (.ref a), .val (.int ct), .val (.ref aj), .val (.int z), .val (.int i), o5] [(.int ct)])
      exact rRetI fin X1 hx (by decide) (by decide) hret (hb hby d5_40) ⟨by rw [← hr]; rfl, rfl⟩
    | cons x rest ih =>
      intro pre i ct o5 hu hi hr ho
      have hlen : us.length = pre.length + (rest.length + 1) := by rw [hu]; simp
      have hix := rng32 i
      have hzx := rng32 z
      rcases ho with rfl | ⟨w5, rfl⟩
      · show G T1 (mkF m 13 #[.val (.ref a), .val (.int ct), .val (.ref aj), .val (.int z), .val (.int i), .unset] [])
        refine hs.go (fun _ kk_ => XS.iload X1.here hx rfl (hb hby d5_13) rfl  kk_) ?_
        show G T1 (mkF m 15 #[.val (.ref a), .val (.int ct), .val (.ref aj), .val (.int z), .val (.int i), .unset] [(.int i)])
        refine hs.go (fun _ kk_ => XS.iloadN X1.here hx rfl (hb hby d5_15) rfl  kk_) ?_
        show G T1 (mkF m 16 #[.val (.ref a), .val (.int ct), .val (.ref aj), .val (.int z), .val (.int i), .unset] [(.int z), (.int i)])
        refine hs.go (fun _ kk_ => XS.icmpNo X1.here hx rfl (hb hby d5_16) rfl (tlt ((by rw [lt32]; omega) : i < z)).2.1 kk_) ?_
        show G T1 (mkF m 19 #[.val (.ref a), .val (.int ct), .val (.ref aj), .val (.int z), .val (.int i), .unset] [])
        refine hs.go (fun _ kk_ => XS.aloadN X1.here hx rfl (hb hby d5_19) rfl rfl kk_) ?_
        show G T1 (mkF m 20 #[.val (.ref a), .val (.int ct), .val (.ref aj), .val (.int z), .val (.int i), .unset] [(.ref aj)])
        refine hs.go (fun _ kk_ => XS.iload X1.here hx rfl (hb hby d5_20) rfl  kk_) ?_
        show G T1 (mkF m 22 #[.val (.ref a), .val (.int ct), .val (.ref aj), .val (.int z), .val (.int i), .unset] [(.int i), (.ref aj)])
        refine rLdI hs X1 hx hZ V_aj ⟨by rw [lt32]; have k0 : (0 : Int32).toInt = 0 := rfl; omega, by rw [lt32]; omega⟩ (v := (.int x)) (own_at us pre rest x i hu hi) rfl rfl (hb hby d5_22) ?_
        show G T1 (mkF m 23 #[.val (.ref a), .val (.int ct), .val (.ref aj), .val (.int z), .val (.int i), .unset] [(.int x)])
        refine hs.go (fun _ kk_ => XS.istore X1.here hx rfl (hb hby d5_23) rfl (l' := #[.val (.ref a), .val (.int ct), .val (.ref aj), .val (.int z), .val (.int i), .val (.int x)]) rfl kk_) ?_
        show G T1 (mkF m 25 #[.val (.ref a), .val (.int ct), .val (.ref aj), .val (.int z), .val (.int i), .val (.int x)] [])
        refine hs.go (fun _ kk_ => XS.iload X1.here hx rfl (hb hby d5_25) rfl  kk_) ?_
        show G T1 (mkF m 27 #[.val (.ref a), .val (.int ct), .val (.ref aj), .val (.int z), .val (.int i), .val (.int x)] [(.int x)])
        by_cases c27 : (0 : Int32) < x
        · refine hs.go (fun _ kk_ => XS.ifNo X1.here hx rfl (hb hby d5_27) rfl ((if0 _ _).trans (tlt c27).2.2.2) kk_) ?_
          show G T1 (mkF m 30 #[.val (.ref a), .val (.int ct), .val (.ref aj), .val (.int z), .val (.int i), .val (.int x)] [])
          refine hs.go (fun _ kk_ => XS.iinc X1.here hx rfl (hb hby d5_30) rfl (l' := #[.val (.ref a), .val (.int (ct + (1 : Int32))), .val (.ref aj), .val (.int z), .val (.int i), .val (.int x)]) rfl kk_) ?_
          show G T1 (mkF m 33 #[.val (.ref a), .val (.int (ct + (1 : Int32))), .val (.ref aj), .val (.int z), .val (.int i), .val (.int x)] [])
          refine hs.go (fun _ kk_ => XS.iinc X1.here hx rfl (hb hby d5_33) rfl (l' := #[.val (.ref a), .val (.int (ct + (1 : Int32))), .val (.ref aj), .val (.int z), .val (.int (i + (1 : Int32))), .val (.int x)]) rfl kk_) ?_
          show G T1 (mkF m 36 #[.val (.ref a), .val (.int (ct + (1 : Int32))), .val (.ref aj), .val (.int z), .val (.int (i + (1 : Int32))), .val (.int x)] [])
          refine hs.go (fun _ kk_ => XS.goto X1.here hx rfl (pc0 := 36) (pc' := 13) rfl (hb hby d5_36) (by decide) (by decide) kk_) ?_
          show G T1 (mkF m 13 #[.val (.ref a), .val (.int (ct + (1 : Int32))), .val (.ref aj), .val (.int z), .val (.int (i + (1 : Int32))), .val (.int x)] [])
          refine ih (pre ++ [x]) _ _ _ (by rw [hu]; simp) ?_ (by rw [← hr, cpos, if_pos c27]) (Or.inr ⟨_, rfl⟩)
          have q := c_iadd i 1
          have r := rng32 (i + 1)
          have k1 : (1 : Int32).toInt = 1 := rfl
          simp only [List.length_append, List.length_cons, List.length_nil]
          omega
        · refine hs.go (fun _ kk_ => XS.ifYes X1.here hx rfl (pc0 := 27) (pc' := 33) rfl (hb hby d5_27) rfl ((if0 _ _).trans (flt c27).2.2.2) (by decide) (by decide) kk_) ?_
          show G T1 (mkF m 33 #[.val (.ref a), .val (.int ct), .val (.ref aj), .val (.int z), .val (.int i), .val (.int x)] [])
          refine hs.go (fun _ kk_ => XS.iinc X1.here hx rfl (hb hby d5_33) rfl (l' := #[.val (.ref a), .val (.int ct), .val (.ref aj), .val (.int z), .val (.int (i + (1 : Int32))), .val (.int x)]) rfl kk_) ?_
          show G T1 (mkF m 36 #[.val (.ref a), .val (.int ct), .val (.ref aj), .val (.int z), .val (.int (i + (1 : Int32))), .val (.int x)] [])
          refine hs.go (fun _ kk_ => XS.goto X1.here hx rfl (pc0 := 36) (pc' := 13) rfl (hb hby d5_36) (by decide) (by decide) kk_) ?_
          show G T1 (mkF m 13 #[.val (.ref a), .val (.int ct), .val (.ref aj), .val (.int z), .val (.int (i + (1 : Int32))), .val (.int x)] [])
          refine ih (pre ++ [x]) _ _ _ (by rw [hu]; simp) ?_ (by rw [← hr, cpos, if_neg c27]) (Or.inr ⟨_, rfl⟩)
          have q := c_iadd i 1
          have r := rng32 (i + 1)
          have k1 : (1 : Int32).toInt = 1 := rfl
          simp only [List.length_append, List.length_cons, List.length_nil]
          omega
      · show G T1 (mkF m 13 #[.val (.ref a), .val (.int ct), .val (.ref aj), .val (.int z), .val (.int i), .val (.int w5)] [])
        refine hs.go (fun _ kk_ => XS.iload X1.here hx rfl (hb hby d5_13) rfl  kk_) ?_
        show G T1 (mkF m 15 #[.val (.ref a), .val (.int ct), .val (.ref aj), .val (.int z), .val (.int i), .val (.int w5)] [(.int i)])
        refine hs.go (fun _ kk_ => XS.iloadN X1.here hx rfl (hb hby d5_15) rfl  kk_) ?_
        show G T1 (mkF m 16 #[.val (.ref a), .val (.int ct), .val (.ref aj), .val (.int z), .val (.int i), .val (.int w5)] [(.int z), (.int i)])
        refine hs.go (fun _ kk_ => XS.icmpNo X1.here hx rfl (hb hby d5_16) rfl (tlt ((by rw [lt32]; omega) : i < z)).2.1 kk_) ?_
        show G T1 (mkF m 19 #[.val (.ref a), .val (.int ct), .val (.ref aj), .val (.int z), .val (.int i), .val (.int w5)] [])
        refine hs.go (fun _ kk_ => XS.aloadN X1.here hx rfl (hb hby d5_19) rfl rfl kk_) ?_
        show G T1 (mkF m 20 #[.val (.ref a), .val (.int ct), .val (.ref aj), .val (.int z), .val (.int i), .val (.int w5)] [(.ref aj)])
        refine hs.go (fun _ kk_ => XS.iload X1.here hx rfl (hb hby d5_20) rfl  kk_) ?_
        show G T1 (mkF m 22 #[.val (.ref a), .val (.int ct), .val (.ref aj), .val (.int z), .val (.int i), .val (.int w5)] [(.int i), (.ref aj)])
        refine rLdI hs X1 hx hZ V_aj ⟨by rw [lt32]; have k0 : (0 : Int32).toInt = 0 := rfl; omega, by rw [lt32]; omega⟩ (v := (.int x)) (own_at us pre rest x i hu hi) rfl rfl (hb hby d5_22) ?_
        show G T1 (mkF m 23 #[.val (.ref a), .val (.int ct), .val (.ref aj), .val (.int z), .val (.int i), .val (.int w5)] [(.int x)])
        refine hs.go (fun _ kk_ => XS.istore X1.here hx rfl (hb hby d5_23) rfl (l' := #[.val (.ref a), .val (.int ct), .val (.ref aj), .val (.int z), .val (.int i), .val (.int x)]) rfl kk_) ?_
        show G T1 (mkF m 25 #[.val (.ref a), .val (.int ct), .val (.ref aj), .val (.int z), .val (.int i), .val (.int x)] [])
        refine hs.go (fun _ kk_ => XS.iload X1.here hx rfl (hb hby d5_25) rfl  kk_) ?_
        show G T1 (mkF m 27 #[.val (.ref a), .val (.int ct), .val (.ref aj), .val (.int z), .val (.int i), .val (.int x)] [(.int x)])
        by_cases c27 : (0 : Int32) < x
        · refine hs.go (fun _ kk_ => XS.ifNo X1.here hx rfl (hb hby d5_27) rfl ((if0 _ _).trans (tlt c27).2.2.2) kk_) ?_
          show G T1 (mkF m 30 #[.val (.ref a), .val (.int ct), .val (.ref aj), .val (.int z), .val (.int i), .val (.int x)] [])
          refine hs.go (fun _ kk_ => XS.iinc X1.here hx rfl (hb hby d5_30) rfl (l' := #[.val (.ref a), .val (.int (ct + (1 : Int32))), .val (.ref aj), .val (.int z), .val (.int i), .val (.int x)]) rfl kk_) ?_
          show G T1 (mkF m 33 #[.val (.ref a), .val (.int (ct + (1 : Int32))), .val (.ref aj), .val (.int z), .val (.int i), .val (.int x)] [])
          refine hs.go (fun _ kk_ => XS.iinc X1.here hx rfl (hb hby d5_33) rfl (l' := #[.val (.ref a), .val (.int (ct + (1 : Int32))), .val (.ref aj), .val (.int z), .val (.int (i + (1 : Int32))), .val (.int x)]) rfl kk_) ?_
          show G T1 (mkF m 36 #[.val (.ref a), .val (.int (ct + (1 : Int32))), .val (.ref aj), .val (.int z), .val (.int (i + (1 : Int32))), .val (.int x)] [])
          refine hs.go (fun _ kk_ => XS.goto X1.here hx rfl (pc0 := 36) (pc' := 13) rfl (hb hby d5_36) (by decide) (by decide) kk_) ?_
          show G T1 (mkF m 13 #[.val (.ref a), .val (.int (ct + (1 : Int32))), .val (.ref aj), .val (.int z), .val (.int (i + (1 : Int32))), .val (.int x)] [])
          refine ih (pre ++ [x]) _ _ _ (by rw [hu]; simp) ?_ (by rw [← hr, cpos, if_pos c27]) (Or.inr ⟨_, rfl⟩)
          have q := c_iadd i 1
          have r := rng32 (i + 1)
          have k1 : (1 : Int32).toInt = 1 := rfl
          simp only [List.length_append, List.length_cons, List.length_nil]
          omega
        · refine hs.go (fun _ kk_ => XS.ifYes X1.here hx rfl (pc0 := 27) (pc' := 33) rfl (hb hby d5_27) rfl ((if0 _ _).trans (flt c27).2.2.2) (by decide) (by decide) kk_) ?_
          show G T1 (mkF m 33 #[.val (.ref a), .val (.int ct), .val (.ref aj), .val (.int z), .val (.int i), .val (.int x)] [])
          refine hs.go (fun _ kk_ => XS.iinc X1.here hx rfl (hb hby d5_33) rfl (l' := #[.val (.ref a), .val (.int ct), .val (.ref aj), .val (.int z), .val (.int (i + (1 : Int32))), .val (.int x)]) rfl kk_) ?_
          show G T1 (mkF m 36 #[.val (.ref a), .val (.int ct), .val (.ref aj), .val (.int z), .val (.int (i + (1 : Int32))), .val (.int x)] [])
          refine hs.go (fun _ kk_ => XS.goto X1.here hx rfl (pc0 := 36) (pc' := 13) rfl (hb hby d5_36) (by decide) (by decide) kk_) ?_
          show G T1 (mkF m 13 #[.val (.ref a), .val (.int ct), .val (.ref aj), .val (.int z), .val (.int (i + (1 : Int32))), .val (.int x)] [])
          refine ih (pre ++ [x]) _ _ _ (by rw [hu]; simp) ?_ (by rw [← hr, cpos, if_neg c27]) (Or.inr ⟨_, rfl⟩)
          have q := c_iadd i 1
          have r := rng32 (i + 1)
          have k1 : (1 : Int32).toInt = 1 := rfl
          simp only [List.length_append, List.length_cons, List.length_nil]
          omega
  exact loop us [] 0 0 _ rfl rfl rfl (Or.inl rfl)
theorem pd_1 : parseMethodDescriptor "([I[I)V" = some ⟨[(.array .int), (.array .int)], none⟩ := by decide +kernel
theorem pd_2 : parseMethodDescriptor "(ZI)I" = some ⟨[.boolean, .int], some .int⟩ := by decide +kernel
theorem pd_3 : parseMethodDescriptor "()I" = some ⟨[], some .int⟩ := by decide +kernel
theorem pn_0 : plainFor x = true := plainFor_of_name (show plainName "com/example/ranked_odds/rankedodds/eval/JudgedRankingRelevantCountPinLaw" = true by first | (simp [plainName, overriddenIn]; done) | decide +kernel)
theorem ef_0 (m : MethodId) (x0 : Int32) (x1 : Int32) (x2 : Int32) (x3 : Int32) (x4 : Int32) (x5 : Int32) : entryFrame m #[(.int x0), (.int x1), (.int x2), (.int x3), (.int x4), (.int x5)] maxLocals = mkF m 0 #[.val (.int x0), .val (.int x1), .val (.int x2), .val (.int x3), .val (.int x4), .val (.int x5), .unset, .unset, .unset, .unset, .unset] [] := by first | (simp [entryFrame, mkF, argsToLocals, Value.category, maxLocals]; done) | rfl
set_option maxRecDepth 65536 in
set_option maxHeartbeats 40000000 in
theorem rm0 (l : Launch) (Z : State) (a0 : Array Value) (hw : ∀ d ∈ tables_1, d.before a0 Z = true) (ws : List Jvm.Cond) (a b cc dd nn r : Int32) (h0 : Heap) (n0 : Nat) (Z0 : n0 ≤ h0.size)  :
    Con l Z x code maxLocals ret ws room_1 #[(.int a), (.int b), (.int cc), (.int dd), (.int nn), (.int r)] h0 n0 (fun v h => v = some (.int 1)) := by
  refine Con.of pn_0 ?_
  intro G p e s m below meth c s₁ hs hx hby hml hown hnm hret hZ X0 fin
  have hml : c.maxLocals = 11 := hml
  have hown : s.vm.findClass "com/example/ranked_odds/rankedodds/eval/JudgedRankingRelevantCountPinLaw" = some m.cls := hown
  rw [ef_0]
  show G s₁ (mkF m 0 #[.val (.int a), .val (.int b), .val (.int cc), .val (.int dd), .val (.int nn), .val (.int r), .unset, .unset, .unset, .unset, .unset] [])
  refine hs.go (fun _ kk_ => XS.iload X0.here hx rfl (hb hby at_0) rfl  kk_) ?_
  show G s₁ (mkF m 2 #[.val (.int a), .val (.int b), .val (.int cc), .val (.int dd), .val (.int nn), .val (.int r), .unset, .unset, .unset, .unset, .unset] [(.int nn)])
  refine rLdcI hs X0 hx hZ hown (hw _ (List.mem_of_getElem? (i := 0) rfl)) rfl (hb hby at_2) ?_
  show G s₁ (mkF m 4 #[.val (.int a), .val (.int b), .val (.int cc), .val (.int dd), .val (.int nn), .val (.int r), .unset, .unset, .unset, .unset, .unset] [(.int (2147483647 : Int32)), (.int nn)])
  refine hs.go (fun _ kk_ => XS.iand X0.here hx rfl (hb hby at_4) rfl kk_) ?_
  show G s₁ (mkF m 5 #[.val (.int a), .val (.int b), .val (.int cc), .val (.int dd), .val (.int nn), .val (.int r), .unset, .unset, .unset, .unset, .unset] [(.int (nn &&& (2147483647 : Int32)))])
  refine hs.go (fun _ kk_ => XS.iconst X0.here hx rfl (hb hby at_5) kk_) ?_
  show G s₁ (mkF m 6 #[.val (.int a), .val (.int b), .val (.int cc), .val (.int dd), .val (.int nn), .val (.int r), .unset, .unset, .unset, .unset, .unset] [(.int (5 : Int32)), (.int (nn &&& (2147483647 : Int32)))])
  refine rIrem hs X0 hx rfl (hb hby at_6) rfl (by decide) ?_
  show G s₁ (mkF m 7 #[.val (.int a), .val (.int b), .val (.int cc), .val (.int dd), .val (.int nn), .val (.int r), .unset, .unset, .unset, .unset, .unset] [(.int ((nn &&& (2147483647 : Int32)) % (5 : Int32)))])
  refine nameIt (P := fun zz_ : Int32 => G s₁ (mkF m 7 #[.val (.int a), .val (.int b), .val (.int cc), .val (.int dd), .val (.int nn), .val (.int r), .unset, .unset, .unset, .unset, .unset] [(.int zz_)])) ((nn &&& (2147483647 : Int32)) % (5 : Int32)) (fun sz hsz => ?_)
  show G s₁ (mkF m 7 #[.val (.int a), .val (.int b), .val (.int cc), .val (.int dd), .val (.int nn), .val (.int r), .unset, .unset, .unset, .unset, .unset] [(.int sz)])
  refine hs.go (fun _ kk_ => XS.istore X0.here hx rfl (hb hby at_7) rfl (l' := #[.val (.int a), .val (.int b), .val (.int cc), .val (.int dd), .val (.int nn), .val (.int r), .val (.int sz), .unset, .unset, .unset, .unset]) rfl kk_) ?_
  show G s₁ (mkF m 9 #[.val (.int a), .val (.int b), .val (.int cc), .val (.int dd), .val (.int nn), .val (.int r), .val (.int sz), .unset, .unset, .unset, .unset] [])
  rcases own_sz hsz with rfl | rfl | rfl | rfl | rfl
  · show G s₁ (mkF m 9 #[.val (.int a), .val (.int b), .val (.int cc), .val (.int dd), .val (.int nn), .val (.int r), .val (.int (0 : Int32)), .unset, .unset, .unset, .unset] [])
    refine hs.go (fun _ kk_ => XS.iload X0.here hx rfl (hb hby at_9) rfl  kk_) ?_
    show G s₁ (mkF m 11 #[.val (.int a), .val (.int b), .val (.int cc), .val (.int dd), .val (.int nn), .val (.int r), .val (.int (0 : Int32)), .unset, .unset, .unset, .unset] [(.int (0 : Int32))])
    refine rNewP hs X0 hx hZ (hw _ (List.mem_of_getElem? (i := 1) rfl)) rfl (hb hby at_11) rfl (by decide) 0 0 (by decide) (by decide) (by decide) (by decide) (fun T1 h1 k1 jd g1 X1 E1 V_jd => ?_)
    have V_jd : Arv Z h1 jd k1 .int (0 : Int32) [] (.int (0 : Int32)) := V_jd
    have g_jd : n0 ≤ jd := by rw [g1]; exact Z0
    have Z0 := Nat.le_trans Z0 E1.1
    show G T1 (mkF m 13 #[.val (.int a), .val (.int b), .val (.int cc), .val (.int dd), .val (.int nn), .val (.int r), .val (.int (0 : Int32)), .unset, .unset, .unset, .unset] [(.ref jd)])
    refine hs.go (fun _ kk_ => XS.astore X1.here hx rfl (hb hby at_13) rfl rfl (l' := #[.val (.int a), .val (.int b), .val (.int cc), .val (.int dd), .val (.int nn), .val (.int r), .val (.int (0 : Int32)), .val (.ref jd), .unset, .unset, .unset]) rfl kk_) ?_
    show G T1 (mkF m 15 #[.val (.int a), .val (.int b), .val (.int cc), .val (.int dd), .val (.int nn), .val (.int r), .val (.int (0 : Int32)), .val (.ref jd), .unset, .unset, .unset] [])
    refine hs.go (fun _ kk_ => XS.iload X1.here hx rfl (hb hby at_15) rfl  kk_) ?_
    show G T1 (mkF m 17 #[.val (.int a), .val (.int b), .val (.int cc), .val (.int dd), .val (.int nn), .val (.int r), .val (.int (0 : Int32)), .val (.ref jd), .unset, .unset, .unset] [(.int (0 : Int32))])
    refine hs.go (fun _ kk_ => XS.ifYes X1.here hx rfl (pc0 := 17) (pc' := 25) rfl (hb hby at_17) rfl ((if0 _ _).trans (flt ((by decide) : ¬ ((0 : Int32) < (0 : Int32)))).2.2.2) (by decide) (by decide) kk_) ?_
    show G T1 (mkF m 25 #[.val (.int a), .val (.int b), .val (.int cc), .val (.int dd), .val (.int nn), .val (.int r), .val (.int (0 : Int32)), .val (.ref jd), .unset, .unset, .unset] [])
    refine hs.go (fun _ kk_ => XS.iload X1.here hx rfl (hb hby at_25) rfl  kk_) ?_
    show G T1 (mkF m 27 #[.val (.int a), .val (.int b), .val (.int cc), .val (.int dd), .val (.int nn), .val (.int r), .val (.int (0 : Int32)), .val (.ref jd), .unset, .unset, .unset] [(.int (0 : Int32))])
    refine hs.go (fun _ kk_ => XS.iconst X1.here hx rfl (hb hby at_27) kk_) ?_
    show G T1 (mkF m 28 #[.val (.int a), .val (.int b), .val (.int cc), .val (.int dd), .val (.int nn), .val (.int r), .val (.int (0 : Int32)), .val (.ref jd), .unset, .unset, .unset] [(.int (1 : Int32)), (.int (0 : Int32))])
    refine hs.go (fun _ kk_ => XS.icmpYes X1.here hx rfl (pc0 := 28) (pc' := 36) rfl (hb hby at_28) rfl (flt ((by decide) : ¬ ((1 : Int32) < (0 : Int32)))).2.2.2 (by decide) (by decide) kk_) ?_
    show G T1 (mkF m 36 #[.val (.int a), .val (.int b), .val (.int cc), .val (.int dd), .val (.int nn), .val (.int r), .val (.int (0 : Int32)), .val (.ref jd), .unset, .unset, .unset] [])
    refine hs.go (fun _ kk_ => XS.iload X1.here hx rfl (hb hby at_36) rfl  kk_) ?_
    show G T1 (mkF m 38 #[.val (.int a), .val (.int b), .val (.int cc), .val (.int dd), .val (.int nn), .val (.int r), .val (.int (0 : Int32)), .val (.ref jd), .unset, .unset, .unset] [(.int (0 : Int32))])
    refine hs.go (fun _ kk_ => XS.iconst X1.here hx rfl (hb hby at_38) kk_) ?_
    show G T1 (mkF m 39 #[.val (.int a), .val (.int b), .val (.int cc), .val (.int dd), .val (.int nn), .val (.int r), .val (.int (0 : Int32)), .val (.ref jd), .unset, .unset, .unset] [(.int (2 : Int32)), (.int (0 : Int32))])
    refine hs.go (fun _ kk_ => XS.icmpYes X1.here hx rfl (pc0 := 39) (pc' := 47) rfl (hb hby at_39) rfl (flt ((by decide) : ¬ ((2 : Int32) < (0 : Int32)))).2.2.2 (by decide) (by decide) kk_) ?_
    show G T1 (mkF m 47 #[.val (.int a), .val (.int b), .val (.int cc), .val (.int dd), .val (.int nn), .val (.int r), .val (.int (0 : Int32)), .val (.ref jd), .unset, .unset, .unset] [])
    refine hs.go (fun _ kk_ => XS.iload X1.here hx rfl (hb hby at_47) rfl  kk_) ?_
    show G T1 (mkF m 49 #[.val (.int a), .val (.int b), .val (.int cc), .val (.int dd), .val (.int nn), .val (.int r), .val (.int (0 : Int32)), .val (.ref jd), .unset, .unset, .unset] [(.int (0 : Int32))])
    refine hs.go (fun _ kk_ => XS.iconst X1.here hx rfl (hb hby at_49) kk_) ?_
    show G T1 (mkF m 50 #[.val (.int a), .val (.int b), .val (.int cc), .val (.int dd), .val (.int nn), .val (.int r), .val (.int (0 : Int32)), .val (.ref jd), .unset, .unset, .unset] [(.int (3 : Int32)), (.int (0 : Int32))])
    refine hs.go (fun _ kk_ => XS.icmpYes X1.here hx rfl (pc0 := 50) (pc' := 58) rfl (hb hby at_50) rfl (flt ((by decide) : ¬ ((3 : Int32) < (0 : Int32)))).2.2.2 (by decide) (by decide) kk_) ?_
    show G T1 (mkF m 58 #[.val (.int a), .val (.int b), .val (.int cc), .val (.int dd), .val (.int nn), .val (.int r), .val (.int (0 : Int32)), .val (.ref jd), .unset, .unset, .unset] [])
    refine hs.go (fun _ kk_ => XS.iconst X1.here hx rfl (hb hby at_58) kk_) ?_
    show G T1 (mkF m 59 #[.val (.int a), .val (.int b), .val (.int cc), .val (.int dd), .val (.int nn), .val (.int r), .val (.int (0 : Int32)), .val (.ref jd), .unset, .unset, .unset] [(.int (2 : Int32))])
    refine rNewP hs X1 hx hZ (hw _ (List.mem_of_getElem? (i := 1) rfl)) rfl (hb hby at_59) rfl (by decide) 2 2 (by decide) (by decide) (by decide) (by decide) (fun T2 h2 k2 rv g2 X2 E2 V_rv => ?_)
    have V_rv : Arv Z h2 rv k2 .int (2 : Int32) [(.int (0 : Int32)), (.int (0 : Int32))] (.int (0 : Int32)) := V_rv
    have g_rv : n0 ≤ rv := by rw [g2]; exact Z0
    have Z0 := Nat.le_trans Z0 E2.1
    have ne_jd_rv : jd ≠ rv := Nat.ne_of_lt (Nat.lt_of_lt_of_le V_jd.lt (Nat.le_of_eq g2.symm))
    have V_jd := V_jd.ext E2
    show G T2 (mkF m 61 #[.val (.int a), .val (.int b), .val (.int cc), .val (.int dd), .val (.int nn), .val (.int r), .val (.int (0 : Int32)), .val (.ref jd), .unset, .unset, .unset] [(.ref rv)])
    refine hs.go (fun _ kk_ => XS.astore X2.here hx rfl (hb hby at_61) rfl rfl (l' := #[.val (.int a), .val (.int b), .val (.int cc), .val (.int dd), .val (.int nn), .val (.int r), .val (.int (0 : Int32)), .val (.ref jd), .val (.ref rv), .unset, .unset]) rfl kk_) ?_
    show G T2 (mkF m 63 #[.val (.int a), .val (.int b), .val (.int cc), .val (.int dd), .val (.int nn), .val (.int r), .val (.int (0 : Int32)), .val (.ref jd), .val (.ref rv), .unset, .unset] [])
    refine hs.go (fun _ kk_ => XS.aload X2.here hx rfl (hb hby at_63) rfl rfl kk_) ?_
    show G T2 (mkF m 65 #[.val (.int a), .val (.int b), .val (.int cc), .val (.int dd), .val (.int nn), .val (.int r), .val (.int (0 : Int32)), .val (.ref jd), .val (.ref rv), .unset, .unset] [(.ref rv)])
    refine hs.go (fun _ kk_ => XS.iconst X2.here hx rfl (hb hby at_65) kk_) ?_
    show G T2 (mkF m 66 #[.val (.int a), .val (.int b), .val (.int cc), .val (.int dd), .val (.int nn), .val (.int r), .val (.int (0 : Int32)), .val (.ref jd), .val (.ref rv), .unset, .unset] [(.int (0 : Int32)), (.ref rv)])
    refine hs.go (fun _ kk_ => XS.iload X2.here hx rfl (hb hby at_66) rfl  kk_) ?_
    show G T2 (mkF m 68 #[.val (.int a), .val (.int b), .val (.int cc), .val (.int dd), .val (.int nn), .val (.int r), .val (.int (0 : Int32)), .val (.ref jd), .val (.ref rv), .unset, .unset] [(.int r), (.int (0 : Int32)), (.ref rv)])
    refine rStI hs X2 hx hZ V_rv g_rv ⟨by decide, by decide⟩ 0 (by decide) (by simp) rfl rfl (hb hby at_68) (fun T3 h3 X3 W3 V_rv => ?_)
    have V_rv : Arv Z h3 rv k2 .int (2 : Int32) [(.int r), (.int (0 : Int32))] (.int (0 : Int32)) := V_rv
    have V_jd := V_jd.other W3 ne_jd_rv
    have Z0 := Nat.le_trans Z0 (Keep.of_wr W3).1
    show G T3 (mkF m 69 #[.val (.int a), .val (.int b), .val (.int cc), .val (.int dd), .val (.int nn), .val (.int r), .val (.int (0 : Int32)), .val (.ref jd), .val (.ref rv), .unset, .unset] [])
    refine hs.go (fun _ kk_ => XS.aload X3.here hx rfl (hb hby at_69) rfl rfl kk_) ?_
    show G T3 (mkF m 71 #[.val (.int a), .val (.int b), .val (.int cc), .val (.int dd), .val (.int nn), .val (.int r), .val (.int (0 : Int32)), .val (.ref jd), .val (.ref rv), .unset, .unset] [(.ref rv)])
    refine hs.go (fun _ kk_ => XS.iconst X3.here hx rfl (hb hby at_71) kk_) ?_
    show G T3 (mkF m 72 #[.val (.int a), .val (.int b), .val (.int cc), .val (.int dd), .val (.int nn), .val (.int r), .val (.int (0 : Int32)), .val (.ref jd), .val (.ref rv), .unset, .unset] [(.int (1 : Int32)), (.ref rv)])
    refine hs.go (fun _ kk_ => XS.iloadN X3.here hx rfl (hb hby at_72) rfl  kk_) ?_
    show G T3 (mkF m 73 #[.val (.int a), .val (.int b), .val (.int cc), .val (.int dd), .val (.int nn), .val (.int r), .val (.int (0 : Int32)), .val (.ref jd), .val (.ref rv), .unset, .unset] [(.int a), (.int (1 : Int32)), (.ref rv)])
    refine rStI hs X3 hx hZ V_rv g_rv ⟨by decide, by decide⟩ 1 (by decide) (by simp) rfl rfl (hb hby at_73) (fun T4 h4 X4 W4 V_rv => ?_)
    have V_rv : Arv Z h4 rv k2 .int (2 : Int32) [(.int r), (.int a)] (.int (0 : Int32)) := V_rv
    have V_jd := V_jd.other W4 ne_jd_rv
    have Z0 := Nat.le_trans Z0 (Keep.of_wr W4).1
    show G T4 (mkF m 74 #[.val (.int a), .val (.int b), .val (.int cc), .val (.int dd), .val (.int nn), .val (.int r), .val (.int (0 : Int32)), .val (.ref jd), .val (.ref rv), .unset, .unset] [])
    as_aux_lemma =>
      refine rNewO hs X4 hx hZ hown (hw _ (List.mem_of_getElem? (i := 2) rfl)) (hw _ (List.mem_of_getElem? (i := 3) rfl)) (hw _ (List.mem_of_getElem? (i := 4) rfl)) rfl (hb hby at_74) (by decide) (by decide) (fun T5 h5 ob g5 X5 E5 E_ob D5 => ?_)
      have g_ob : n0 ≤ ob := by rw [g5]; exact Z0
      have Z0 := Nat.le_trans Z0 E5.1
      have ne_jd_ob : jd ≠ ob := Nat.ne_of_lt (Nat.lt_of_lt_of_le V_jd.lt (Nat.le_of_eq g5.symm))
      have ne_rv_ob : rv ≠ ob := Nat.ne_of_lt (Nat.lt_of_lt_of_le V_rv.lt (Nat.le_of_eq g5.symm))
      have V_jd := V_jd.ext E5
      have V_rv := V_rv.ext E5
      have F_relevance_ob : Fld Z h5 ob "com/example/ranked_odds/rankedodds/eval/JudgedRanking" "relevance" "[I" .null := D5 (Or.inr (hw _ (List.mem_of_getElem? (i := 17) rfl))) (ty := (.array .int)) (by decide)
      have F_judged_ob : Fld Z h5 ob "com/example/ranked_odds/rankedodds/eval/JudgedRanking" "judged" "[I" .null := D5 (Or.inr (hw _ (List.mem_of_getElem? (i := 19) rfl))) (ty := (.array .int)) (by decide)
      show G T5 (mkF m 77 #[.val (.int a), .val (.int b), .val (.int cc), .val (.int dd), .val (.int nn), .val (.int r), .val (.int (0 : Int32)), .val (.ref jd), .val (.ref rv), .unset, .unset] [(.ref ob)])
      refine hs.go (fun _ kk_ => XS.dup X5.here hx rfl (hb hby at_77) rfl rfl kk_) ?_
      show G T5 (mkF m 78 #[.val (.int a), .val (.int b), .val (.int cc), .val (.int dd), .val (.int nn), .val (.int r), .val (.int (0 : Int32)), .val (.ref jd), .val (.ref rv), .unset, .unset] [(.ref ob), (.ref ob)])
      refine hs.go (fun _ kk_ => XS.aload X5.here hx rfl (hb hby at_78) rfl rfl kk_) ?_
      show G T5 (mkF m 80 #[.val (.int a), .val (.int b), .val (.int cc), .val (.int dd), .val (.int nn), .val (.int r), .val (.int (0 : Int32)), .val (.ref jd), .val (.ref rv), .unset, .unset] [(.ref rv), (.ref ob), (.ref ob)])
      refine hs.go (fun _ kk_ => XS.aload X5.here hx rfl (hb hby at_80) rfl rfl kk_) ?_
      show G T5 (mkF m 82 #[.val (.int a), .val (.int b), .val (.int cc), .val (.int dd), .val (.int nn), .val (.int r), .val (.int (0 : Int32)), .val (.ref jd), .val (.ref rv), .unset, .unset] [(.ref jd), (.ref rv), (.ref ob), (.ref ob)])
      refine rCallI hs X5 hx hZ (as' := [(.ref rv), (.ref jd)]) (rm1 l Z a0 hw [] ob rv jd h5 n0 Z0 E_ob g_ob F_relevance_ob F_judged_ob) rfl hown (hw _ (List.mem_of_getElem? (i := 5) rfl)) (hw _ (List.mem_of_getElem? (i := 6) rfl)) (hw _ (List.mem_of_getElem? (i := 4) rfl)) (hw _ (List.mem_of_getElem? (i := 7) rfl)) hy_1 rfl (by rw [hml]; rfl) [(.ref ob)] (lenOf pd_1 rfl) rfl 1 (by show 2 * 0 + _ ≤ _; exact Nat.le_of_eq rfl) (hb hby at_82) (by decide) (by decide) (by decide) (by decide) (fun r6 T6 h6 X6 q6 => ?_)
      obtain ⟨rfl, Kc6, E_ob, F_judged_ob⟩ := q6
      have Z0 := Nat.le_trans Z0 Kc6.1
      have V_jd := V_jd.keep Kc6 (ninS ne_jd_ob nin0)
      have V_rv := V_rv.keep Kc6 (ninS ne_rv_ob nin0)
      show G T6 (mkF m 85 #[.val (.int a), .val (.int b), .val (.int cc), .val (.int dd), .val (.int nn), .val (.int r), .val (.int (0 : Int32)), .val (.ref jd), .val (.ref rv), .unset, .unset] [(.ref ob)])
      refine hs.go (fun _ kk_ => XS.astore X6.here hx rfl (hb hby at_85) rfl rfl (l' := #[.val (.int a), .val (.int b), .val (.int cc), .val (.int dd), .val (.int nn), .val (.int r), .val (.int (0 : Int32)), .val (.ref jd), .val (.ref rv), .val (.ref ob), .unset]) rfl kk_) ?_
      show G T6 (mkF m 87 #[.val (.int a), .val (.int b), .val (.int cc), .val (.int dd), .val (.int nn), .val (.int r), .val (.int (0 : Int32)), .val (.ref jd), .val (.ref rv), .val (.ref ob), .unset] [])
      refine hs.go (fun _ kk_ => XS.iload X6.here hx rfl (hb hby at_87) rfl  kk_) ?_
      show G T6 (mkF m 89 #[.val (.int a), .val (.int b), .val (.int cc), .val (.int dd), .val (.int nn), .val (.int r), .val (.int (0 : Int32)), .val (.ref jd), .val (.ref rv), .val (.ref ob), .unset] [(.int (0 : Int32))])
      refine hs.go (fun _ kk_ => XS.ifYes X6.here hx rfl (pc0 := 89) (pc' := 96) rfl (hb hby at_89) rfl ((if0 _ _).trans (flt ((by decide) : ¬ ((0 : Int32) < (0 : Int32)))).2.2.2) (by decide) (by decide) kk_) ?_
      show G T6 (mkF m 96 #[.val (.int a), .val (.int b), .val (.int cc), .val (.int dd), .val (.int nn), .val (.int r), .val (.int (0 : Int32)), .val (.ref jd), .val (.ref rv), .val (.ref ob), .unset] [])
      refine hs.go (fun _ kk_ => XS.iconst X6.here hx rfl (hb hby at_96) kk_) ?_
      show G T6 (mkF m 97 #[.val (.int a), .val (.int b), .val (.int cc), .val (.int dd), .val (.int nn), .val (.int r), .val (.int (0 : Int32)), .val (.ref jd), .val (.ref rv), .val (.ref ob), .unset] [(.int (0 : Int32))])
      refine hs.go (fun _ kk_ => XS.iloadN X6.here hx rfl (hb hby at_97) rfl  kk_) ?_
      show G T6 (mkF m 98 #[.val (.int a), .val (.int b), .val (.int cc), .val (.int dd), .val (.int nn), .val (.int r), .val (.int (0 : Int32)), .val (.ref jd), .val (.ref rv), .val (.ref ob), .unset] [(.int a), (.int (0 : Int32))])
      refine rCallS hs X6 hx hZ (as' := [(.int (0 : Int32)), (.int a)]) (rm4 l Z a0 hw [] (0 : Int32) a h6 n0 Z0) hown (hw _ (List.mem_of_getElem? (i := 20) rfl)) (hw _ (List.mem_of_getElem? (i := 21) rfl)) (hw _ (List.mem_of_getElem? (i := 22) rfl)) (hw _ (List.mem_of_getElem? (i := 23) rfl)) hy_4 rfl (by rw [hml]; rfl) [] (lenOf pd_2 rfl) rfl 0 (by show 2 * 0 + _ ≤ _; exact Nat.le_of_eq rfl) (hb hby at_98) (by decide) (by decide) (by decide) (by decide) (fun r7 T7 h7 X7 q7 => ?_)
      obtain ⟨rfl, qh7⟩ := q7
      rw [qh7] at X7
      show G T7 (mkF m 101 #[.val (.int a), .val (.int b), .val (.int cc), .val (.int dd), .val (.int nn), .val (.int r), .val (.int (0 : Int32)), .val (.ref jd), .val (.ref rv), .val (.ref ob), .unset] [(.int (f4 (0 : Int32) a))])
      refine hs.go (fun _ kk_ => XS.iload X7.here hx rfl (hb hby at_101) rfl  kk_) ?_
      show G T7 (mkF m 103 #[.val (.int a), .val (.int b), .val (.int cc), .val (.int dd), .val (.int nn), .val (.int r), .val (.int (0 : Int32)), .val (.ref jd), .val (.ref rv), .val (.ref ob), .unset] [(.int (0 : Int32)), (.int (f4 (0 : Int32) a))])
      refine hs.go (fun _ kk_ => XS.iconst X7.here hx rfl (hb hby at_103) kk_) ?_
      show G T7 (mkF m 104 #[.val (.int a), .val (.int b), .val (.int cc), .val (.int dd), .val (.int nn), .val (.int r), .val (.int (0 : Int32)), .val (.ref jd), .val (.ref rv), .val (.ref ob), .unset] [(.int (1 : Int32)), (.int (0 : Int32)), (.int (f4 (0 : Int32) a))])
      refine hs.go (fun _ kk_ => XS.icmpYes X7.here hx rfl (pc0 := 104) (pc' := 111) rfl (hb hby at_104) rfl (flt ((by decide) : ¬ ((1 : Int32) < (0 : Int32)))).2.2.2 (by decide) (by decide) kk_) ?_
      show G T7 (mkF m 111 #[.val (.int a), .val (.int b), .val (.int cc), .val (.int dd), .val (.int nn), .val (.int r), .val (.int (0 : Int32)), .val (.ref jd), .val (.ref rv), .val (.ref ob), .unset] [(.int (f4 (0 : Int32) a))])
      refine hs.go (fun _ kk_ => XS.iconst X7.here hx rfl (hb hby at_111) kk_) ?_
      show G T7 (mkF m 112 #[.val (.int a), .val (.int b), .val (.int cc), .val (.int dd), .val (.int nn), .val (.int r), .val (.int (0 : Int32)), .val (.ref jd), .val (.ref rv), .val (.ref ob), .unset] [(.int (0 : Int32)), (.int (f4 (0 : Int32) a))])
      refine hs.go (fun _ kk_ => XS.iloadN X7.here hx rfl (hb hby at_112) rfl  kk_) ?_
      show G T7 (mkF m 113 #[.val (.int a), .val (.int b), .val (.int cc), .val (.int dd), .val (.int nn), .val (.int r), .val (.int (0 : Int32)), .val (.ref jd), .val (.ref rv), .val (.ref ob), .unset] [(.int b), (.int (0 : Int32)), (.int (f4 (0 : Int32) a))])
      refine rCallS hs X7 hx hZ (as' := [(.int (0 : Int32)), (.int b)]) (rm4 l Z a0 hw [] (0 : Int32) b h6 n0 Z0) hown (hw _ (List.mem_of_getElem? (i := 20) rfl)) (hw _ (List.mem_of_getElem? (i := 21) rfl)) (hw _ (List.mem_of_getElem? (i := 22) rfl)) (hw _ (List.mem_of_getElem? (i := 23) rfl)) hy_4 rfl (by rw [hml]; rfl) [(.int (f4 (0 : Int32) a))] (lenOf pd_2 rfl) rfl 1 (by show 2 * 0 + _ ≤ _; exact Nat.le_of_eq rfl) (hb hby at_113) (by decide) (by decide) (by decide) (by decide) (fun r8 T8 h8 X8 q8 => ?_)
      obtain ⟨rfl, qh8⟩ := q8
      rw [qh8] at X8
      show G T8 (mkF m 116 #[.val (.int a), .val (.int b), .val (.int cc), .val (.int dd), .val (.int nn), .val (.int r), .val (.int (0 : Int32)), .val (.ref jd), .val (.ref rv), .val (.ref ob), .unset] [(.int (f4 (0 : Int32) b)), (.int (f4 (0 : Int32) a))])
      refine hs.go (fun _ kk_ => XS.iadd X8.here hx rfl (hb hby at_116) rfl kk_) ?_
      show G T8 (mkF m 117 #[.val (.int a), .val (.int b), .val (.int cc), .val (.int dd), .val (.int nn), .val (.int r), .val (.int (0 : Int32)), .val (.ref jd), .val (.ref rv), .val (.ref ob), .unset] [(.int ((f4 (0 : Int32) a) + (f4 (0 : Int32) b)))])
      refine hs.go (fun _ kk_ => XS.iload X8.here hx rfl (hb hby at_117) rfl  kk_) ?_
      show G T8 (mkF m 119 #[.val (.int a), .val (.int b), .val (.int cc), .val (.int dd), .val (.int nn), .val (.int r), .val (.int (0 : Int32)), .val (.ref jd), .val (.ref rv), .val (.ref ob), .unset] [(.int (0 : Int32)), (.int ((f4 (0 : Int32) a) + (f4 (0 : Int32) b)))])
      refine hs.go (fun _ kk_ => XS.iconst X8.here hx rfl (hb hby at_119) kk_) ?_
      show G T8 (mkF m 120 #[.val (.int a), .val (.int b), .val (.int cc), .val (.int dd), .val (.int nn), .val (.int r), .val (.int (0 : Int32)), .val (.ref jd), .val (.ref rv), .val (.ref ob), .unset] [(.int (2 : Int32)), (.int (0 : Int32)), (.int ((f4 (0 : Int32) a) + (f4 (0 : Int32) b)))])
      refine hs.go (fun _ kk_ => XS.icmpYes X8.here hx rfl (pc0 := 120) (pc' := 127) rfl (hb hby at_120) rfl (flt ((by decide) : ¬ ((2 : Int32) < (0 : Int32)))).2.2.2 (by decide) (by decide) kk_) ?_
      show G T8 (mkF m 127 #[.val (.int a), .val (.int b), .val (.int cc), .val (.int dd), .val (.int nn), .val (.int r), .val (.int (0 : Int32)), .val (.ref jd), .val (.ref rv), .val (.ref ob), .unset] [(.int ((f4 (0 : Int32) a) + (f4 (0 : Int32) b)))])
      refine hs.go (fun _ kk_ => XS.iconst X8.here hx rfl (hb hby at_127) kk_) ?_
      show G T8 (mkF m 128 #[.val (.int a), .val (.int b), .val (.int cc), .val (.int dd), .val (.int nn), .val (.int r), .val (.int (0 : Int32)), .val (.ref jd), .val (.ref rv), .val (.ref ob), .unset] [(.int (0 : Int32)), (.int ((f4 (0 : Int32) a) + (f4 (0 : Int32) b)))])
      refine hs.go (fun _ kk_ => XS.iloadN X8.here hx rfl (hb hby at_128) rfl  kk_) ?_
      show G T8 (mkF m 129 #[.val (.int a), .val (.int b), .val (.int cc), .val (.int dd), .val (.int nn), .val (.int r), .val (.int (0 : Int32)), .val (.ref jd), .val (.ref rv), .val (.ref ob), .unset] [(.int cc), (.int (0 : Int32)), (.int ((f4 (0 : Int32) a) + (f4 (0 : Int32) b)))])
      refine rCallS hs X8 hx hZ (as' := [(.int (0 : Int32)), (.int cc)]) (rm4 l Z a0 hw [] (0 : Int32) cc h6 n0 Z0) hown (hw _ (List.mem_of_getElem? (i := 20) rfl)) (hw _ (List.mem_of_getElem? (i := 21) rfl)) (hw _ (List.mem_of_getElem? (i := 22) rfl)) (hw _ (List.mem_of_getElem? (i := 23) rfl)) hy_4 rfl (by rw [hml]; rfl) [(.int ((f4 (0 : Int32) a) + (f4 (0 : Int32) b)))] (lenOf pd_2 rfl) rfl 1 (by show 2 * 0 + _ ≤ _; exact Nat.le_of_eq rfl) (hb hby at_129) (by decide) (by decide) (by decide) (by decide) (fun r9 T9 h9 X9 q9 => ?_)
      obtain ⟨rfl, qh9⟩ := q9
      rw [qh9] at X9
      show G T9 (mkF m 132 #[.val (.int a), .val (.int b), .val (.int cc), .val (.int dd), .val (.int nn), .val (.int r), .val (.int (0 : Int32)), .val (.ref jd), .val (.ref rv), .val (.ref ob), .unset] [(.int (f4 (0 : Int32) cc)), (.int ((f4 (0 : Int32) a) + (f4 (0 : Int32) b)))])
      refine hs.go (fun _ kk_ => XS.iadd X9.here hx rfl (hb hby at_132) rfl kk_) ?_
      show G T9 (mkF m 133 #[.val (.int a), .val (.int b), .val (.int cc), .val (.int dd), .val (.int nn), .val (.int r), .val (.int (0 : Int32)), .val (.ref jd), .val (.ref rv), .val (.ref ob), .unset] [(.int (((f4 (0 : Int32) a) + (f4 (0 : Int32) b)) + (f4 (0 : Int32) cc)))])
      refine hs.go (fun _ kk_ => XS.iload X9.here hx rfl (hb hby at_133) rfl  kk_) ?_
      show G T9 (mkF m 135 #[.val (.int a), .val (.int b), .val (.int cc), .val (.int dd), .val (.int nn), .val (.int r), .val (.int (0 : Int32)), .val (.ref jd), .val (.ref rv), .val (.ref ob), .unset] [(.int (0 : Int32)), (.int (((f4 (0 : Int32) a) + (f4 (0 : Int32) b)) + (f4 (0 : Int32) cc)))])
      refine hs.go (fun _ kk_ => XS.iconst X9.here hx rfl (hb hby at_135) kk_) ?_
      show G T9 (mkF m 136 #[.val (.int a), .val (.int b), .val (.int cc), .val (.int dd), .val (.int nn), .val (.int r), .val (.int (0 : Int32)), .val (.ref jd), .val (.ref rv), .val (.ref ob), .unset] [(.int (3 : Int32)), (.int (0 : Int32)), (.int (((f4 (0 : Int32) a) + (f4 (0 : Int32) b)) + (f4 (0 : Int32) cc)))])
      refine hs.go (fun _ kk_ => XS.icmpYes X9.here hx rfl (pc0 := 136) (pc' := 143) rfl (hb hby at_136) rfl (flt ((by decide) : ¬ ((3 : Int32) < (0 : Int32)))).2.2.2 (by decide) (by decide) kk_) ?_
      show G T9 (mkF m 143 #[.val (.int a), .val (.int b), .val (.int cc), .val (.int dd), .val (.int nn), .val (.int r), .val (.int (0 : Int32)), .val (.ref jd), .val (.ref rv), .val (.ref ob), .unset] [(.int (((f4 (0 : Int32) a) + (f4 (0 : Int32) b)) + (f4 (0 : Int32) cc)))])
      refine hs.go (fun _ kk_ => XS.iconst X9.here hx rfl (hb hby at_143) kk_) ?_
      show G T9 (mkF m 144 #[.val (.int a), .val (.int b), .val (.int cc), .val (.int dd), .val (.int nn), .val (.int r), .val (.int (0 : Int32)), .val (.ref jd), .val (.ref rv), .val (.ref ob), .unset] [(.int (0 : Int32)), (.int (((f4 (0 : Int32) a) + (f4 (0 : Int32) b)) + (f4 (0 : Int32) cc)))])
      refine hs.go (fun _ kk_ => XS.iloadN X9.here hx rfl (hb hby at_144) rfl  kk_) ?_
      show G T9 (mkF m 145 #[.val (.int a), .val (.int b), .val (.int cc), .val (.int dd), .val (.int nn), .val (.int r), .val (.int (0 : Int32)), .val (.ref jd), .val (.ref rv), .val (.ref ob), .unset] [(.int dd), (.int (0 : Int32)), (.int (((f4 (0 : Int32) a) + (f4 (0 : Int32) b)) + (f4 (0 : Int32) cc)))])
      refine rCallS hs X9 hx hZ (as' := [(.int (0 : Int32)), (.int dd)]) (rm4 l Z a0 hw [] (0 : Int32) dd h6 n0 Z0) hown (hw _ (List.mem_of_getElem? (i := 20) rfl)) (hw _ (List.mem_of_getElem? (i := 21) rfl)) (hw _ (List.mem_of_getElem? (i := 22) rfl)) (hw _ (List.mem_of_getElem? (i := 23) rfl)) hy_4 rfl (by rw [hml]; rfl) [(.int (((f4 (0 : Int32) a) + (f4 (0 : Int32) b)) + (f4 (0 : Int32) cc)))] (lenOf pd_2 rfl) rfl 1 (by show 2 * 0 + _ ≤ _; exact Nat.le_of_eq rfl) (hb hby at_145) (by decide) (by decide) (by decide) (by decide) (fun r10 T10 h10 X10 q10 => ?_)
      obtain ⟨rfl, qh10⟩ := q10
      rw [qh10] at X10
      show G T10 (mkF m 148 #[.val (.int a), .val (.int b), .val (.int cc), .val (.int dd), .val (.int nn), .val (.int r), .val (.int (0 : Int32)), .val (.ref jd), .val (.ref rv), .val (.ref ob), .unset] [(.int (f4 (0 : Int32) dd)), (.int (((f4 (0 : Int32) a) + (f4 (0 : Int32) b)) + (f4 (0 : Int32) cc)))])
      refine hs.go (fun _ kk_ => XS.iadd X10.here hx rfl (hb hby at_148) rfl kk_) ?_
      show G T10 (mkF m 149 #[.val (.int a), .val (.int b), .val (.int cc), .val (.int dd), .val (.int nn), .val (.int r), .val (.int (0 : Int32)), .val (.ref jd), .val (.ref rv), .val (.ref ob), .unset] [(.int ((((f4 (0 : Int32) a) + (f4 (0 : Int32) b)) + (f4 (0 : Int32) cc)) + (f4 (0 : Int32) dd)))])
      refine nameIt (P := fun zz_ : Int32 => G T10 (mkF m 149 #[.val (.int a), .val (.int b), .val (.int cc), .val (.int dd), .val (.int nn), .val (.int r), .val (.int (0 : Int32)), .val (.ref jd), .val (.ref rv), .val (.ref ob), .unset] [(.int zz_)])) ((((f4 (0 : Int32) a) + (f4 (0 : Int32) b)) + (f4 (0 : Int32) cc)) + (f4 (0 : Int32) dd)) (fun ex hex => ?_)
      show G T10 (mkF m 149 #[.val (.int a), .val (.int b), .val (.int cc), .val (.int dd), .val (.int nn), .val (.int r), .val (.int (0 : Int32)), .val (.ref jd), .val (.ref rv), .val (.ref ob), .unset] [(.int ex)])
      refine hs.go (fun _ kk_ => XS.istore X10.here hx rfl (hb hby at_149) rfl (l' := #[.val (.int a), .val (.int b), .val (.int cc), .val (.int dd), .val (.int nn), .val (.int r), .val (.int (0 : Int32)), .val (.ref jd), .val (.ref rv), .val (.ref ob), .val (.int ex)]) rfl kk_) ?_
      show G T10 (mkF m 151 #[.val (.int a), .val (.int b), .val (.int cc), .val (.int dd), .val (.int nn), .val (.int r), .val (.int (0 : Int32)), .val (.ref jd), .val (.ref rv), .val (.ref ob), .val (.int ex)] [])
      refine hs.go (fun _ kk_ => XS.aload X10.here hx rfl (hb hby at_151) rfl rfl kk_) ?_
      show G T10 (mkF m 153 #[.val (.int a), .val (.int b), .val (.int cc), .val (.int dd), .val (.int nn), .val (.int r), .val (.int (0 : Int32)), .val (.ref jd), .val (.ref rv), .val (.ref ob), .val (.int ex)] [(.ref ob)])
      refine rCallV hs X10 hx hZ (as' := []) (rm5 l Z a0 hw [] ob jd (0 : Int32) [] k1 h6 n0 Z0 F_judged_ob V_jd rfl) E_ob hown (hw _ (List.mem_of_getElem? (i := 24) rfl)) (hw _ (List.mem_of_getElem? (i := 25) rfl)) (hw _ (List.mem_of_getElem? (i := 27) rfl)) (hw _ (List.mem_of_getElem? (i := 26) rfl)) (hw _ (List.mem_of_getElem? (i := 4) rfl)) (hw _ (List.mem_of_getElem? (i := 28) rfl)) hy_5 rfl (by rw [hml]; rfl) [] (lenOf pd_3 rfl) rfl 0 (by show 2 * 0 + _ ≤ _; exact Nat.le_of_eq rfl) (hb hby at_153) (by decide) (by decide) (by decide) (by decide) (fun r11 T11 h11 X11 q11 => ?_)
      obtain ⟨rfl, qh11⟩ := q11
      rw [qh11] at X11
      show G T11 (mkF m 156 #[.val (.int a), .val (.int b), .val (.int cc), .val (.int dd), .val (.int nn), .val (.int r), .val (.int (0 : Int32)), .val (.ref jd), .val (.ref rv), .val (.ref ob), .val (.int ex)] [(.int (cpos [] 0))])
      refine hs.go (fun _ kk_ => XS.iload X11.here hx rfl (hb hby at_156) rfl  kk_) ?_
      show G T11 (mkF m 158 #[.val (.int a), .val (.int b), .val (.int cc), .val (.int dd), .val (.int nn), .val (.int r), .val (.int (0 : Int32)), .val (.ref jd), .val (.ref rv), .val (.ref ob), .val (.int ex)] [(.int ex), (.int (cpos [] 0))])
      refine hs.go (fun _ kk_ => XS.icmpNo X11.here hx rfl (hb hby at_158) rfl (teq (own_l0 a b cc dd hex : (cpos [] 0) = ex)).2 kk_) ?_
      show G T11 (mkF m 161 #[.val (.int a), .val (.int b), .val (.int cc), .val (.int dd), .val (.int nn), .val (.int r), .val (.int (0 : Int32)), .val (.ref jd), .val (.ref rv), .val (.ref ob), .val (.int ex)] [])
      refine hs.go (fun _ kk_ => XS.iconst X11.here hx rfl (hb hby at_161) kk_) ?_
      show G T11 (mkF m 162 #[.val (.int a), .val (.int b), .val (.int cc), .val (.int dd), .val (.int nn), .val (.int r), .val (.int (0 : Int32)), .val (.ref jd), .val (.ref rv), .val (.ref ob), .val (.int ex)] [(.int (1 : Int32))])
      refine hs.go (fun _ kk_ => XS.goto X11.here hx rfl (pc0 := 162) (pc' := 166) rfl (hb hby at_162) (by decide) (by decide) kk_) ?_
      show G T11 (mkF m 166 #[.val (.int a), .val (.int b), .val (.int cc), .val (.int dd), .val (.int nn), .val (.int r), .val (.int (0 : Int32)), .val (.ref jd), .val (.ref rv), .val (.ref ob), .val (.int ex)] [(.int (1 : Int32))])
      exact rRetN fin X11 hx (by decide) (by decide) hret (by simp) (hb hby at_166) (z' := (1 : Int32)) (by decide) rfl
  · show G s₁ (mkF m 9 #[.val (.int a), .val (.int b), .val (.int cc), .val (.int dd), .val (.int nn), .val (.int r), .val (.int (1 : Int32)), .unset, .unset, .unset, .unset] [])
    refine hs.go (fun _ kk_ => XS.iload X0.here hx rfl (hb hby at_9) rfl  kk_) ?_
    show G s₁ (mkF m 11 #[.val (.int a), .val (.int b), .val (.int cc), .val (.int dd), .val (.int nn), .val (.int r), .val (.int (1 : Int32)), .unset, .unset, .unset, .unset] [(.int (1 : Int32))])
    refine rNewP hs X0 hx hZ (hw _ (List.mem_of_getElem? (i := 1) rfl)) rfl (hb hby at_11) rfl (by decide) 1 1 (by decide) (by decide) (by decide) (by decide) (fun T12 h12 k12 jd g12 X12 E12 V_jd => ?_)
    have V_jd : Arv Z h12 jd k12 .int (1 : Int32) [(.int (0 : Int32))] (.int (0 : Int32)) := V_jd
    have g_jd : n0 ≤ jd := by rw [g12]; exact Z0
    have Z0 := Nat.le_trans Z0 E12.1
    show G T12 (mkF m 13 #[.val (.int a), .val (.int b), .val (.int cc), .val (.int dd), .val (.int nn), .val (.int r), .val (.int (1 : Int32)), .unset, .unset, .unset, .unset] [(.ref jd)])
    refine hs.go (fun _ kk_ => XS.astore X12.here hx rfl (hb hby at_13) rfl rfl (l' := #[.val (.int a), .val (.int b), .val (.int cc), .val (.int dd), .val (.int nn), .val (.int r), .val (.int (1 : Int32)), .val (.ref jd), .unset, .unset, .unset]) rfl kk_) ?_
    show G T12 (mkF m 15 #[.val (.int a), .val (.int b), .val (.int cc), .val (.int dd), .val (.int nn), .val (.int r), .val (.int (1 : Int32)), .val (.ref jd), .unset, .unset, .unset] [])
    refine hs.go (fun _ kk_ => XS.iload X12.here hx rfl (hb hby at_15) rfl  kk_) ?_
    show G T12 (mkF m 17 #[.val (.int a), .val (.int b), .val (.int cc), .val (.int dd), .val (.int nn), .val (.int r), .val (.int (1 : Int32)), .val (.ref jd), .unset, .unset, .unset] [(.int (1 : Int32))])
    refine hs.go (fun _ kk_ => XS.ifNo X12.here hx rfl (hb hby at_17) rfl ((if0 _ _).trans (tlt ((by decide) : (0 : Int32) < (1 : Int32))).2.2.2) kk_) ?_
    show G T12 (mkF m 20 #[.val (.int a), .val (.int b), .val (.int cc), .val (.int dd), .val (.int nn), .val (.int r), .val (.int (1 : Int32)), .val (.ref jd), .unset, .unset, .unset] [])
    refine hs.go (fun _ kk_ => XS.aload X12.here hx rfl (hb hby at_20) rfl rfl kk_) ?_
    show G T12 (mkF m 22 #[.val (.int a), .val (.int b), .val (.int cc), .val (.int dd), .val (.int nn), .val (.int r), .val (.int (1 : Int32)), .val (.ref jd), .unset, .unset, .unset] [(.ref jd)])
    refine hs.go (fun _ kk_ => XS.iconst X12.here hx rfl (hb hby at_22) kk_) ?_
    show G T12 (mkF m 23 #[.val (.int a), .val (.int b), .val (.int cc), .val (.int dd), .val (.int nn), .val (.int r), .val (.int (1 : Int32)), .val (.ref jd), .unset, .unset, .unset] [(.int (0 : Int32)), (.ref jd)])
    refine hs.go (fun _ kk_ => XS.iloadN X12.here hx rfl (hb hby at_23) rfl  kk_) ?_
    show G T12 (mkF m 24 #[.val (.int a), .val (.int b), .val (.int cc), .val (.int dd), .val (.int nn), .val (.int r), .val (.int (1 : Int32)), .val (.ref jd), .unset, .unset, .unset] [(.int a), (.int (0 : Int32)), (.ref jd)])
    refine rStI hs X12 hx hZ V_jd g_jd ⟨by decide, by decide⟩ 0 (by decide) (by simp) rfl rfl (hb hby at_24) (fun T13 h13 X13 W13 V_jd => ?_)
    have V_jd : Arv Z h13 jd k12 .int (1 : Int32) [(.int a)] (.int (0 : Int32)) := V_jd
    have Z0 := Nat.le_trans Z0 (Keep.of_wr W13).1
    show G T13 (mkF m 25 #[.val (.int a), .val (.int b), .val (.int cc), .val (.int dd), .val (.int nn), .val (.int r), .val (.int (1 : Int32)), .val (.ref jd), .unset, .unset, .unset] [])
    refine hs.go (fun _ kk_ => XS.iload X13.here hx rfl (hb hby at_25) rfl  kk_) ?_
    show G T13 (mkF m 27 #[.val (.int a), .val (.int b), .val (.int cc), .val (.int dd), .val (.int nn), .val (.int r), .val (.int (1 : Int32)), .val (.ref jd), .unset, .unset, .unset] [(.int (1 : Int32))])
    refine hs.go (fun _ kk_ => XS.iconst X13.here hx rfl (hb hby at_27) kk_) ?_
    show G T13 (mkF m 28 #[.val (.int a), .val (.int b), .val (.int cc), .val (.int dd), .val (.int nn), .val (.int r), .val (.int (1 : Int32)), .val (.ref jd), .unset, .unset, .unset] [(.int (1 : Int32)), (.int (1 : Int32))])
    refine hs.go (fun _ kk_ => XS.icmpYes X13.here hx rfl (pc0 := 28) (pc' := 36) rfl (hb hby at_28) rfl (flt ((by decide) : ¬ ((1 : Int32) < (1 : Int32)))).2.2.2 (by decide) (by decide) kk_) ?_
    show G T13 (mkF m 36 #[.val (.int a), .val (.int b), .val (.int cc), .val (.int dd), .val (.int nn), .val (.int r), .val (.int (1 : Int32)), .val (.ref jd), .unset, .unset, .unset] [])
    refine hs.go (fun _ kk_ => XS.iload X13.here hx rfl (hb hby at_36) rfl  kk_) ?_
    show G T13 (mkF m 38 #[.val (.int a), .val (.int b), .val (.int cc), .val (.int dd), .val (.int nn), .val (.int r), .val (.int (1 : Int32)), .val (.ref jd), .unset, .unset, .unset] [(.int (1 : Int32))])
    refine hs.go (fun _ kk_ => XS.iconst X13.here hx rfl (hb hby at_38) kk_) ?_
    show G T13 (mkF m 39 #[.val (.int a), .val (.int b), .val (.int cc), .val (.int dd), .val (.int nn), .val (.int r), .val (.int (1 : Int32)), .val (.ref jd), .unset, .unset, .unset] [(.int (2 : Int32)), (.int (1 : Int32))])
    refine hs.go (fun _ kk_ => XS.icmpYes X13.here hx rfl (pc0 := 39) (pc' := 47) rfl (hb hby at_39) rfl (flt ((by decide) : ¬ ((2 : Int32) < (1 : Int32)))).2.2.2 (by decide) (by decide) kk_) ?_
    show G T13 (mkF m 47 #[.val (.int a), .val (.int b), .val (.int cc), .val (.int dd), .val (.int nn), .val (.int r), .val (.int (1 : Int32)), .val (.ref jd), .unset, .unset, .unset] [])
    refine hs.go (fun _ kk_ => XS.iload X13.here hx rfl (hb hby at_47) rfl  kk_) ?_
    show G T13 (mkF m 49 #[.val (.int a), .val (.int b), .val (.int cc), .val (.int dd), .val (.int nn), .val (.int r), .val (.int (1 : Int32)), .val (.ref jd), .unset, .unset, .unset] [(.int (1 : Int32))])
    refine hs.go (fun _ kk_ => XS.iconst X13.here hx rfl (hb hby at_49) kk_) ?_
    show G T13 (mkF m 50 #[.val (.int a), .val (.int b), .val (.int cc), .val (.int dd), .val (.int nn), .val (.int r), .val (.int (1 : Int32)), .val (.ref jd), .unset, .unset, .unset] [(.int (3 : Int32)), (.int (1 : Int32))])
    refine hs.go (fun _ kk_ => XS.icmpYes X13.here hx rfl (pc0 := 50) (pc' := 58) rfl (hb hby at_50) rfl (flt ((by decide) : ¬ ((3 : Int32) < (1 : Int32)))).2.2.2 (by decide) (by decide) kk_) ?_
    show G T13 (mkF m 58 #[.val (.int a), .val (.int b), .val (.int cc), .val (.int dd), .val (.int nn), .val (.int r), .val (.int (1 : Int32)), .val (.ref jd), .unset, .unset, .unset] [])
    refine hs.go (fun _ kk_ => XS.iconst X13.here hx rfl (hb hby at_58) kk_) ?_
    show G T13 (mkF m 59 #[.val (.int a), .val (.int b), .val (.int cc), .val (.int dd), .val (.int nn), .val (.int r), .val (.int (1 : Int32)), .val (.ref jd), .unset, .unset, .unset] [(.int (2 : Int32))])
    refine rNewP hs X13 hx hZ (hw _ (List.mem_of_getElem? (i := 1) rfl)) rfl (hb hby at_59) rfl (by decide) 2 2 (by decide) (by decide) (by decide) (by decide) (fun T14 h14 k14 rv g14 X14 E14 V_rv => ?_)
    have V_rv : Arv Z h14 rv k14 .int (2 : Int32) [(.int (0 : Int32)), (.int (0 : Int32))] (.int (0 : Int32)) := V_rv
    have g_rv : n0 ≤ rv := by rw [g14]; exact Z0
    have Z0 := Nat.le_trans Z0 E14.1
    have ne_jd_rv : jd ≠ rv := Nat.ne_of_lt (Nat.lt_of_lt_of_le V_jd.lt (Nat.le_of_eq g14.symm))
    have V_jd := V_jd.ext E14
    show G T14 (mkF m 61 #[.val (.int a), .val (.int b), .val (.int cc), .val (.int dd), .val (.int nn), .val (.int r), .val (.int (1 : Int32)), .val (.ref jd), .unset, .unset, .unset] [(.ref rv)])
    refine hs.go (fun _ kk_ => XS.astore X14.here hx rfl (hb hby at_61) rfl rfl (l' := #[.val (.int a), .val (.int b), .val (.int cc), .val (.int dd), .val (.int nn), .val (.int r), .val (.int (1 : Int32)), .val (.ref jd), .val (.ref rv), .unset, .unset]) rfl kk_) ?_
    show G T14 (mkF m 63 #[.val (.int a), .val (.int b), .val (.int cc), .val (.int dd), .val (.int nn), .val (.int r), .val (.int (1 : Int32)), .val (.ref jd), .val (.ref rv), .unset, .unset] [])
    refine hs.go (fun _ kk_ => XS.aload X14.here hx rfl (hb hby at_63) rfl rfl kk_) ?_
    show G T14 (mkF m 65 #[.val (.int a), .val (.int b), .val (.int cc), .val (.int dd), .val (.int nn), .val (.int r), .val (.int (1 : Int32)), .val (.ref jd), .val (.ref rv), .unset, .unset] [(.ref rv)])
    refine hs.go (fun _ kk_ => XS.iconst X14.here hx rfl (hb hby at_65) kk_) ?_
    show G T14 (mkF m 66 #[.val (.int a), .val (.int b), .val (.int cc), .val (.int dd), .val (.int nn), .val (.int r), .val (.int (1 : Int32)), .val (.ref jd), .val (.ref rv), .unset, .unset] [(.int (0 : Int32)), (.ref rv)])
    refine hs.go (fun _ kk_ => XS.iload X14.here hx rfl (hb hby at_66) rfl  kk_) ?_
    show G T14 (mkF m 68 #[.val (.int a), .val (.int b), .val (.int cc), .val (.int dd), .val (.int nn), .val (.int r), .val (.int (1 : Int32)), .val (.ref jd), .val (.ref rv), .unset, .unset] [(.int r), (.int (0 : Int32)), (.ref rv)])
    refine rStI hs X14 hx hZ V_rv g_rv ⟨by decide, by decide⟩ 0 (by decide) (by simp) rfl rfl (hb hby at_68) (fun T15 h15 X15 W15 V_rv => ?_)
    have V_rv : Arv Z h15 rv k14 .int (2 : Int32) [(.int r), (.int (0 : Int32))] (.int (0 : Int32)) := V_rv
    have V_jd := V_jd.other W15 ne_jd_rv
    have Z0 := Nat.le_trans Z0 (Keep.of_wr W15).1
    show G T15 (mkF m 69 #[.val (.int a), .val (.int b), .val (.int cc), .val (.int dd), .val (.int nn), .val (.int r), .val (.int (1 : Int32)), .val (.ref jd), .val (.ref rv), .unset, .unset] [])
    refine hs.go (fun _ kk_ => XS.aload X15.here hx rfl (hb hby at_69) rfl rfl kk_) ?_
    show G T15 (mkF m 71 #[.val (.int a), .val (.int b), .val (.int cc), .val (.int dd), .val (.int nn), .val (.int r), .val (.int (1 : Int32)), .val (.ref jd), .val (.ref rv), .unset, .unset] [(.ref rv)])
    refine hs.go (fun _ kk_ => XS.iconst X15.here hx rfl (hb hby at_71) kk_) ?_
    show G T15 (mkF m 72 #[.val (.int a), .val (.int b), .val (.int cc), .val (.int dd), .val (.int nn), .val (.int r), .val (.int (1 : Int32)), .val (.ref jd), .val (.ref rv), .unset, .unset] [(.int (1 : Int32)), (.ref rv)])
    refine hs.go (fun _ kk_ => XS.iloadN X15.here hx rfl (hb hby at_72) rfl  kk_) ?_
    show G T15 (mkF m 73 #[.val (.int a), .val (.int b), .val (.int cc), .val (.int dd), .val (.int nn), .val (.int r), .val (.int (1 : Int32)), .val (.ref jd), .val (.ref rv), .unset, .unset] [(.int a), (.int (1 : Int32)), (.ref rv)])
    refine rStI hs X15 hx hZ V_rv g_rv ⟨by decide, by decide⟩ 1 (by decide) (by simp) rfl rfl (hb hby at_73) (fun T16 h16 X16 W16 V_rv => ?_)
    have V_rv : Arv Z h16 rv k14 .int (2 : Int32) [(.int r), (.int a)] (.int (0 : Int32)) := V_rv
    have V_jd := V_jd.other W16 ne_jd_rv
    have Z0 := Nat.le_trans Z0 (Keep.of_wr W16).1
    show G T16 (mkF m 74 #[.val (.int a), .val (.int b), .val (.int cc), .val (.int dd), .val (.int nn), .val (.int r), .val (.int (1 : Int32)), .val (.ref jd), .val (.ref rv), .unset, .unset] [])
    as_aux_lemma =>
      refine rNewO hs X16 hx hZ hown (hw _ (List.mem_of_getElem? (i := 2) rfl)) (hw _ (List.mem_of_getElem? (i := 3) rfl)) (hw _ (List.mem_of_getElem? (i := 4) rfl)) rfl (hb hby at_74) (by decide) (by decide) (fun T17 h17 ob g17 X17 E17 E_ob D17 => ?_)
      have g_ob : n0 ≤ ob := by rw [g17]; exact Z0
      have Z0 := Nat.le_trans Z0 E17.1
      have ne_jd_ob : jd ≠ ob := Nat.ne_of_lt (Nat.lt_of_lt_of_le V_jd.lt (Nat.le_of_eq g17.symm))
      have ne_rv_ob : rv ≠ ob := Nat.ne_of_lt (Nat.lt_of_lt_of_le V_rv.lt (Nat.le_of_eq g17.symm))
      have V_jd := V_jd.ext E17
      have V_rv := V_rv.ext E17
      have F_relevance_ob : Fld Z h17 ob "com/example/ranked_odds/rankedodds/eval/JudgedRanking" "relevance" "[I" .null := D17 (Or.inr (hw _ (List.mem_of_getElem? (i := 17) rfl))) (ty := (.array .int)) (by decide)
      have F_judged_ob : Fld Z h17 ob "com/example/ranked_odds/rankedodds/eval/JudgedRanking" "judged" "[I" .null := D17 (Or.inr (hw _ (List.mem_of_getElem? (i := 19) rfl))) (ty := (.array .int)) (by decide)
      show G T17 (mkF m 77 #[.val (.int a), .val (.int b), .val (.int cc), .val (.int dd), .val (.int nn), .val (.int r), .val (.int (1 : Int32)), .val (.ref jd), .val (.ref rv), .unset, .unset] [(.ref ob)])
      refine hs.go (fun _ kk_ => XS.dup X17.here hx rfl (hb hby at_77) rfl rfl kk_) ?_
      show G T17 (mkF m 78 #[.val (.int a), .val (.int b), .val (.int cc), .val (.int dd), .val (.int nn), .val (.int r), .val (.int (1 : Int32)), .val (.ref jd), .val (.ref rv), .unset, .unset] [(.ref ob), (.ref ob)])
      refine hs.go (fun _ kk_ => XS.aload X17.here hx rfl (hb hby at_78) rfl rfl kk_) ?_
      show G T17 (mkF m 80 #[.val (.int a), .val (.int b), .val (.int cc), .val (.int dd), .val (.int nn), .val (.int r), .val (.int (1 : Int32)), .val (.ref jd), .val (.ref rv), .unset, .unset] [(.ref rv), (.ref ob), (.ref ob)])
      refine hs.go (fun _ kk_ => XS.aload X17.here hx rfl (hb hby at_80) rfl rfl kk_) ?_
      show G T17 (mkF m 82 #[.val (.int a), .val (.int b), .val (.int cc), .val (.int dd), .val (.int nn), .val (.int r), .val (.int (1 : Int32)), .val (.ref jd), .val (.ref rv), .unset, .unset] [(.ref jd), (.ref rv), (.ref ob), (.ref ob)])
      refine rCallI hs X17 hx hZ (as' := [(.ref rv), (.ref jd)]) (rm1 l Z a0 hw [] ob rv jd h17 n0 Z0 E_ob g_ob F_relevance_ob F_judged_ob) rfl hown (hw _ (List.mem_of_getElem? (i := 5) rfl)) (hw _ (List.mem_of_getElem? (i := 6) rfl)) (hw _ (List.mem_of_getElem? (i := 4) rfl)) (hw _ (List.mem_of_getElem? (i := 7) rfl)) hy_1 rfl (by rw [hml]; rfl) [(.ref ob)] (lenOf pd_1 rfl) rfl 1 (by show 2 * 0 + _ ≤ _; exact Nat.le_of_eq rfl) (hb hby at_82) (by decide) (by decide) (by decide) (by decide) (fun r18 T18 h18 X18 q18 => ?_)
      obtain ⟨rfl, Kc18, E_ob, F_judged_ob⟩ := q18
      have Z0 := Nat.le_trans Z0 Kc18.1
      have V_jd := V_jd.keep Kc18 (ninS ne_jd_ob nin0)
      have V_rv := V_rv.keep Kc18 (ninS ne_rv_ob nin0)
      show G T18 (mkF m 85 #[.val (.int a), .val (.int b), .val (.int cc), .val (.int dd), .val (.int nn), .val (.int r), .val (.int (1 : Int32)), .val (.ref jd), .val (.ref rv), .unset, .unset] [(.ref ob)])
      refine hs.go (fun _ kk_ => XS.astore X18.here hx rfl (hb hby at_85) rfl rfl (l' := #[.val (.int a), .val (.int b), .val (.int cc), .val (.int dd), .val (.int nn), .val (.int r), .val (.int (1 : Int32)), .val (.ref jd), .val (.ref rv), .val (.ref ob), .unset]) rfl kk_) ?_
      show G T18 (mkF m 87 #[.val (.int a), .val (.int b), .val (.int cc), .val (.int dd), .val (.int nn), .val (.int r), .val (.int (1 : Int32)), .val (.ref jd), .val (.ref rv), .val (.ref ob), .unset] [])
      refine hs.go (fun _ kk_ => XS.iload X18.here hx rfl (hb hby at_87) rfl  kk_) ?_
      show G T18 (mkF m 89 #[.val (.int a), .val (.int b), .val (.int cc), .val (.int dd), .val (.int nn), .val (.int r), .val (.int (1 : Int32)), .val (.ref jd), .val (.ref rv), .val (.ref ob), .unset] [(.int (1 : Int32))])
      refine hs.go (fun _ kk_ => XS.ifNo X18.here hx rfl (hb hby at_89) rfl ((if0 _ _).trans (tlt ((by decide) : (0 : Int32) < (1 : Int32))).2.2.2) kk_) ?_
      show G T18 (mkF m 92 #[.val (.int a), .val (.int b), .val (.int cc), .val (.int dd), .val (.int nn), .val (.int r), .val (.int (1 : Int32)), .val (.ref jd), .val (.ref rv), .val (.ref ob), .unset] [])
      refine hs.go (fun _ kk_ => XS.iconst X18.here hx rfl (hb hby at_92) kk_) ?_
      show G T18 (mkF m 93 #[.val (.int a), .val (.int b), .val (.int cc), .val (.int dd), .val (.int nn), .val (.int r), .val (.int (1 : Int32)), .val (.ref jd), .val (.ref rv), .val (.ref ob), .unset] [(.int (1 : Int32))])
      refine hs.go (fun _ kk_ => XS.goto X18.here hx rfl (pc0 := 93) (pc' := 97) rfl (hb hby at_93) (by decide) (by decide) kk_) ?_
      show G T18 (mkF m 97 #[.val (.int a), .val (.int b), .val (.int cc), .val (.int dd), .val (.int nn), .val (.int r), .val (.int (1 : Int32)), .val (.ref jd), .val (.ref rv), .val (.ref ob), .unset] [(.int (1 : Int32))])
      refine hs.go (fun _ kk_ => XS.iloadN X18.here hx rfl (hb hby at_97) rfl  kk_) ?_
      show G T18 (mkF m 98 #[.val (.int a), .val (.int b), .val (.int cc), .val (.int dd), .val (.int nn), .val (.int r), .val (.int (1 : Int32)), .val (.ref jd), .val (.ref rv), .val (.ref ob), .unset] [(.int a), (.int (1 : Int32))])
      refine rCallS hs X18 hx hZ (as' := [(.int (1 : Int32)), (.int a)]) (rm4 l Z a0 hw [] (1 : Int32) a h18 n0 Z0) hown (hw _ (List.mem_of_getElem? (i := 20) rfl)) (hw _ (List.mem_of_getElem? (i := 21) rfl)) (hw _ (List.mem_of_getElem? (i := 22) rfl)) (hw _ (List.mem_of_getElem? (i := 23) rfl)) hy_4 rfl (by rw [hml]; rfl) [] (lenOf pd_2 rfl) rfl 0 (by show 2 * 0 + _ ≤ _; exact Nat.le_of_eq rfl) (hb hby at_98) (by decide) (by decide) (by decide) (by decide) (fun r19 T19 h19 X19 q19 => ?_)
      obtain ⟨rfl, qh19⟩ := q19
      rw [qh19] at X19
      show G T19 (mkF m 101 #[.val (.int a), .val (.int b), .val (.int cc), .val (.int dd), .val (.int nn), .val (.int r), .val (.int (1 : Int32)), .val (.ref jd), .val (.ref rv), .val (.ref ob), .unset] [(.int (f4 (1 : Int32) a))])
      refine hs.go (fun _ kk_ => XS.iload X19.here hx rfl (hb hby at_101) rfl  kk_) ?_
      show G T19 (mkF m 103 #[.val (.int a), .val (.int b), .val (.int cc), .val (.int dd), .val (.int nn), .val (.int r), .val (.int (1 : Int32)), .val (.ref jd), .val (.ref rv), .val (.ref ob), .unset] [(.int (1 : Int32)), (.int (f4 (1 : Int32) a))])
      refine hs.go (fun _ kk_ => XS.iconst X19.here hx rfl (hb hby at_103) kk_) ?_
      show G T19 (mkF m 104 #[.val (.int a), .val (.int b), .val (.int cc), .val (.int dd), .val (.int nn), .val (.int r), .val (.int (1 : Int32)), .val (.ref jd), .val (.ref rv), .val (.ref ob), .unset] [(.int (1 : Int32)), (.int (1 : Int32)), (.int (f4 (1 : Int32) a))])
      refine hs.go (fun _ kk_ => XS.icmpYes X19.here hx rfl (pc0 := 104) (pc' := 111) rfl (hb hby at_104) rfl (flt ((by decide) : ¬ ((1 : Int32) < (1 : Int32)))).2.2.2 (by decide) (by decide) kk_) ?_
      show G T19 (mkF m 111 #[.val (.int a), .val (.int b), .val (.int cc), .val (.int dd), .val (.int nn), .val (.int r), .val (.int (1 : Int32)), .val (.ref jd), .val (.ref rv), .val (.ref ob), .unset] [(.int (f4 (1 : Int32) a))])
      refine hs.go (fun _ kk_ => XS.iconst X19.here hx rfl (hb hby at_111) kk_) ?_
      show G T19 (mkF m 112 #[.val (.int a), .val (.int b), .val (.int cc), .val (.int dd), .val (.int nn), .val (.int r), .val (.int (1 : Int32)), .val (.ref jd), .val (.ref rv), .val (.ref ob), .unset] [(.int (0 : Int32)), (.int (f4 (1 : Int32) a))])
      refine hs.go (fun _ kk_ => XS.iloadN X19.here hx rfl (hb hby at_112) rfl  kk_) ?_
      show G T19 (mkF m 113 #[.val (.int a), .val (.int b), .val (.int cc), .val (.int dd), .val (.int nn), .val (.int r), .val (.int (1 : Int32)), .val (.ref jd), .val (.ref rv), .val (.ref ob), .unset] [(.int b), (.int (0 : Int32)), (.int (f4 (1 : Int32) a))])
      refine rCallS hs X19 hx hZ (as' := [(.int (0 : Int32)), (.int b)]) (rm4 l Z a0 hw [] (0 : Int32) b h18 n0 Z0) hown (hw _ (List.mem_of_getElem? (i := 20) rfl)) (hw _ (List.mem_of_getElem? (i := 21) rfl)) (hw _ (List.mem_of_getElem? (i := 22) rfl)) (hw _ (List.mem_of_getElem? (i := 23) rfl)) hy_4 rfl (by rw [hml]; rfl) [(.int (f4 (1 : Int32) a))] (lenOf pd_2 rfl) rfl 1 (by show 2 * 0 + _ ≤ _; exact Nat.le_of_eq rfl) (hb hby at_113) (by decide) (by decide) (by decide) (by decide) (fun r20 T20 h20 X20 q20 => ?_)
      obtain ⟨rfl, qh20⟩ := q20
      rw [qh20] at X20
      show G T20 (mkF m 116 #[.val (.int a), .val (.int b), .val (.int cc), .val (.int dd), .val (.int nn), .val (.int r), .val (.int (1 : Int32)), .val (.ref jd), .val (.ref rv), .val (.ref ob), .unset] [(.int (f4 (0 : Int32) b)), (.int (f4 (1 : Int32) a))])
      refine hs.go (fun _ kk_ => XS.iadd X20.here hx rfl (hb hby at_116) rfl kk_) ?_
      show G T20 (mkF m 117 #[.val (.int a), .val (.int b), .val (.int cc), .val (.int dd), .val (.int nn), .val (.int r), .val (.int (1 : Int32)), .val (.ref jd), .val (.ref rv), .val (.ref ob), .unset] [(.int ((f4 (1 : Int32) a) + (f4 (0 : Int32) b)))])
      refine hs.go (fun _ kk_ => XS.iload X20.here hx rfl (hb hby at_117) rfl  kk_) ?_
      show G T20 (mkF m 119 #[.val (.int a), .val (.int b), .val (.int cc), .val (.int dd), .val (.int nn), .val (.int r), .val (.int (1 : Int32)), .val (.ref jd), .val (.ref rv), .val (.ref ob), .unset] [(.int (1 : Int32)), (.int ((f4 (1 : Int32) a) + (f4 (0 : Int32) b)))])
      refine hs.go (fun _ kk_ => XS.iconst X20.here hx rfl (hb hby at_119) kk_) ?_
      show G T20 (mkF m 120 #[.val (.int a), .val (.int b), .val (.int cc), .val (.int dd), .val (.int nn), .val (.int r), .val (.int (1 : Int32)), .val (.ref jd), .val (.ref rv), .val (.ref ob), .unset] [(.int (2 : Int32)), (.int (1 : Int32)), (.int ((f4 (1 : Int32) a) + (f4 (0 : Int32) b)))])
      refine hs.go (fun _ kk_ => XS.icmpYes X20.here hx rfl (pc0 := 120) (pc' := 127) rfl (hb hby at_120) rfl (flt ((by decide) : ¬ ((2 : Int32) < (1 : Int32)))).2.2.2 (by decide) (by decide) kk_) ?_
      show G T20 (mkF m 127 #[.val (.int a), .val (.int b), .val (.int cc), .val (.int dd), .val (.int nn), .val (.int r), .val (.int (1 : Int32)), .val (.ref jd), .val (.ref rv), .val (.ref ob), .unset] [(.int ((f4 (1 : Int32) a) + (f4 (0 : Int32) b)))])
      refine hs.go (fun _ kk_ => XS.iconst X20.here hx rfl (hb hby at_127) kk_) ?_
      show G T20 (mkF m 128 #[.val (.int a), .val (.int b), .val (.int cc), .val (.int dd), .val (.int nn), .val (.int r), .val (.int (1 : Int32)), .val (.ref jd), .val (.ref rv), .val (.ref ob), .unset] [(.int (0 : Int32)), (.int ((f4 (1 : Int32) a) + (f4 (0 : Int32) b)))])
      refine hs.go (fun _ kk_ => XS.iloadN X20.here hx rfl (hb hby at_128) rfl  kk_) ?_
      show G T20 (mkF m 129 #[.val (.int a), .val (.int b), .val (.int cc), .val (.int dd), .val (.int nn), .val (.int r), .val (.int (1 : Int32)), .val (.ref jd), .val (.ref rv), .val (.ref ob), .unset] [(.int cc), (.int (0 : Int32)), (.int ((f4 (1 : Int32) a) + (f4 (0 : Int32) b)))])
      refine rCallS hs X20 hx hZ (as' := [(.int (0 : Int32)), (.int cc)]) (rm4 l Z a0 hw [] (0 : Int32) cc h18 n0 Z0) hown (hw _ (List.mem_of_getElem? (i := 20) rfl)) (hw _ (List.mem_of_getElem? (i := 21) rfl)) (hw _ (List.mem_of_getElem? (i := 22) rfl)) (hw _ (List.mem_of_getElem? (i := 23) rfl)) hy_4 rfl (by rw [hml]; rfl) [(.int ((f4 (1 : Int32) a) + (f4 (0 : Int32) b)))] (lenOf pd_2 rfl) rfl 1 (by show 2 * 0 + _ ≤ _; exact Nat.le_of_eq rfl) (hb hby at_129) (by decide) (by decide) (by decide) (by decide) (fun r21 T21 h21 X21 q21 => ?_)
      obtain ⟨rfl, qh21⟩ := q21
      rw [qh21] at X21
      show G T21 (mkF m 132 #[.val (.int a), .val (.int b), .val (.int cc), .val (.int dd), .val (.int nn), .val (.int r), .val (.int (1 : Int32)), .val (.ref jd), .val (.ref rv), .val (.ref ob), .unset] [(.int (f4 (0 : Int32) cc)), (.int ((f4 (1 : Int32) a) + (f4 (0 : Int32) b)))])
      refine hs.go (fun _ kk_ => XS.iadd X21.here hx rfl (hb hby at_132) rfl kk_) ?_
      show G T21 (mkF m 133 #[.val (.int a), .val (.int b), .val (.int cc), .val (.int dd), .val (.int nn), .val (.int r), .val (.int (1 : Int32)), .val (.ref jd), .val (.ref rv), .val (.ref ob), .unset] [(.int (((f4 (1 : Int32) a) + (f4 (0 : Int32) b)) + (f4 (0 : Int32) cc)))])
      refine hs.go (fun _ kk_ => XS.iload X21.here hx rfl (hb hby at_133) rfl  kk_) ?_
      show G T21 (mkF m 135 #[.val (.int a), .val (.int b), .val (.int cc), .val (.int dd), .val (.int nn), .val (.int r), .val (.int (1 : Int32)), .val (.ref jd), .val (.ref rv), .val (.ref ob), .unset] [(.int (1 : Int32)), (.int (((f4 (1 : Int32) a) + (f4 (0 : Int32) b)) + (f4 (0 : Int32) cc)))])
      refine hs.go (fun _ kk_ => XS.iconst X21.here hx rfl (hb hby at_135) kk_) ?_
      show G T21 (mkF m 136 #[.val (.int a), .val (.int b), .val (.int cc), .val (.int dd), .val (.int nn), .val (.int r), .val (.int (1 : Int32)), .val (.ref jd), .val (.ref rv), .val (.ref ob), .unset] [(.int (3 : Int32)), (.int (1 : Int32)), (.int (((f4 (1 : Int32) a) + (f4 (0 : Int32) b)) + (f4 (0 : Int32) cc)))])
      refine hs.go (fun _ kk_ => XS.icmpYes X21.here hx rfl (pc0 := 136) (pc' := 143) rfl (hb hby at_136) rfl (flt ((by decide) : ¬ ((3 : Int32) < (1 : Int32)))).2.2.2 (by decide) (by decide) kk_) ?_
      show G T21 (mkF m 143 #[.val (.int a), .val (.int b), .val (.int cc), .val (.int dd), .val (.int nn), .val (.int r), .val (.int (1 : Int32)), .val (.ref jd), .val (.ref rv), .val (.ref ob), .unset] [(.int (((f4 (1 : Int32) a) + (f4 (0 : Int32) b)) + (f4 (0 : Int32) cc)))])
      refine hs.go (fun _ kk_ => XS.iconst X21.here hx rfl (hb hby at_143) kk_) ?_
      show G T21 (mkF m 144 #[.val (.int a), .val (.int b), .val (.int cc), .val (.int dd), .val (.int nn), .val (.int r), .val (.int (1 : Int32)), .val (.ref jd), .val (.ref rv), .val (.ref ob), .unset] [(.int (0 : Int32)), (.int (((f4 (1 : Int32) a) + (f4 (0 : Int32) b)) + (f4 (0 : Int32) cc)))])
      refine hs.go (fun _ kk_ => XS.iloadN X21.here hx rfl (hb hby at_144) rfl  kk_) ?_
      show G T21 (mkF m 145 #[.val (.int a), .val (.int b), .val (.int cc), .val (.int dd), .val (.int nn), .val (.int r), .val (.int (1 : Int32)), .val (.ref jd), .val (.ref rv), .val (.ref ob), .unset] [(.int dd), (.int (0 : Int32)), (.int (((f4 (1 : Int32) a) + (f4 (0 : Int32) b)) + (f4 (0 : Int32) cc)))])
      refine rCallS hs X21 hx hZ (as' := [(.int (0 : Int32)), (.int dd)]) (rm4 l Z a0 hw [] (0 : Int32) dd h18 n0 Z0) hown (hw _ (List.mem_of_getElem? (i := 20) rfl)) (hw _ (List.mem_of_getElem? (i := 21) rfl)) (hw _ (List.mem_of_getElem? (i := 22) rfl)) (hw _ (List.mem_of_getElem? (i := 23) rfl)) hy_4 rfl (by rw [hml]; rfl) [(.int (((f4 (1 : Int32) a) + (f4 (0 : Int32) b)) + (f4 (0 : Int32) cc)))] (lenOf pd_2 rfl) rfl 1 (by show 2 * 0 + _ ≤ _; exact Nat.le_of_eq rfl) (hb hby at_145) (by decide) (by decide) (by decide) (by decide) (fun r22 T22 h22 X22 q22 => ?_)
      obtain ⟨rfl, qh22⟩ := q22
      rw [qh22] at X22
      show G T22 (mkF m 148 #[.val (.int a), .val (.int b), .val (.int cc), .val (.int dd), .val (.int nn), .val (.int r), .val (.int (1 : Int32)), .val (.ref jd), .val (.ref rv), .val (.ref ob), .unset] [(.int (f4 (0 : Int32) dd)), (.int (((f4 (1 : Int32) a) + (f4 (0 : Int32) b)) + (f4 (0 : Int32) cc)))])
      refine hs.go (fun _ kk_ => XS.iadd X22.here hx rfl (hb hby at_148) rfl kk_) ?_
      show G T22 (mkF m 149 #[.val (.int a), .val (.int b), .val (.int cc), .val (.int dd), .val (.int nn), .val (.int r), .val (.int (1 : Int32)), .val (.ref jd), .val (.ref rv), .val (.ref ob), .unset] [(.int ((((f4 (1 : Int32) a) + (f4 (0 : Int32) b)) + (f4 (0 : Int32) cc)) + (f4 (0 : Int32) dd)))])
      refine nameIt (P := fun zz_ : Int32 => G T22 (mkF m 149 #[.val (.int a), .val (.int b), .val (.int cc), .val (.int dd), .val (.int nn), .val (.int r), .val (.int (1 : Int32)), .val (.ref jd), .val (.ref rv), .val (.ref ob), .unset] [(.int zz_)])) ((((f4 (1 : Int32) a) + (f4 (0 : Int32) b)) + (f4 (0 : Int32) cc)) + (f4 (0 : Int32) dd)) (fun ex hex => ?_)
      show G T22 (mkF m 149 #[.val (.int a), .val (.int b), .val (.int cc), .val (.int dd), .val (.int nn), .val (.int r), .val (.int (1 : Int32)), .val (.ref jd), .val (.ref rv), .val (.ref ob), .unset] [(.int ex)])
      refine hs.go (fun _ kk_ => XS.istore X22.here hx rfl (hb hby at_149) rfl (l' := #[.val (.int a), .val (.int b), .val (.int cc), .val (.int dd), .val (.int nn), .val (.int r), .val (.int (1 : Int32)), .val (.ref jd), .val (.ref rv), .val (.ref ob), .val (.int ex)]) rfl kk_) ?_
      show G T22 (mkF m 151 #[.val (.int a), .val (.int b), .val (.int cc), .val (.int dd), .val (.int nn), .val (.int r), .val (.int (1 : Int32)), .val (.ref jd), .val (.ref rv), .val (.ref ob), .val (.int ex)] [])
      refine hs.go (fun _ kk_ => XS.aload X22.here hx rfl (hb hby at_151) rfl rfl kk_) ?_
      show G T22 (mkF m 153 #[.val (.int a), .val (.int b), .val (.int cc), .val (.int dd), .val (.int nn), .val (.int r), .val (.int (1 : Int32)), .val (.ref jd), .val (.ref rv), .val (.ref ob), .val (.int ex)] [(.ref ob)])
      refine rCallV hs X22 hx hZ (as' := []) (rm5 l Z a0 hw [] ob jd (1 : Int32) [a] k12 h18 n0 Z0 F_judged_ob V_jd rfl) E_ob hown (hw _ (List.mem_of_getElem? (i := 24) rfl)) (hw _ (List.mem_of_getElem? (i := 25) rfl)) (hw _ (List.mem_of_getElem? (i := 27) rfl)) (hw _ (List.mem_of_getElem? (i := 26) rfl)) (hw _ (List.mem_of_getElem? (i := 4) rfl)) (hw _ (List.mem_of_getElem? (i := 28) rfl)) hy_5 rfl (by rw [hml]; rfl) [] (lenOf pd_3 rfl) rfl 0 (by show 2 * 0 + _ ≤ _; exact Nat.le_of_eq rfl) (hb hby at_153) (by decide) (by decide) (by decide) (by decide) (fun r23 T23 h23 X23 q23 => ?_)
      obtain ⟨rfl, qh23⟩ := q23
      rw [qh23] at X23
      show G T23 (mkF m 156 #[.val (.int a), .val (.int b), .val (.int cc), .val (.int dd), .val (.int nn), .val (.int r), .val (.int (1 : Int32)), .val (.ref jd), .val (.ref rv), .val (.ref ob), .val (.int ex)] [(.int (cpos [a] 0))])
      refine hs.go (fun _ kk_ => XS.iload X23.here hx rfl (hb hby at_156) rfl  kk_) ?_
      show G T23 (mkF m 158 #[.val (.int a), .val (.int b), .val (.int cc), .val (.int dd), .val (.int nn), .val (.int r), .val (.int (1 : Int32)), .val (.ref jd), .val (.ref rv), .val (.ref ob), .val (.int ex)] [(.int ex), (.int (cpos [a] 0))])
      refine hs.go (fun _ kk_ => XS.icmpNo X23.here hx rfl (hb hby at_158) rfl (teq (own_l1 a b cc dd hex : (cpos [a] 0) = ex)).2 kk_) ?_
      show G T23 (mkF m 161 #[.val (.int a), .val (.int b), .val (.int cc), .val (.int dd), .val (.int nn), .val (.int r), .val (.int (1 : Int32)), .val (.ref jd), .val (.ref rv), .val (.ref ob), .val (.int ex)] [])
      refine hs.go (fun _ kk_ => XS.iconst X23.here hx rfl (hb hby at_161) kk_) ?_
      show G T23 (mkF m 162 #[.val (.int a), .val (.int b), .val (.int cc), .val (.int dd), .val (.int nn), .val (.int r), .val (.int (1 : Int32)), .val (.ref jd), .val (.ref rv), .val (.ref ob), .val (.int ex)] [(.int (1 : Int32))])
      refine hs.go (fun _ kk_ => XS.goto X23.here hx rfl (pc0 := 162) (pc' := 166) rfl (hb hby at_162) (by decide) (by decide) kk_) ?_
      show G T23 (mkF m 166 #[.val (.int a), .val (.int b), .val (.int cc), .val (.int dd), .val (.int nn), .val (.int r), .val (.int (1 : Int32)), .val (.ref jd), .val (.ref rv), .val (.ref ob), .val (.int ex)] [(.int (1 : Int32))])
      exact rRetN fin X23 hx (by decide) (by decide) hret (by simp) (hb hby at_166) (z' := (1 : Int32)) (by decide) rfl
  · show G s₁ (mkF m 9 #[.val (.int a), .val (.int b), .val (.int cc), .val (.int dd), .val (.int nn), .val (.int r), .val (.int (2 : Int32)), .unset, .unset, .unset, .unset] [])
    refine hs.go (fun _ kk_ => XS.iload X0.here hx rfl (hb hby at_9) rfl  kk_) ?_
    show G s₁ (mkF m 11 #[.val (.int a), .val (.int b), .val (.int cc), .val (.int dd), .val (.int nn), .val (.int r), .val (.int (2 : Int32)), .unset, .unset, .unset, .unset] [(.int (2 : Int32))])
    refine rNewP hs X0 hx hZ (hw _ (List.mem_of_getElem? (i := 1) rfl)) rfl (hb hby at_11) rfl (by decide) 2 2 (by decide) (by decide) (by decide) (by decide) (fun T24 h24 k24 jd g24 X24 E24 V_jd => ?_)
    have V_jd : Arv Z h24 jd k24 .int (2 : Int32) [(.int (0 : Int32)), (.int (0 : Int32))] (.int (0 : Int32)) := V_jd
    have g_jd : n0 ≤ jd := by rw [g24]; exact Z0
    have Z0 := Nat.le_trans Z0 E24.1
    show G T24 (mkF m 13 #[.val (.int a), .val (.int b), .val (.int cc), .val (.int dd), .val (.int nn), .val (.int r), .val (.int (2 : Int32)), .unset, .unset, .unset, .unset] [(.ref jd)])
    refine hs.go (fun _ kk_ => XS.astore X24.here hx rfl (hb hby at_13) rfl rfl (l' := #[.val (.int a), .val (.int b), .val (.int cc), .val (.int dd), .val (.int nn), .val (.int r), .val (.int (2 : Int32)), .val (.ref jd), .unset, .unset, .unset]) rfl kk_) ?_
    show G T24 (mkF m 15 #[.val (.int a), .val (.int b), .val (.int cc), .val (.int dd), .val (.int nn), .val (.int r), .val (.int (2 : Int32)), .val (.ref jd), .unset, .unset, .unset] [])
    refine hs.go (fun _ kk_ => XS.iload X24.here hx rfl (hb hby at_15) rfl  kk_) ?_
    show G T24 (mkF m 17 #[.val (.int a), .val (.int b), .val (.int cc), .val (.int dd), .val (.int nn), .val (.int r), .val (.int (2 : Int32)), .val (.ref jd), .unset, .unset, .unset] [(.int (2 : Int32))])
    refine hs.go (fun _ kk_ => XS.ifNo X24.here hx rfl (hb hby at_17) rfl ((if0 _ _).trans (tlt ((by decide) : (0 : Int32) < (2 : Int32))).2.2.2) kk_) ?_
    show G T24 (mkF m 20 #[.val (.int a), .val (.int b), .val (.int cc), .val (.int dd), .val (.int nn), .val (.int r), .val (.int (2 : Int32)), .val (.ref jd), .unset, .unset, .unset] [])
    refine hs.go (fun _ kk_ => XS.aload X24.here hx rfl (hb hby at_20) rfl rfl kk_) ?_
    show G T24 (mkF m 22 #[.val (.int a), .val (.int b), .val (.int cc), .val (.int dd), .val (.int nn), .val (.int r), .val (.int (2 : Int32)), .val (.ref jd), .unset, .unset, .unset] [(.ref jd)])
    refine hs.go (fun _ kk_ => XS.iconst X24.here hx rfl (hb hby at_22) kk_) ?_
    show G T24 (mkF m 23 #[.val (.int a), .val (.int b), .val (.int cc), .val (.int dd), .val (.int nn), .val (.int r), .val (.int (2 : Int32)), .val (.ref jd), .unset, .unset, .unset] [(.int (0 : Int32)), (.ref jd)])
    refine hs.go (fun _ kk_ => XS.iloadN X24.here hx rfl (hb hby at_23) rfl  kk_) ?_
    show G T24 (mkF m 24 #[.val (.int a), .val (.int b), .val (.int cc), .val (.int dd), .val (.int nn), .val (.int r), .val (.int (2 : Int32)), .val (.ref jd), .unset, .unset, .unset] [(.int a), (.int (0 : Int32)), (.ref jd)])
    refine rStI hs X24 hx hZ V_jd g_jd ⟨by decide, by decide⟩ 0 (by decide) (by simp) rfl rfl (hb hby at_24) (fun T25 h25 X25 W25 V_jd => ?_)
    have V_jd : Arv Z h25 jd k24 .int (2 : Int32) [(.int a), (.int (0 : Int32))] (.int (0 : Int32)) := V_jd
    have Z0 := Nat.le_trans Z0 (Keep.of_wr W25).1
    show G T25 (mkF m 25 #[.val (.int a), .val (.int b), .val (.int cc), .val (.int dd), .val (.int nn), .val (.int r), .val (.int (2 : Int32)), .val (.ref jd), .unset, .unset, .unset] [])
    refine hs.go (fun _ kk_ => XS.iload X25.here hx rfl (hb hby at_25) rfl  kk_) ?_
    show G T25 (mkF m 27 #[.val (.int a), .val (.int b), .val (.int cc), .val (.int dd), .val (.int nn), .val (.int r), .val (.int (2 : Int32)), .val (.ref jd), .unset, .unset, .unset] [(.int (2 : Int32))])
    refine hs.go (fun _ kk_ => XS.iconst X25.here hx rfl (hb hby at_27) kk_) ?_
    show G T25 (mkF m 28 #[.val (.int a), .val (.int b), .val (.int cc), .val (.int dd), .val (.int nn), .val (.int r), .val (.int (2 : Int32)), .val (.ref jd), .unset, .unset, .unset] [(.int (1 : Int32)), (.int (2 : Int32))])
    refine hs.go (fun _ kk_ => XS.icmpNo X25.here hx rfl (hb hby at_28) rfl (tlt ((by decide) : (1 : Int32) < (2 : Int32))).2.2.2 kk_) ?_
    show G T25 (mkF m 31 #[.val (.int a), .val (.int b), .val (.int cc), .val (.int dd), .val (.int nn), .val (.int r), .val (.int (2 : Int32)), .val (.ref jd), .unset, .unset, .unset] [])
    refine hs.go (fun _ kk_ => XS.aload X25.here hx rfl (hb hby at_31) rfl rfl kk_) ?_
    show G T25 (mkF m 33 #[.val (.int a), .val (.int b), .val (.int cc), .val (.int dd), .val (.int nn), .val (.int r), .val (.int (2 : Int32)), .val (.ref jd), .unset, .unset, .unset] [(.ref jd)])
    refine hs.go (fun _ kk_ => XS.iconst X25.here hx rfl (hb hby at_33) kk_) ?_
    show G T25 (mkF m 34 #[.val (.int a), .val (.int b), .val (.int cc), .val (.int dd), .val (.int nn), .val (.int r), .val (.int (2 : Int32)), .val (.ref jd), .unset, .unset, .unset] [(.int (1 : Int32)), (.ref jd)])
    refine hs.go (fun _ kk_ => XS.iloadN X25.here hx rfl (hb hby at_34) rfl  kk_) ?_
    show G T25 (mkF m 35 #[.val (.int a), .val (.int b), .val (.int cc), .val (.int dd), .val (.int nn), .val (.int r), .val (.int (2 : Int32)), .val (.ref jd), .unset, .unset, .unset] [(.int b), (.int (1 : Int32)), (.ref jd)])
    refine rStI hs X25 hx hZ V_jd g_jd ⟨by decide, by decide⟩ 1 (by decide) (by simp) rfl rfl (hb hby at_35) (fun T26 h26 X26 W26 V_jd => ?_)
    have V_jd : Arv Z h26 jd k24 .int (2 : Int32) [(.int a), (.int b)] (.int (0 : Int32)) := V_jd
    have Z0 := Nat.le_trans Z0 (Keep.of_wr W26).1
    show G T26 (mkF m 36 #[.val (.int a), .val (.int b), .val (.int cc), .val (.int dd), .val (.int nn), .val (.int r), .val (.int (2 : Int32)), .val (.ref jd), .unset, .unset, .unset] [])
    refine hs.go (fun _ kk_ => XS.iload X26.here hx rfl (hb hby at_36) rfl  kk_) ?_
    show G T26 (mkF m 38 #[.val (.int a), .val (.int b), .val (.int cc), .val (.int dd), .val (.int nn), .val (.int r), .val (.int (2 : Int32)), .val (.ref jd), .unset, .unset, .unset] [(.int (2 : Int32))])
    refine hs.go (fun _ kk_ => XS.iconst X26.here hx rfl (hb hby at_38) kk_) ?_
    show G T26 (mkF m 39 #[.val (.int a), .val (.int b), .val (.int cc), .val (.int dd), .val (.int nn), .val (.int r), .val (.int (2 : Int32)), .val (.ref jd), .unset, .unset, .unset] [(.int (2 : Int32)), (.int (2 : Int32))])
    refine hs.go (fun _ kk_ => XS.icmpYes X26.here hx rfl (pc0 := 39) (pc' := 47) rfl (hb hby at_39) rfl (flt ((by decide) : ¬ ((2 : Int32) < (2 : Int32)))).2.2.2 (by decide) (by decide) kk_) ?_
    show G T26 (mkF m 47 #[.val (.int a), .val (.int b), .val (.int cc), .val (.int dd), .val (.int nn), .val (.int r), .val (.int (2 : Int32)), .val (.ref jd), .unset, .unset, .unset] [])
    refine hs.go (fun _ kk_ => XS.iload X26.here hx rfl (hb hby at_47) rfl  kk_) ?_
    show G T26 (mkF m 49 #[.val (.int a), .val (.int b), .val (.int cc), .val (.int dd), .val (.int nn), .val (.int r), .val (.int (2 : Int32)), .val (.ref jd), .unset, .unset, .unset] [(.int (2 : Int32))])
    refine hs.go (fun _ kk_ => XS.iconst X26.here hx rfl (hb hby at_49) kk_) ?_
    show G T26 (mkF m 50 #[.val (.int a), .val (.int b), .val (.int cc), .val (.int dd), .val (.int nn), .val (.int r), .val (.int (2 : Int32)), .val (.ref jd), .unset, .unset, .unset] [(.int (3 : Int32)), (.int (2 : Int32))])
    refine hs.go (fun _ kk_ => XS.icmpYes X26.here hx rfl (pc0 := 50) (pc' := 58) rfl (hb hby at_50) rfl (flt ((by decide) : ¬ ((3 : Int32) < (2 : Int32)))).2.2.2 (by decide) (by decide) kk_) ?_
    show G T26 (mkF m 58 #[.val (.int a), .val (.int b), .val (.int cc), .val (.int dd), .val (.int nn), .val (.int r), .val (.int (2 : Int32)), .val (.ref jd), .unset, .unset, .unset] [])
    refine hs.go (fun _ kk_ => XS.iconst X26.here hx rfl (hb hby at_58) kk_) ?_
    show G T26 (mkF m 59 #[.val (.int a), .val (.int b), .val (.int cc), .val (.int dd), .val (.int nn), .val (.int r), .val (.int (2 : Int32)), .val (.ref jd), .unset, .unset, .unset] [(.int (2 : Int32))])
    refine rNewP hs X26 hx hZ (hw _ (List.mem_of_getElem? (i := 1) rfl)) rfl (hb hby at_59) rfl (by decide) 2 2 (by decide) (by decide) (by decide) (by decide) (fun T27 h27 k27 rv g27 X27 E27 V_rv => ?_)
    have V_rv : Arv Z h27 rv k27 .int (2 : Int32) [(.int (0 : Int32)), (.int (0 : Int32))] (.int (0 : Int32)) := V_rv
    have g_rv : n0 ≤ rv := by rw [g27]; exact Z0
    have Z0 := Nat.le_trans Z0 E27.1
    have ne_jd_rv : jd ≠ rv := Nat.ne_of_lt (Nat.lt_of_lt_of_le V_jd.lt (Nat.le_of_eq g27.symm))
    have V_jd := V_jd.ext E27
    show G T27 (mkF m 61 #[.val (.int a), .val (.int b), .val (.int cc), .val (.int dd), .val (.int nn), .val (.int r), .val (.int (2 : Int32)), .val (.ref jd), .unset, .unset, .unset] [(.ref rv)])
    refine hs.go (fun _ kk_ => XS.astore X27.here hx rfl (hb hby at_61) rfl rfl (l' := #[.val (.int a), .val (.int b), .val (.int cc), .val (.int dd), .val (.int nn), .val (.int r), .val (.int (2 : Int32)), .val (.ref jd), .val (.ref rv), .unset, .unset]) rfl kk_) ?_
    show G T27 (mkF m 63 #[.val (.int a), .val (.int b), .val (.int cc), .val (.int dd), .val (.int nn), .val (.int r), .val (.int (2 : Int32)), .val (.ref jd), .val (.ref rv), .unset, .unset] [])
    refine hs.go (fun _ kk_ => XS.aload X27.here hx rfl (hb hby at_63) rfl rfl kk_) ?_
    show G T27 (mkF m 65 #[.val (.int a), .val (.int b), .val (.int cc), .val (.int dd), .val (.int nn), .val (.int r), .val (.int (2 : Int32)), .val (.ref jd), .val (.ref rv), .unset, .unset] [(.ref rv)])
    refine hs.go (fun _ kk_ => XS.iconst X27.here hx rfl (hb hby at_65) kk_) ?_
    show G T27 (mkF m 66 #[.val (.int a), .val (.int b), .val (.int cc), .val (.int dd), .val (.int nn), .val (.int r), .val (.int (2 : Int32)), .val (.ref jd), .val (.ref rv), .unset, .unset] [(.int (0 : Int32)), (.ref rv)])
    refine hs.go (fun _ kk_ => XS.iload X27.here hx rfl (hb hby at_66) rfl  kk_) ?_
    show G T27 (mkF m 68 #[.val (.int a), .val (.int b), .val (.int cc), .val (.int dd), .val (.int nn), .val (.int r), .val (.int (2 : Int32)), .val (.ref jd), .val (.ref rv), .unset, .unset] [(.int r), (.int (0 : Int32)), (.ref rv)])
    refine rStI hs X27 hx hZ V_rv g_rv ⟨by decide, by decide⟩ 0 (by decide) (by simp) rfl rfl (hb hby at_68) (fun T28 h28 X28 W28 V_rv => ?_)
    have V_rv : Arv Z h28 rv k27 .int (2 : Int32) [(.int r), (.int (0 : Int32))] (.int (0 : Int32)) := V_rv
    have V_jd := V_jd.other W28 ne_jd_rv
    have Z0 := Nat.le_trans Z0 (Keep.of_wr W28).1
    show G T28 (mkF m 69 #[.val (.int a), .val (.int b), .val (.int cc), .val (.int dd), .val (.int nn), .val (.int r), .val (.int (2 : Int32)), .val (.ref jd), .val (.ref rv), .unset, .unset] [])
    refine hs.go (fun _ kk_ => XS.aload X28.here hx rfl (hb hby at_69) rfl rfl kk_) ?_
    show G T28 (mkF m 71 #[.val (.int a), .val (.int b), .val (.int cc), .val (.int dd), .val (.int nn), .val (.int r), .val (.int (2 : Int32)), .val (.ref jd), .val (.ref rv), .unset, .unset] [(.ref rv)])
    refine hs.go (fun _ kk_ => XS.iconst X28.here hx rfl (hb hby at_71) kk_) ?_
    show G T28 (mkF m 72 #[.val (.int a), .val (.int b), .val (.int cc), .val (.int dd), .val (.int nn), .val (.int r), .val (.int (2 : Int32)), .val (.ref jd), .val (.ref rv), .unset, .unset] [(.int (1 : Int32)), (.ref rv)])
    refine hs.go (fun _ kk_ => XS.iloadN X28.here hx rfl (hb hby at_72) rfl  kk_) ?_
    show G T28 (mkF m 73 #[.val (.int a), .val (.int b), .val (.int cc), .val (.int dd), .val (.int nn), .val (.int r), .val (.int (2 : Int32)), .val (.ref jd), .val (.ref rv), .unset, .unset] [(.int a), (.int (1 : Int32)), (.ref rv)])
    refine rStI hs X28 hx hZ V_rv g_rv ⟨by decide, by decide⟩ 1 (by decide) (by simp) rfl rfl (hb hby at_73) (fun T29 h29 X29 W29 V_rv => ?_)
    have V_rv : Arv Z h29 rv k27 .int (2 : Int32) [(.int r), (.int a)] (.int (0 : Int32)) := V_rv
    have V_jd := V_jd.other W29 ne_jd_rv
    have Z0 := Nat.le_trans Z0 (Keep.of_wr W29).1
    show G T29 (mkF m 74 #[.val (.int a), .val (.int b), .val (.int cc), .val (.int dd), .val (.int nn), .val (.int r), .val (.int (2 : Int32)), .val (.ref jd), .val (.ref rv), .unset, .unset] [])
    as_aux_lemma =>
      refine rNewO hs X29 hx hZ hown (hw _ (List.mem_of_getElem? (i := 2) rfl)) (hw _ (List.mem_of_getElem? (i := 3) rfl)) (hw _ (List.mem_of_getElem? (i := 4) rfl)) rfl (hb hby at_74) (by decide) (by decide) (fun T30 h30 ob g30 X30 E30 E_ob D30 => ?_)
      have g_ob : n0 ≤ ob := by rw [g30]; exact Z0
      have Z0 := Nat.le_trans Z0 E30.1
      have ne_jd_ob : jd ≠ ob := Nat.ne_of_lt (Nat.lt_of_lt_of_le V_jd.lt (Nat.le_of_eq g30.symm))
      have ne_rv_ob : rv ≠ ob := Nat.ne_of_lt (Nat.lt_of_lt_of_le V_rv.lt (Nat.le_of_eq g30.symm))
      have V_jd := V_jd.ext E30
      have V_rv := V_rv.ext E30
      have F_relevance_ob : Fld Z h30 ob "com/example/ranked_odds/rankedodds/eval/JudgedRanking" "relevance" "[I" .null := D30 (Or.inr (hw _ (List.mem_of_getElem? (i := 17) rfl))) (ty := (.array .int)) (by decide)
      have F_judged_ob : Fld Z h30 ob "com/example/ranked_odds/rankedodds/eval/JudgedRanking" "judged" "[I" .null := D30 (Or.inr (hw _ (List.mem_of_getElem? (i := 19) rfl))) (ty := (.array .int)) (by decide)
      show G T30 (mkF m 77 #[.val (.int a), .val (.int b), .val (.int cc), .val (.int dd), .val (.int nn), .val (.int r), .val (.int (2 : Int32)), .val (.ref jd), .val (.ref rv), .unset, .unset] [(.ref ob)])
      refine hs.go (fun _ kk_ => XS.dup X30.here hx rfl (hb hby at_77) rfl rfl kk_) ?_
      show G T30 (mkF m 78 #[.val (.int a), .val (.int b), .val (.int cc), .val (.int dd), .val (.int nn), .val (.int r), .val (.int (2 : Int32)), .val (.ref jd), .val (.ref rv), .unset, .unset] [(.ref ob), (.ref ob)])
      refine hs.go (fun _ kk_ => XS.aload X30.here hx rfl (hb hby at_78) rfl rfl kk_) ?_
      show G T30 (mkF m 80 #[.val (.int a), .val (.int b), .val (.int cc), .val (.int dd), .val (.int nn), .val (.int r), .val (.int (2 : Int32)), .val (.ref jd), .val (.ref rv), .unset, .unset] [(.ref rv), (.ref ob), (.ref ob)])
      refine hs.go (fun _ kk_ => XS.aload X30.here hx rfl (hb hby at_80) rfl rfl kk_) ?_
      show G T30 (mkF m 82 #[.val (.int a), .val (.int b), .val (.int cc), .val (.int dd), .val (.int nn), .val (.int r), .val (.int (2 : Int32)), .val (.ref jd), .val (.ref rv), .unset, .unset] [(.ref jd), (.ref rv), (.ref ob), (.ref ob)])
      refine rCallI hs X30 hx hZ (as' := [(.ref rv), (.ref jd)]) (rm1 l Z a0 hw [] ob rv jd h30 n0 Z0 E_ob g_ob F_relevance_ob F_judged_ob) rfl hown (hw _ (List.mem_of_getElem? (i := 5) rfl)) (hw _ (List.mem_of_getElem? (i := 6) rfl)) (hw _ (List.mem_of_getElem? (i := 4) rfl)) (hw _ (List.mem_of_getElem? (i := 7) rfl)) hy_1 rfl (by rw [hml]; rfl) [(.ref ob)] (lenOf pd_1 rfl) rfl 1 (by show 2 * 0 + _ ≤ _; exact Nat.le_of_eq rfl) (hb hby at_82) (by decide) (by decide) (by decide) (by decide) (fun r31 T31 h31 X31 q31 => ?_)
      obtain ⟨rfl, Kc31, E_ob, F_judged_ob⟩ := q31
      have Z0 := Nat.le_trans Z0 Kc31.1
      have V_jd := V_jd.keep Kc31 (ninS ne_jd_ob nin0)
      have V_rv := V_rv.keep Kc31 (ninS ne_rv_ob nin0)
      show G T31 (mkF m 85 #[.val (.int a), .val (.int b), .val (.int cc), .val (.int dd), .val (.int nn), .val (.int r), .val (.int (2 : Int32)), .val (.ref jd), .val (.ref rv), .unset, .unset] [(.ref ob)])
      refine hs.go (fun _ kk_ => XS.astore X31.here hx rfl (hb hby at_85) rfl rfl (l' := #[.val (.int a), .val (.int b), .val (.int cc), .val (.int dd), .val (.int nn), .val (.int r), .val (.int (2 : Int32)), .val (.ref jd), .val (.ref rv), .val (.ref ob), .unset]) rfl kk_) ?_
      show G T31 (mkF m 87 #[.val (.int a), .val (.int b), .val (.int cc), .val (.int dd), .val (.int nn), .val (.int r), .val (.int (2 : Int32)), .val (.ref jd), .val (.ref rv), .val (.ref ob), .unset] [])
      refine hs.go (fun _ kk_ => XS.iload X31.here hx rfl (hb hby at_87) rfl  kk_) ?_
      show G T31 (mkF m 89 #[.val (.int a), .val (.int b), .val (.int cc), .val (.int dd), .val (.int nn), .val (.int r), .val (.int (2 : Int32)), .val (.ref jd), .val (.ref rv), .val (.ref ob), .unset] [(.int (2 : Int32))])
      refine hs.go (fun _ kk_ => XS.ifNo X31.here hx rfl (hb hby at_89) rfl ((if0 _ _).trans (tlt ((by decide) : (0 : Int32) < (2 : Int32))).2.2.2) kk_) ?_
      show G T31 (mkF m 92 #[.val (.int a), .val (.int b), .val (.int cc), .val (.int dd), .val (.int nn), .val (.int r), .val (.int (2 : Int32)), .val (.ref jd), .val (.ref rv), .val (.ref ob), .unset] [])
      refine hs.go (fun _ kk_ => XS.iconst X31.here hx rfl (hb hby at_92) kk_) ?_
      show G T31 (mkF m 93 #[.val (.int a), .val (.int b), .val (.int cc), .val (.int dd), .val (.int nn), .val (.int r), .val (.int (2 : Int32)), .val (.ref jd), .val (.ref rv), .val (.ref ob), .unset] [(.int (1 : Int32))])
      refine hs.go (fun _ kk_ => XS.goto X31.here hx rfl (pc0 := 93) (pc' := 97) rfl (hb hby at_93) (by decide) (by decide) kk_) ?_
      show G T31 (mkF m 97 #[.val (.int a), .val (.int b), .val (.int cc), .val (.int dd), .val (.int nn), .val (.int r), .val (.int (2 : Int32)), .val (.ref jd), .val (.ref rv), .val (.ref ob), .unset] [(.int (1 : Int32))])
      refine hs.go (fun _ kk_ => XS.iloadN X31.here hx rfl (hb hby at_97) rfl  kk_) ?_
      show G T31 (mkF m 98 #[.val (.int a), .val (.int b), .val (.int cc), .val (.int dd), .val (.int nn), .val (.int r), .val (.int (2 : Int32)), .val (.ref jd), .val (.ref rv), .val (.ref ob), .unset] [(.int a), (.int (1 : Int32))])
      refine rCallS hs X31 hx hZ (as' := [(.int (1 : Int32)), (.int a)]) (rm4 l Z a0 hw [] (1 : Int32) a h31 n0 Z0) hown (hw _ (List.mem_of_getElem? (i := 20) rfl)) (hw _ (List.mem_of_getElem? (i := 21) rfl)) (hw _ (List.mem_of_getElem? (i := 22) rfl)) (hw _ (List.mem_of_getElem? (i := 23) rfl)) hy_4 rfl (by rw [hml]; rfl) [] (lenOf pd_2 rfl) rfl 0 (by show 2 * 0 + _ ≤ _; exact Nat.le_of_eq rfl) (hb hby at_98) (by decide) (by decide) (by decide) (by decide) (fun r32 T32 h32 X32 q32 => ?_)
      obtain ⟨rfl, qh32⟩ := q32
      rw [qh32] at X32
      show G T32 (mkF m 101 #[.val (.int a), .val (.int b), .val (.int cc), .val (.int dd), .val (.int nn), .val (.int r), .val (.int (2 : Int32)), .val (.ref jd), .val (.ref rv), .val (.ref ob), .unset] [(.int (f4 (1 : Int32) a))])
      refine hs.go (fun _ kk_ => XS.iload X32.here hx rfl (hb hby at_101) rfl  kk_) ?_
      show G T32 (mkF m 103 #[.val (.int a), .val (.int b), .val (.int cc), .val (.int dd), .val (.int nn), .val (.int r), .val (.int (2 : Int32)), .val (.ref jd), .val (.ref rv), .val (.ref ob), .unset] [(.int (2 : Int32)), (.int (f4 (1 : Int32) a))])
      refine hs.go (fun _ kk_ => XS.iconst X32.here hx rfl (hb hby at_103) kk_) ?_
      show G T32 (mkF m 104 #[.val (.int a), .val (.int b), .val (.int cc), .val (.int dd), .val (.int nn), .val (.int r), .val (.int (2 : Int32)), .val (.ref jd), .val (.ref rv), .val (.ref ob), .unset] [(.int (1 : Int32)), (.int (2 : Int32)), (.int (f4 (1 : Int32) a))])
      refine hs.go (fun _ kk_ => XS.icmpNo X32.here hx rfl (hb hby at_104) rfl (tlt ((by decide) : (1 : Int32) < (2 : Int32))).2.2.2 kk_) ?_
      show G T32 (mkF m 107 #[.val (.int a), .val (.int b), .val (.int cc), .val (.int dd), .val (.int nn), .val (.int r), .val (.int (2 : Int32)), .val (.ref jd), .val (.ref rv), .val (.ref ob), .unset] [(.int (f4 (1 : Int32) a))])
      refine hs.go (fun _ kk_ => XS.iconst X32.here hx rfl (hb hby at_107) kk_) ?_
      show G T32 (mkF m 108 #[.val (.int a), .val (.int b), .val (.int cc), .val (.int dd), .val (.int nn), .val (.int r), .val (.int (2 : Int32)), .val (.ref jd), .val (.ref rv), .val (.ref ob), .unset] [(.int (1 : Int32)), (.int (f4 (1 : Int32) a))])
      refine hs.go (fun _ kk_ => XS.goto X32.here hx rfl (pc0 := 108) (pc' := 112) rfl (hb hby at_108) (by decide) (by decide) kk_) ?_
      show G T32 (mkF m 112 #[.val (.int a), .val (.int b), .val (.int cc), .val (.int dd), .val (.int nn), .val (.int r), .val (.int (2 : Int32)), .val (.ref jd), .val (.ref rv), .val (.ref ob), .unset] [(.int (1 : Int32)), (.int (f4 (1 : Int32) a))])
      refine hs.go (fun _ kk_ => XS.iloadN X32.here hx rfl (hb hby at_112) rfl  kk_) ?_
      show G T32 (mkF m 113 #[.val (.int a), .val (.int b), .val (.int cc), .val (.int dd), .val (.int nn), .val (.int r), .val (.int (2 : Int32)), .val (.ref jd), .val (.ref rv), .val (.ref ob), .unset] [(.int b), (.int (1 : Int32)), (.int (f4 (1 : Int32) a))])
      refine rCallS hs X32 hx hZ (as' := [(.int (1 : Int32)), (.int b)]) (rm4 l Z a0 hw [] (1 : Int32) b h31 n0 Z0) hown (hw _ (List.mem_of_getElem? (i := 20) rfl)) (hw _ (List.mem_of_getElem? (i := 21) rfl)) (hw _ (List.mem_of_getElem? (i := 22) rfl)) (hw _ (List.mem_of_getElem? (i := 23) rfl)) hy_4 rfl (by rw [hml]; rfl) [(.int (f4 (1 : Int32) a))] (lenOf pd_2 rfl) rfl 1 (by show 2 * 0 + _ ≤ _; exact Nat.le_of_eq rfl) (hb hby at_113) (by decide) (by decide) (by decide) (by decide) (fun r33 T33 h33 X33 q33 => ?_)
      obtain ⟨rfl, qh33⟩ := q33
      rw [qh33] at X33
      show G T33 (mkF m 116 #[.val (.int a), .val (.int b), .val (.int cc), .val (.int dd), .val (.int nn), .val (.int r), .val (.int (2 : Int32)), .val (.ref jd), .val (.ref rv), .val (.ref ob), .unset] [(.int (f4 (1 : Int32) b)), (.int (f4 (1 : Int32) a))])
      refine hs.go (fun _ kk_ => XS.iadd X33.here hx rfl (hb hby at_116) rfl kk_) ?_
      show G T33 (mkF m 117 #[.val (.int a), .val (.int b), .val (.int cc), .val (.int dd), .val (.int nn), .val (.int r), .val (.int (2 : Int32)), .val (.ref jd), .val (.ref rv), .val (.ref ob), .unset] [(.int ((f4 (1 : Int32) a) + (f4 (1 : Int32) b)))])
      refine hs.go (fun _ kk_ => XS.iload X33.here hx rfl (hb hby at_117) rfl  kk_) ?_
      show G T33 (mkF m 119 #[.val (.int a), .val (.int b), .val (.int cc), .val (.int dd), .val (.int nn), .val (.int r), .val (.int (2 : Int32)), .val (.ref jd), .val (.ref rv), .val (.ref ob), .unset] [(.int (2 : Int32)), (.int ((f4 (1 : Int32) a) + (f4 (1 : Int32) b)))])
      refine hs.go (fun _ kk_ => XS.iconst X33.here hx rfl (hb hby at_119) kk_) ?_
      show G T33 (mkF m 120 #[.val (.int a), .val (.int b), .val (.int cc), .val (.int dd), .val (.int nn), .val (.int r), .val (.int (2 : Int32)), .val (.ref jd), .val (.ref rv), .val (.ref ob), .unset] [(.int (2 : Int32)), (.int (2 : Int32)), (.int ((f4 (1 : Int32) a) + (f4 (1 : Int32) b)))])
      refine hs.go (fun _ kk_ => XS.icmpYes X33.here hx rfl (pc0 := 120) (pc' := 127) rfl (hb hby at_120) rfl (flt ((by decide) : ¬ ((2 : Int32) < (2 : Int32)))).2.2.2 (by decide) (by decide) kk_) ?_
      show G T33 (mkF m 127 #[.val (.int a), .val (.int b), .val (.int cc), .val (.int dd), .val (.int nn), .val (.int r), .val (.int (2 : Int32)), .val (.ref jd), .val (.ref rv), .val (.ref ob), .unset] [(.int ((f4 (1 : Int32) a) + (f4 (1 : Int32) b)))])
      refine hs.go (fun _ kk_ => XS.iconst X33.here hx rfl (hb hby at_127) kk_) ?_
      show G T33 (mkF m 128 #[.val (.int a), .val (.int b), .val (.int cc), .val (.int dd), .val (.int nn), .val (.int r), .val (.int (2 : Int32)), .val (.ref jd), .val (.ref rv), .val (.ref ob), .unset] [(.int (0 : Int32)), (.int ((f4 (1 : Int32) a) + (f4 (1 : Int32) b)))])
      refine hs.go (fun _ kk_ => XS.iloadN X33.here hx rfl (hb hby at_128) rfl  kk_) ?_
      show G T33 (mkF m 129 #[.val (.int a), .val (.int b), .val (.int cc), .val (.int dd), .val (.int nn), .val (.int r), .val (.int (2 : Int32)), .val (.ref jd), .val (.ref rv), .val (.ref ob), .unset] [(.int cc), (.int (0 : Int32)), (.int ((f4 (1 : Int32) a) + (f4 (1 : Int32) b)))])
      refine rCallS hs X33 hx hZ (as' := [(.int (0 : Int32)), (.int cc)]) (rm4 l Z a0 hw [] (0 : Int32) cc h31 n0 Z0) hown (hw _ (List.mem_of_getElem? (i := 20) rfl)) (hw _ (List.mem_of_getElem? (i := 21) rfl)) (hw _ (List.mem_of_getElem? (i := 22) rfl)) (hw _ (List.mem_of_getElem? (i := 23) rfl)) hy_4 rfl (by rw [hml]; rfl) [(.int ((f4 (1 : Int32) a) + (f4 (1 : Int32) b)))] (lenOf pd_2 rfl) rfl 1 (by show 2 * 0 + _ ≤ _; exact Nat.le_of_eq rfl) (hb hby at_129) (by decide) (by decide) (by decide) (by decide) (fun r34 T34 h34 X34 q34 => ?_)
      obtain ⟨rfl, qh34⟩ := q34
      rw [qh34] at X34
      show G T34 (mkF m 132 #[.val (.int a), .val (.int b), .val (.int cc), .val (.int dd), .val (.int nn), .val (.int r), .val (.int (2 : Int32)), .val (.ref jd), .val (.ref rv), .val (.ref ob), .unset] [(.int (f4 (0 : Int32) cc)), (.int ((f4 (1 : Int32) a) + (f4 (1 : Int32) b)))])
      refine hs.go (fun _ kk_ => XS.iadd X34.here hx rfl (hb hby at_132) rfl kk_) ?_
      show G T34 (mkF m 133 #[.val (.int a), .val (.int b), .val (.int cc), .val (.int dd), .val (.int nn), .val (.int r), .val (.int (2 : Int32)), .val (.ref jd), .val (.ref rv), .val (.ref ob), .unset] [(.int (((f4 (1 : Int32) a) + (f4 (1 : Int32) b)) + (f4 (0 : Int32) cc)))])
      refine hs.go (fun _ kk_ => XS.iload X34.here hx rfl (hb hby at_133) rfl  kk_) ?_
      show G T34 (mkF m 135 #[.val (.int a), .val (.int b), .val (.int cc), .val (.int dd), .val (.int nn), .val (.int r), .val (.int (2 : Int32)), .val (.ref jd), .val (.ref rv), .val (.ref ob), .unset] [(.int (2 : Int32)), (.int (((f4 (1 : Int32) a) + (f4 (1 : Int32) b)) + (f4 (0 : Int32) cc)))])
      refine hs.go (fun _ kk_ => XS.iconst X34.here hx rfl (hb hby at_135) kk_) ?_
      show G T34 (mkF m 136 #[.val (.int a), .val (.int b), .val (.int cc), .val (.int dd), .val (.int nn), .val (.int r), .val (.int (2 : Int32)), .val (.ref jd), .val (.ref rv), .val (.ref ob), .unset] [(.int (3 : Int32)), (.int (2 : Int32)), (.int (((f4 (1 : Int32) a) + (f4 (1 : Int32) b)) + (f4 (0 : Int32) cc)))])
      refine hs.go (fun _ kk_ => XS.icmpYes X34.here hx rfl (pc0 := 136) (pc' := 143) rfl (hb hby at_136) rfl (flt ((by decide) : ¬ ((3 : Int32) < (2 : Int32)))).2.2.2 (by decide) (by decide) kk_) ?_
      show G T34 (mkF m 143 #[.val (.int a), .val (.int b), .val (.int cc), .val (.int dd), .val (.int nn), .val (.int r), .val (.int (2 : Int32)), .val (.ref jd), .val (.ref rv), .val (.ref ob), .unset] [(.int (((f4 (1 : Int32) a) + (f4 (1 : Int32) b)) + (f4 (0 : Int32) cc)))])
      refine hs.go (fun _ kk_ => XS.iconst X34.here hx rfl (hb hby at_143) kk_) ?_
      show G T34 (mkF m 144 #[.val (.int a), .val (.int b), .val (.int cc), .val (.int dd), .val (.int nn), .val (.int r), .val (.int (2 : Int32)), .val (.ref jd), .val (.ref rv), .val (.ref ob), .unset] [(.int (0 : Int32)), (.int (((f4 (1 : Int32) a) + (f4 (1 : Int32) b)) + (f4 (0 : Int32) cc)))])
      refine hs.go (fun _ kk_ => XS.iloadN X34.here hx rfl (hb hby at_144) rfl  kk_) ?_
      show G T34 (mkF m 145 #[.val (.int a), .val (.int b), .val (.int cc), .val (.int dd), .val (.int nn), .val (.int r), .val (.int (2 : Int32)), .val (.ref jd), .val (.ref rv), .val (.ref ob), .unset] [(.int dd), (.int (0 : Int32)), (.int (((f4 (1 : Int32) a) + (f4 (1 : Int32) b)) + (f4 (0 : Int32) cc)))])
      refine rCallS hs X34 hx hZ (as' := [(.int (0 : Int32)), (.int dd)]) (rm4 l Z a0 hw [] (0 : Int32) dd h31 n0 Z0) hown (hw _ (List.mem_of_getElem? (i := 20) rfl)) (hw _ (List.mem_of_getElem? (i := 21) rfl)) (hw _ (List.mem_of_getElem? (i := 22) rfl)) (hw _ (List.mem_of_getElem? (i := 23) rfl)) hy_4 rfl (by rw [hml]; rfl) [(.int (((f4 (1 : Int32) a) + (f4 (1 : Int32) b)) + (f4 (0 : Int32) cc)))] (lenOf pd_2 rfl) rfl 1 (by show 2 * 0 + _ ≤ _; exact Nat.le_of_eq rfl) (hb hby at_145) (by decide) (by decide) (by decide) (by decide) (fun r35 T35 h35 X35 q35 => ?_)
      obtain ⟨rfl, qh35⟩ := q35
      rw [qh35] at X35
      show G T35 (mkF m 148 #[.val (.int a), .val (.int b), .val (.int cc), .val (.int dd), .val (.int nn), .val (.int r), .val (.int (2 : Int32)), .val (.ref jd), .val (.ref rv), .val (.ref ob), .unset] [(.int (f4 (0 : Int32) dd)), (.int (((f4 (1 : Int32) a) + (f4 (1 : Int32) b)) + (f4 (0 : Int32) cc)))])
      refine hs.go (fun _ kk_ => XS.iadd X35.here hx rfl (hb hby at_148) rfl kk_) ?_
      show G T35 (mkF m 149 #[.val (.int a), .val (.int b), .val (.int cc), .val (.int dd), .val (.int nn), .val (.int r), .val (.int (2 : Int32)), .val (.ref jd), .val (.ref rv), .val (.ref ob), .unset] [(.int ((((f4 (1 : Int32) a) + (f4 (1 : Int32) b)) + (f4 (0 : Int32) cc)) + (f4 (0 : Int32) dd)))])
      refine nameIt (P := fun zz_ : Int32 => G T35 (mkF m 149 #[.val (.int a), .val (.int b), .val (.int cc), .val (.int dd), .val (.int nn), .val (.int r), .val (.int (2 : Int32)), .val (.ref jd), .val (.ref rv), .val (.ref ob), .unset] [(.int zz_)])) ((((f4 (1 : Int32) a) + (f4 (1 : Int32) b)) + (f4 (0 : Int32) cc)) + (f4 (0 : Int32) dd)) (fun ex hex => ?_)
      show G T35 (mkF m 149 #[.val (.int a), .val (.int b), .val (.int cc), .val (.int dd), .val (.int nn), .val (.int r), .val (.int (2 : Int32)), .val (.ref jd), .val (.ref rv), .val (.ref ob), .unset] [(.int ex)])
      refine hs.go (fun _ kk_ => XS.istore X35.here hx rfl (hb hby at_149) rfl (l' := #[.val (.int a), .val (.int b), .val (.int cc), .val (.int dd), .val (.int nn), .val (.int r), .val (.int (2 : Int32)), .val (.ref jd), .val (.ref rv), .val (.ref ob), .val (.int ex)]) rfl kk_) ?_
      show G T35 (mkF m 151 #[.val (.int a), .val (.int b), .val (.int cc), .val (.int dd), .val (.int nn), .val (.int r), .val (.int (2 : Int32)), .val (.ref jd), .val (.ref rv), .val (.ref ob), .val (.int ex)] [])
      refine hs.go (fun _ kk_ => XS.aload X35.here hx rfl (hb hby at_151) rfl rfl kk_) ?_
      show G T35 (mkF m 153 #[.val (.int a), .val (.int b), .val (.int cc), .val (.int dd), .val (.int nn), .val (.int r), .val (.int (2 : Int32)), .val (.ref jd), .val (.ref rv), .val (.ref ob), .val (.int ex)] [(.ref ob)])
      refine rCallV hs X35 hx hZ (as' := []) (rm5 l Z a0 hw [] ob jd (2 : Int32) [a, b] k24 h31 n0 Z0 F_judged_ob V_jd rfl) E_ob hown (hw _ (List.mem_of_getElem? (i := 24) rfl)) (hw _ (List.mem_of_getElem? (i := 25) rfl)) (hw _ (List.mem_of_getElem? (i := 27) rfl)) (hw _ (List.mem_of_getElem? (i := 26) rfl)) (hw _ (List.mem_of_getElem? (i := 4) rfl)) (hw _ (List.mem_of_getElem? (i := 28) rfl)) hy_5 rfl (by rw [hml]; rfl) [] (lenOf pd_3 rfl) rfl 0 (by show 2 * 0 + _ ≤ _; exact Nat.le_of_eq rfl) (hb hby at_153) (by decide) (by decide) (by decide) (by decide) (fun r36 T36 h36 X36 q36 => ?_)
      obtain ⟨rfl, qh36⟩ := q36
      rw [qh36] at X36
      show G T36 (mkF m 156 #[.val (.int a), .val (.int b), .val (.int cc), .val (.int dd), .val (.int nn), .val (.int r), .val (.int (2 : Int32)), .val (.ref jd), .val (.ref rv), .val (.ref ob), .val (.int ex)] [(.int (cpos [a, b] 0))])
      refine hs.go (fun _ kk_ => XS.iload X36.here hx rfl (hb hby at_156) rfl  kk_) ?_
      show G T36 (mkF m 158 #[.val (.int a), .val (.int b), .val (.int cc), .val (.int dd), .val (.int nn), .val (.int r), .val (.int (2 : Int32)), .val (.ref jd), .val (.ref rv), .val (.ref ob), .val (.int ex)] [(.int ex), (.int (cpos [a, b] 0))])
      refine hs.go (fun _ kk_ => XS.icmpNo X36.here hx rfl (hb hby at_158) rfl (teq (own_l2 a b cc dd hex : (cpos [a, b] 0) = ex)).2 kk_) ?_
      show G T36 (mkF m 161 #[.val (.int a), .val (.int b), .val (.int cc), .val (.int dd), .val (.int nn), .val (.int r), .val (.int (2 : Int32)), .val (.ref jd), .val (.ref rv), .val (.ref ob), .val (.int ex)] [])
      refine hs.go (fun _ kk_ => XS.iconst X36.here hx rfl (hb hby at_161) kk_) ?_
      show G T36 (mkF m 162 #[.val (.int a), .val (.int b), .val (.int cc), .val (.int dd), .val (.int nn), .val (.int r), .val (.int (2 : Int32)), .val (.ref jd), .val (.ref rv), .val (.ref ob), .val (.int ex)] [(.int (1 : Int32))])
      refine hs.go (fun _ kk_ => XS.goto X36.here hx rfl (pc0 := 162) (pc' := 166) rfl (hb hby at_162) (by decide) (by decide) kk_) ?_
      show G T36 (mkF m 166 #[.val (.int a), .val (.int b), .val (.int cc), .val (.int dd), .val (.int nn), .val (.int r), .val (.int (2 : Int32)), .val (.ref jd), .val (.ref rv), .val (.ref ob), .val (.int ex)] [(.int (1 : Int32))])
      exact rRetN fin X36 hx (by decide) (by decide) hret (by simp) (hb hby at_166) (z' := (1 : Int32)) (by decide) rfl
  · show G s₁ (mkF m 9 #[.val (.int a), .val (.int b), .val (.int cc), .val (.int dd), .val (.int nn), .val (.int r), .val (.int (3 : Int32)), .unset, .unset, .unset, .unset] [])
    refine hs.go (fun _ kk_ => XS.iload X0.here hx rfl (hb hby at_9) rfl  kk_) ?_
    show G s₁ (mkF m 11 #[.val (.int a), .val (.int b), .val (.int cc), .val (.int dd), .val (.int nn), .val (.int r), .val (.int (3 : Int32)), .unset, .unset, .unset, .unset] [(.int (3 : Int32))])
    refine rNewP hs X0 hx hZ (hw _ (List.mem_of_getElem? (i := 1) rfl)) rfl (hb hby at_11) rfl (by decide) 3 3 (by decide) (by decide) (by decide) (by decide) (fun T37 h37 k37 jd g37 X37 E37 V_jd => ?_)
    have V_jd : Arv Z h37 jd k37 .int (3 : Int32) [(.int (0 : Int32)), (.int (0 : Int32)), (.int (0 : Int32))] (.int (0 : Int32)) := V_jd
    have g_jd : n0 ≤ jd := by rw [g37]; exact Z0
    have Z0 := Nat.le_trans Z0 E37.1
    show G T37 (mkF m 13 #[.val (.int a), .val (.int b), .val (.int cc), .val (.int dd), .val (.int nn), .val (.int r), .val (.int (3 : Int32)), .unset, .unset, .unset, .unset] [(.ref jd)])
    refine hs.go (fun _ kk_ => XS.astore X37.here hx rfl (hb hby at_13) rfl rfl (l' := #[.val (.int a), .val (.int b), .val (.int cc), .val (.int dd), .val (.int nn), .val (.int r), .val (.int (3 : Int32)), .val (.ref jd), .unset, .unset, .unset]) rfl kk_) ?_
    show G T37 (mkF m 15 #[.val (.int a), .val (.int b), .val (.int cc), .val (.int dd), .val (.int nn), .val (.int r), .val (.int (3 : Int32)), .val (.ref jd), .unset, .unset, .unset] [])
    refine hs.go (fun _ kk_ => XS.iload X37.here hx rfl (hb hby at_15) rfl  kk_) ?_
    show G T37 (mkF m 17 #[.val (.int a), .val (.int b), .val (.int cc), .val (.int dd), .val (.int nn), .val (.int r), .val (.int (3 : Int32)), .val (.ref jd), .unset, .unset, .unset] [(.int (3 : Int32))])
    refine hs.go (fun _ kk_ => XS.ifNo X37.here hx rfl (hb hby at_17) rfl ((if0 _ _).trans (tlt ((by decide) : (0 : Int32) < (3 : Int32))).2.2.2) kk_) ?_
    show G T37 (mkF m 20 #[.val (.int a), .val (.int b), .val (.int cc), .val (.int dd), .val (.int nn), .val (.int r), .val (.int (3 : Int32)), .val (.ref jd), .unset, .unset, .unset] [])
    refine hs.go (fun _ kk_ => XS.aload X37.here hx rfl (hb hby at_20) rfl rfl kk_) ?_
    show G T37 (mkF m 22 #[.val (.int a), .val (.int b), .val (.int cc), .val (.int dd), .val (.int nn), .val (.int r), .val (.int (3 : Int32)), .val (.ref jd), .unset, .unset, .unset] [(.ref jd)])
    refine hs.go (fun _ kk_ => XS.iconst X37.here hx rfl (hb hby at_22) kk_) ?_
    show G T37 (mkF m 23 #[.val (.int a), .val (.int b), .val (.int cc), .val (.int dd), .val (.int nn), .val (.int r), .val (.int (3 : Int32)), .val (.ref jd), .unset, .unset, .unset] [(.int (0 : Int32)), (.ref jd)])
    refine hs.go (fun _ kk_ => XS.iloadN X37.here hx rfl (hb hby at_23) rfl  kk_) ?_
    show G T37 (mkF m 24 #[.val (.int a), .val (.int b), .val (.int cc), .val (.int dd), .val (.int nn), .val (.int r), .val (.int (3 : Int32)), .val (.ref jd), .unset, .unset, .unset] [(.int a), (.int (0 : Int32)), (.ref jd)])
    refine rStI hs X37 hx hZ V_jd g_jd ⟨by decide, by decide⟩ 0 (by decide) (by simp) rfl rfl (hb hby at_24) (fun T38 h38 X38 W38 V_jd => ?_)
    have V_jd : Arv Z h38 jd k37 .int (3 : Int32) [(.int a), (.int (0 : Int32)), (.int (0 : Int32))] (.int (0 : Int32)) := V_jd
    have Z0 := Nat.le_trans Z0 (Keep.of_wr W38).1
    show G T38 (mkF m 25 #[.val (.int a), .val (.int b), .val (.int cc), .val (.int dd), .val (.int nn), .val (.int r), .val (.int (3 : Int32)), .val (.ref jd), .unset, .unset, .unset] [])
    refine hs.go (fun _ kk_ => XS.iload X38.here hx rfl (hb hby at_25) rfl  kk_) ?_
    show G T38 (mkF m 27 #[.val (.int a), .val (.int b), .val (.int cc), .val (.int dd), .val (.int nn), .val (.int r), .val (.int (3 : Int32)), .val (.ref jd), .unset, .unset, .unset] [(.int (3 : Int32))])
    refine hs.go (fun _ kk_ => XS.iconst X38.here hx rfl (hb hby at_27) kk_) ?_
    show G T38 (mkF m 28 #[.val (.int a), .val (.int b), .val (.int cc), .val (.int dd), .val (.int nn), .val (.int r), .val (.int (3 : Int32)), .val (.ref jd), .unset, .unset, .unset] [(.int (1 : Int32)), (.int (3 : Int32))])
    refine hs.go (fun _ kk_ => XS.icmpNo X38.here hx rfl (hb hby at_28) rfl (tlt ((by decide) : (1 : Int32) < (3 : Int32))).2.2.2 kk_) ?_
    show G T38 (mkF m 31 #[.val (.int a), .val (.int b), .val (.int cc), .val (.int dd), .val (.int nn), .val (.int r), .val (.int (3 : Int32)), .val (.ref jd), .unset, .unset, .unset] [])
    refine hs.go (fun _ kk_ => XS.aload X38.here hx rfl (hb hby at_31) rfl rfl kk_) ?_
    show G T38 (mkF m 33 #[.val (.int a), .val (.int b), .val (.int cc), .val (.int dd), .val (.int nn), .val (.int r), .val (.int (3 : Int32)), .val (.ref jd), .unset, .unset, .unset] [(.ref jd)])
    refine hs.go (fun _ kk_ => XS.iconst X38.here hx rfl (hb hby at_33) kk_) ?_
    show G T38 (mkF m 34 #[.val (.int a), .val (.int b), .val (.int cc), .val (.int dd), .val (.int nn), .val (.int r), .val (.int (3 : Int32)), .val (.ref jd), .unset, .unset, .unset] [(.int (1 : Int32)), (.ref jd)])
    refine hs.go (fun _ kk_ => XS.iloadN X38.here hx rfl (hb hby at_34) rfl  kk_) ?_
    show G T38 (mkF m 35 #[.val (.int a), .val (.int b), .val (.int cc), .val (.int dd), .val (.int nn), .val (.int r), .val (.int (3 : Int32)), .val (.ref jd), .unset, .unset, .unset] [(.int b), (.int (1 : Int32)), (.ref jd)])
    refine rStI hs X38 hx hZ V_jd g_jd ⟨by decide, by decide⟩ 1 (by decide) (by simp) rfl rfl (hb hby at_35) (fun T39 h39 X39 W39 V_jd => ?_)
    have V_jd : Arv Z h39 jd k37 .int (3 : Int32) [(.int a), (.int b), (.int (0 : Int32))] (.int (0 : Int32)) := V_jd
    have Z0 := Nat.le_trans Z0 (Keep.of_wr W39).1
    show G T39 (mkF m 36 #[.val (.int a), .val (.int b), .val (.int cc), .val (.int dd), .val (.int nn), .val (.int r), .val (.int (3 : Int32)), .val (.ref jd), .unset, .unset, .unset] [])
    refine hs.go (fun _ kk_ => XS.iload X39.here hx rfl (hb hby at_36) rfl  kk_) ?_
    show G T39 (mkF m 38 #[.val (.int a), .val (.int b), .val (.int cc), .val (.int dd), .val (.int nn), .val (.int r), .val (.int (3 : Int32)), .val (.ref jd), .unset, .unset, .unset] [(.int (3 : Int32))])
    refine hs.go (fun _ kk_ => XS.iconst X39.here hx rfl (hb hby at_38) kk_) ?_
    show G T39 (mkF m 39 #[.val (.int a), .val (.int b), .val (.int cc), .val (.int dd), .val (.int nn), .val (.int r), .val (.int (3 : Int32)), .val (.ref jd), .unset, .unset, .unset] [(.int (2 : Int32)), (.int (3 : Int32))])
    refine hs.go (fun _ kk_ => XS.icmpNo X39.here hx rfl (hb hby at_39) rfl (tlt ((by decide) : (2 : Int32) < (3 : Int32))).2.2.2 kk_) ?_
    show G T39 (mkF m 42 #[.val (.int a), .val (.int b), .val (.int cc), .val (.int dd), .val (.int nn), .val (.int r), .val (.int (3 : Int32)), .val (.ref jd), .unset, .unset, .unset] [])
    refine hs.go (fun _ kk_ => XS.aload X39.here hx rfl (hb hby at_42) rfl rfl kk_) ?_
    show G T39 (mkF m 44 #[.val (.int a), .val (.int b), .val (.int cc), .val (.int dd), .val (.int nn), .val (.int r), .val (.int (3 : Int32)), .val (.ref jd), .unset, .unset, .unset] [(.ref jd)])
    refine hs.go (fun _ kk_ => XS.iconst X39.here hx rfl (hb hby at_44) kk_) ?_
    show G T39 (mkF m 45 #[.val (.int a), .val (.int b), .val (.int cc), .val (.int dd), .val (.int nn), .val (.int r), .val (.int (3 : Int32)), .val (.ref jd), .unset, .unset, .unset] [(.int (2 : Int32)), (.ref jd)])
    refine hs.go (fun _ kk_ => XS.iloadN X39.here hx rfl (hb hby at_45) rfl  kk_) ?_
    show G T39 (mkF m 46 #[.val (.int a), .val (.int b), .val (.int cc), .val (.int dd), .val (.int nn), .val (.int r), .val (.int (3 : Int32)), .val (.ref jd), .unset, .unset, .unset] [(.int cc), (.int (2 : Int32)), (.ref jd)])
    refine rStI hs X39 hx hZ V_jd g_jd ⟨by decide, by decide⟩ 2 (by decide) (by simp) rfl rfl (hb hby at_46) (fun T40 h40 X40 W40 V_jd => ?_)
    have V_jd : Arv Z h40 jd k37 .int (3 : Int32) [(.int a), (.int b), (.int cc)] (.int (0 : Int32)) := V_jd
    have Z0 := Nat.le_trans Z0 (Keep.of_wr W40).1
    show G T40 (mkF m 47 #[.val (.int a), .val (.int b), .val (.int cc), .val (.int dd), .val (.int nn), .val (.int r), .val (.int (3 : Int32)), .val (.ref jd), .unset, .unset, .unset] [])
    refine hs.go (fun _ kk_ => XS.iload X40.here hx rfl (hb hby at_47) rfl  kk_) ?_
    show G T40 (mkF m 49 #[.val (.int a), .val (.int b), .val (.int cc), .val (.int dd), .val (.int nn), .val (.int r), .val (.int (3 : Int32)), .val (.ref jd), .unset, .unset, .unset] [(.int (3 : Int32))])
    refine hs.go (fun _ kk_ => XS.iconst X40.here hx rfl (hb hby at_49) kk_) ?_
    show G T40 (mkF m 50 #[.val (.int a), .val (.int b), .val (.int cc), .val (.int dd), .val (.int nn), .val (.int r), .val (.int (3 : Int32)), .val (.ref jd), .unset, .unset, .unset] [(.int (3 : Int32)), (.int (3 : Int32))])
    refine hs.go (fun _ kk_ => XS.icmpYes X40.here hx rfl (pc0 := 50) (pc' := 58) rfl (hb hby at_50) rfl (flt ((by decide) : ¬ ((3 : Int32) < (3 : Int32)))).2.2.2 (by decide) (by decide) kk_) ?_
    show G T40 (mkF m 58 #[.val (.int a), .val (.int b), .val (.int cc), .val (.int dd), .val (.int nn), .val (.int r), .val (.int (3 : Int32)), .val (.ref jd), .unset, .unset, .unset] [])
    refine hs.go (fun _ kk_ => XS.iconst X40.here hx rfl (hb hby at_58) kk_) ?_
    show G T40 (mkF m 59 #[.val (.int a), .val (.int b), .val (.int cc), .val (.int dd), .val (.int nn), .val (.int r), .val (.int (3 : Int32)), .val (.ref jd), .unset, .unset, .unset] [(.int (2 : Int32))])
    refine rNewP hs X40 hx hZ (hw _ (List.mem_of_getElem? (i := 1) rfl)) rfl (hb hby at_59) rfl (by decide) 2 2 (by decide) (by decide) (by decide) (by decide) (fun T41 h41 k41 rv g41 X41 E41 V_rv => ?_)
    have V_rv : Arv Z h41 rv k41 .int (2 : Int32) [(.int (0 : Int32)), (.int (0 : Int32))] (.int (0 : Int32)) := V_rv
    have g_rv : n0 ≤ rv := by rw [g41]; exact Z0
    have Z0 := Nat.le_trans Z0 E41.1
    have ne_jd_rv : jd ≠ rv := Nat.ne_of_lt (Nat.lt_of_lt_of_le V_jd.lt (Nat.le_of_eq g41.symm))
    have V_jd := V_jd.ext E41
    show G T41 (mkF m 61 #[.val (.int a), .val (.int b), .val (.int cc), .val (.int dd), .val (.int nn), .val (.int r), .val (.int (3 : Int32)), .val (.ref jd), .unset, .unset, .unset] [(.ref rv)])
    refine hs.go (fun _ kk_ => XS.astore X41.here hx rfl (hb hby at_61) rfl rfl (l' := #[.val (.int a), .val (.int b), .val (.int cc), .val (.int dd), .val (.int nn), .val (.int r), .val (.int (3 : Int32)), .val (.ref jd), .val (.ref rv), .unset, .unset]) rfl kk_) ?_
    show G T41 (mkF m 63 #[.val (.int a), .val (.int b), .val (.int cc), .val (.int dd), .val (.int nn), .val (.int r), .val (.int (3 : Int32)), .val (.ref jd), .val (.ref rv), .unset, .unset] [])
    refine hs.go (fun _ kk_ => XS.aload X41.here hx rfl (hb hby at_63) rfl rfl kk_) ?_
    show G T41 (mkF m 65 #[.val (.int a), .val (.int b), .val (.int cc), .val (.int dd), .val (.int nn), .val (.int r), .val (.int (3 : Int32)), .val (.ref jd), .val (.ref rv), .unset, .unset] [(.ref rv)])
    refine hs.go (fun _ kk_ => XS.iconst X41.here hx rfl (hb hby at_65) kk_) ?_
    show G T41 (mkF m 66 #[.val (.int a), .val (.int b), .val (.int cc), .val (.int dd), .val (.int nn), .val (.int r), .val (.int (3 : Int32)), .val (.ref jd), .val (.ref rv), .unset, .unset] [(.int (0 : Int32)), (.ref rv)])
    refine hs.go (fun _ kk_ => XS.iload X41.here hx rfl (hb hby at_66) rfl  kk_) ?_
    show G T41 (mkF m 68 #[.val (.int a), .val (.int b), .val (.int cc), .val (.int dd), .val (.int nn), .val (.int r), .val (.int (3 : Int32)), .val (.ref jd), .val (.ref rv), .unset, .unset] [(.int r), (.int (0 : Int32)), (.ref rv)])
    refine rStI hs X41 hx hZ V_rv g_rv ⟨by decide, by decide⟩ 0 (by decide) (by simp) rfl rfl (hb hby at_68) (fun T42 h42 X42 W42 V_rv => ?_)
    have V_rv : Arv Z h42 rv k41 .int (2 : Int32) [(.int r), (.int (0 : Int32))] (.int (0 : Int32)) := V_rv
    have V_jd := V_jd.other W42 ne_jd_rv
    have Z0 := Nat.le_trans Z0 (Keep.of_wr W42).1
    show G T42 (mkF m 69 #[.val (.int a), .val (.int b), .val (.int cc), .val (.int dd), .val (.int nn), .val (.int r), .val (.int (3 : Int32)), .val (.ref jd), .val (.ref rv), .unset, .unset] [])
    refine hs.go (fun _ kk_ => XS.aload X42.here hx rfl (hb hby at_69) rfl rfl kk_) ?_
    show G T42 (mkF m 71 #[.val (.int a), .val (.int b), .val (.int cc), .val (.int dd), .val (.int nn), .val (.int r), .val (.int (3 : Int32)), .val (.ref jd), .val (.ref rv), .unset, .unset] [(.ref rv)])
    refine hs.go (fun _ kk_ => XS.iconst X42.here hx rfl (hb hby at_71) kk_) ?_
    show G T42 (mkF m 72 #[.val (.int a), .val (.int b), .val (.int cc), .val (.int dd), .val (.int nn), .val (.int r), .val (.int (3 : Int32)), .val (.ref jd), .val (.ref rv), .unset, .unset] [(.int (1 : Int32)), (.ref rv)])
    refine hs.go (fun _ kk_ => XS.iloadN X42.here hx rfl (hb hby at_72) rfl  kk_) ?_
    show G T42 (mkF m 73 #[.val (.int a), .val (.int b), .val (.int cc), .val (.int dd), .val (.int nn), .val (.int r), .val (.int (3 : Int32)), .val (.ref jd), .val (.ref rv), .unset, .unset] [(.int a), (.int (1 : Int32)), (.ref rv)])
    refine rStI hs X42 hx hZ V_rv g_rv ⟨by decide, by decide⟩ 1 (by decide) (by simp) rfl rfl (hb hby at_73) (fun T43 h43 X43 W43 V_rv => ?_)
    have V_rv : Arv Z h43 rv k41 .int (2 : Int32) [(.int r), (.int a)] (.int (0 : Int32)) := V_rv
    have V_jd := V_jd.other W43 ne_jd_rv
    have Z0 := Nat.le_trans Z0 (Keep.of_wr W43).1
    show G T43 (mkF m 74 #[.val (.int a), .val (.int b), .val (.int cc), .val (.int dd), .val (.int nn), .val (.int r), .val (.int (3 : Int32)), .val (.ref jd), .val (.ref rv), .unset, .unset] [])
    as_aux_lemma =>
      refine rNewO hs X43 hx hZ hown (hw _ (List.mem_of_getElem? (i := 2) rfl)) (hw _ (List.mem_of_getElem? (i := 3) rfl)) (hw _ (List.mem_of_getElem? (i := 4) rfl)) rfl (hb hby at_74) (by decide) (by decide) (fun T44 h44 ob g44 X44 E44 E_ob D44 => ?_)
      have g_ob : n0 ≤ ob := by rw [g44]; exact Z0
      have Z0 := Nat.le_trans Z0 E44.1
      have ne_jd_ob : jd ≠ ob := Nat.ne_of_lt (Nat.lt_of_lt_of_le V_jd.lt (Nat.le_of_eq g44.symm))
      have ne_rv_ob : rv ≠ ob := Nat.ne_of_lt (Nat.lt_of_lt_of_le V_rv.lt (Nat.le_of_eq g44.symm))
      have V_jd := V_jd.ext E44
      have V_rv := V_rv.ext E44
      have F_relevance_ob : Fld Z h44 ob "com/example/ranked_odds/rankedodds/eval/JudgedRanking" "relevance" "[I" .null := D44 (Or.inr (hw _ (List.mem_of_getElem? (i := 17) rfl))) (ty := (.array .int)) (by decide)
      have F_judged_ob : Fld Z h44 ob "com/example/ranked_odds/rankedodds/eval/JudgedRanking" "judged" "[I" .null := D44 (Or.inr (hw _ (List.mem_of_getElem? (i := 19) rfl))) (ty := (.array .int)) (by decide)
      show G T44 (mkF m 77 #[.val (.int a), .val (.int b), .val (.int cc), .val (.int dd), .val (.int nn), .val (.int r), .val (.int (3 : Int32)), .val (.ref jd), .val (.ref rv), .unset, .unset] [(.ref ob)])
      refine hs.go (fun _ kk_ => XS.dup X44.here hx rfl (hb hby at_77) rfl rfl kk_) ?_
      show G T44 (mkF m 78 #[.val (.int a), .val (.int b), .val (.int cc), .val (.int dd), .val (.int nn), .val (.int r), .val (.int (3 : Int32)), .val (.ref jd), .val (.ref rv), .unset, .unset] [(.ref ob), (.ref ob)])
      refine hs.go (fun _ kk_ => XS.aload X44.here hx rfl (hb hby at_78) rfl rfl kk_) ?_
      show G T44 (mkF m 80 #[.val (.int a), .val (.int b), .val (.int cc), .val (.int dd), .val (.int nn), .val (.int r), .val (.int (3 : Int32)), .val (.ref jd), .val (.ref rv), .unset, .unset] [(.ref rv), (.ref ob), (.ref ob)])
      refine hs.go (fun _ kk_ => XS.aload X44.here hx rfl (hb hby at_80) rfl rfl kk_) ?_
      show G T44 (mkF m 82 #[.val (.int a), .val (.int b), .val (.int cc), .val (.int dd), .val (.int nn), .val (.int r), .val (.int (3 : Int32)), .val (.ref jd), .val (.ref rv), .unset, .unset] [(.ref jd), (.ref rv), (.ref ob), (.ref ob)])
      refine rCallI hs X44 hx hZ (as' := [(.ref rv), (.ref jd)]) (rm1 l Z a0 hw [] ob rv jd h44 n0 Z0 E_ob g_ob F_relevance_ob F_judged_ob) rfl hown (hw _ (List.mem_of_getElem? (i := 5) rfl)) (hw _ (List.mem_of_getElem? (i := 6) rfl)) (hw _ (List.mem_of_getElem? (i := 4) rfl)) (hw _ (List.mem_of_getElem? (i := 7) rfl)) hy_1 rfl (by rw [hml]; rfl) [(.ref ob)] (lenOf pd_1 rfl) rfl 1 (by show 2 * 0 + _ ≤ _; exact Nat.le_of_eq rfl) (hb hby at_82) (by decide) (by decide) (by decide) (by decide) (fun r45 T45 h45 X45 q45 => ?_)
      obtain ⟨rfl, Kc45, E_ob, F_judged_ob⟩ := q45
      have Z0 := Nat.le_trans Z0 Kc45.1
      have V_jd := V_jd.keep Kc45 (ninS ne_jd_ob nin0)
      have V_rv := V_rv.keep Kc45 (ninS ne_rv_ob nin0)
      show G T45 (mkF m 85 #[.val (.int a), .val (.int b), .val (.int cc), .val (.int dd), .val (.int nn), .val (.int r), .val (.int (3 : Int32)), .val (.ref jd), .val (.ref rv), .unset, .unset] [(.ref ob)])
      refine hs.go (fun _ kk_ => XS.astore X45.here hx rfl (hb hby at_85) rfl rfl (l' := #[.val (.int a), .val (.int b), .val (.int cc), .val (.int dd), .val (.int nn), .val (.int r), .val (.int (3 : Int32)), .val (.ref jd), .val (.ref rv), .val (.ref ob), .unset]) rfl kk_) ?_
      show G T45 (mkF m 87 #[.val (.int a), .val (.int b), .val (.int cc), .val (.int dd), .val (.int nn), .val (.int r), .val (.int (3 : Int32)), .val (.ref jd), .val (.ref rv), .val (.ref ob), .unset] [])
      refine hs.go (fun _ kk_ => XS.iload X45.here hx rfl (hb hby at_87) rfl  kk_) ?_
      show G T45 (mkF m 89 #[.val (.int a), .val (.int b), .val (.int cc), .val (.int dd), .val (.int nn), .val (.int r), .val (.int (3 : Int32)), .val (.ref jd), .val (.ref rv), .val (.ref ob), .unset] [(.int (3 : Int32))])
      refine hs.go (fun _ kk_ => XS.ifNo X45.here hx rfl (hb hby at_89) rfl ((if0 _ _).trans (tlt ((by decide) : (0 : Int32) < (3 : Int32))).2.2.2) kk_) ?_
      show G T45 (mkF m 92 #[.val (.int a), .val (.int b), .val (.int cc), .val (.int dd), .val (.int nn), .val (.int r), .val (.int (3 : Int32)), .val (.ref jd), .val (.ref rv), .val (.ref ob), .unset] [])
      refine hs.go (fun _ kk_ => XS.iconst X45.here hx rfl (hb hby at_92) kk_) ?_
      show G T45 (mkF m 93 #[.val (.int a), .val (.int b), .val (.int cc), .val (.int dd), .val (.int nn), .val (.int r), .val (.int (3 : Int32)), .val (.ref jd), .val (.ref rv), .val (.ref ob), .unset] [(.int (1 : Int32))])
      refine hs.go (fun _ kk_ => XS.goto X45.here hx rfl (pc0 := 93) (pc' := 97) rfl (hb hby at_93) (by decide) (by decide) kk_) ?_
      show G T45 (mkF m 97 #[.val (.int a), .val (.int b), .val (.int cc), .val (.int dd), .val (.int nn), .val (.int r), .val (.int (3 : Int32)), .val (.ref jd), .val (.ref rv), .val (.ref ob), .unset] [(.int (1 : Int32))])
      refine hs.go (fun _ kk_ => XS.iloadN X45.here hx rfl (hb hby at_97) rfl  kk_) ?_
      show G T45 (mkF m 98 #[.val (.int a), .val (.int b), .val (.int cc), .val (.int dd), .val (.int nn), .val (.int r), .val (.int (3 : Int32)), .val (.ref jd), .val (.ref rv), .val (.ref ob), .unset] [(.int a), (.int (1 : Int32))])
      refine rCallS hs X45 hx hZ (as' := [(.int (1 : Int32)), (.int a)]) (rm4 l Z a0 hw [] (1 : Int32) a h45 n0 Z0) hown (hw _ (List.mem_of_getElem? (i := 20) rfl)) (hw _ (List.mem_of_getElem? (i := 21) rfl)) (hw _ (List.mem_of_getElem? (i := 22) rfl)) (hw _ (List.mem_of_getElem? (i := 23) rfl)) hy_4 rfl (by rw [hml]; rfl) [] (lenOf pd_2 rfl) rfl 0 (by show 2 * 0 + _ ≤ _; exact Nat.le_of_eq rfl) (hb hby at_98) (by decide) (by decide) (by decide) (by decide) (fun r46 T46 h46 X46 q46 => ?_)
      obtain ⟨rfl, qh46⟩ := q46
      rw [qh46] at X46
      show G T46 (mkF m 101 #[.val (.int a), .val (.int b), .val (.int cc), .val (.int dd), .val (.int nn), .val (.int r), .val (.int (3 : Int32)), .val (.ref jd), .val (.ref rv), .val (.ref ob), .unset] [(.int (f4 (1 : Int32) a))])
      refine hs.go (fun _ kk_ => XS.iload X46.here hx rfl (hb hby at_101) rfl  kk_) ?_
      show G T46 (mkF m 103 #[.val (.int a), .val (.int b), .val (.int cc), .val (.int dd), .val (.int nn), .val (.int r), .val (.int (3 : Int32)), .val (.ref jd), .val (.ref rv), .val (.ref ob), .unset] [(.int (3 : Int32)), (.int (f4 (1 : Int32) a))])
      refine hs.go (fun _ kk_ => XS.iconst X46.here hx rfl (hb hby at_103) kk_) ?_
      show G T46 (mkF m 104 #[.val (.int a), .val (.int b), .val (.int cc), .val (.int dd), .val (.int nn), .val (.int r), .val (.int (3 : Int32)), .val (.ref jd), .val (.ref rv), .val (.ref ob), .unset] [(.int (1 : Int32)), (.int (3 : Int32)), (.int (f4 (1 : Int32) a))])
      refine hs.go (fun _ kk_ => XS.icmpNo X46.here hx rfl (hb hby at_104) rfl (tlt ((by decide) : (1 : Int32) < (3 : Int32))).2.2.2 kk_) ?_
      show G T46 (mkF m 107 #[.val (.int a), .val (.int b), .val (.int cc), .val (.int dd), .val (.int nn), .val (.int r), .val (.int (3 : Int32)), .val (.ref jd), .val (.ref rv), .val (.ref ob), .unset] [(.int (f4 (1 : Int32) a))])
      refine hs.go (fun _ kk_ => XS.iconst X46.here hx rfl (hb hby at_107) kk_) ?_
      show G T46 (mkF m 108 #[.val (.int a), .val (.int b), .val (.int cc), .val (.int dd), .val (.int nn), .val (.int r), .val (.int (3 : Int32)), .val (.ref jd), .val (.ref rv), .val (.ref ob), .unset] [(.int (1 : Int32)), (.int (f4 (1 : Int32) a))])
      refine hs.go (fun _ kk_ => XS.goto X46.here hx rfl (pc0 := 108) (pc' := 112) rfl (hb hby at_108) (by decide) (by decide) kk_) ?_
      show G T46 (mkF m 112 #[.val (.int a), .val (.int b), .val (.int cc), .val (.int dd), .val (.int nn), .val (.int r), .val (.int (3 : Int32)), .val (.ref jd), .val (.ref rv), .val (.ref ob), .unset] [(.int (1 : Int32)), (.int (f4 (1 : Int32) a))])
      refine hs.go (fun _ kk_ => XS.iloadN X46.here hx rfl (hb hby at_112) rfl  kk_) ?_
      show G T46 (mkF m 113 #[.val (.int a), .val (.int b), .val (.int cc), .val (.int dd), .val (.int nn), .val (.int r), .val (.int (3 : Int32)), .val (.ref jd), .val (.ref rv), .val (.ref ob), .unset] [(.int b), (.int (1 : Int32)), (.int (f4 (1 : Int32) a))])
      refine rCallS hs X46 hx hZ (as' := [(.int (1 : Int32)), (.int b)]) (rm4 l Z a0 hw [] (1 : Int32) b h45 n0 Z0) hown (hw _ (List.mem_of_getElem? (i := 20) rfl)) (hw _ (List.mem_of_getElem? (i := 21) rfl)) (hw _ (List.mem_of_getElem? (i := 22) rfl)) (hw _ (List.mem_of_getElem? (i := 23) rfl)) hy_4 rfl (by rw [hml]; rfl) [(.int (f4 (1 : Int32) a))] (lenOf pd_2 rfl) rfl 1 (by show 2 * 0 + _ ≤ _; exact Nat.le_of_eq rfl) (hb hby at_113) (by decide) (by decide) (by decide) (by decide) (fun r47 T47 h47 X47 q47 => ?_)
      obtain ⟨rfl, qh47⟩ := q47
      rw [qh47] at X47
      show G T47 (mkF m 116 #[.val (.int a), .val (.int b), .val (.int cc), .val (.int dd), .val (.int nn), .val (.int r), .val (.int (3 : Int32)), .val (.ref jd), .val (.ref rv), .val (.ref ob), .unset] [(.int (f4 (1 : Int32) b)), (.int (f4 (1 : Int32) a))])
      refine hs.go (fun _ kk_ => XS.iadd X47.here hx rfl (hb hby at_116) rfl kk_) ?_
      show G T47 (mkF m 117 #[.val (.int a), .val (.int b), .val (.int cc), .val (.int dd), .val (.int nn), .val (.int r), .val (.int (3 : Int32)), .val (.ref jd), .val (.ref rv), .val (.ref ob), .unset] [(.int ((f4 (1 : Int32) a) + (f4 (1 : Int32) b)))])
      refine hs.go (fun _ kk_ => XS.iload X47.here hx rfl (hb hby at_117) rfl  kk_) ?_
      show G T47 (mkF m 119 #[.val (.int a), .val (.int b), .val (.int cc), .val (.int dd), .val (.int nn), .val (.int r), .val (.int (3 : Int32)), .val (.ref jd), .val (.ref rv), .val (.ref ob), .unset] [(.int (3 : Int32)), (.int ((f4 (1 : Int32) a) + (f4 (1 : Int32) b)))])
      refine hs.go (fun _ kk_ => XS.iconst X47.here hx rfl (hb hby at_119) kk_) ?_
      show G T47 (mkF m 120 #[.val (.int a), .val (.int b), .val (.int cc), .val (.int dd), .val (.int nn), .val (.int r), .val (.int (3 : Int32)), .val (.ref jd), .val (.ref rv), .val (.ref ob), .unset] [(.int (2 : Int32)), (.int (3 : Int32)), (.int ((f4 (1 : Int32) a) + (f4 (1 : Int32) b)))])
      refine hs.go (fun _ kk_ => XS.icmpNo X47.here hx rfl (hb hby at_120) rfl (tlt ((by decide) : (2 : Int32) < (3 : Int32))).2.2.2 kk_) ?_
      show G T47 (mkF m 123 #[.val (.int a), .val (.int b), .val (.int cc), .val (.int dd), .val (.int nn), .val (.int r), .val (.int (3 : Int32)), .val (.ref jd), .val (.ref rv), .val (.ref ob), .unset] [(.int ((f4 (1 : Int32) a) + (f4 (1 : Int32) b)))])
      refine hs.go (fun _ kk_ => XS.iconst X47.here hx rfl (hb hby at_123) kk_) ?_
      show G T47 (mkF m 124 #[.val (.int a), .val (.int b), .val (.int cc), .val (.int dd), .val (.int nn), .val (.int r), .val (.int (3 : Int32)), .val (.ref jd), .val (.ref rv), .val (.ref ob), .unset] [(.int (1 : Int32)), (.int ((f4 (1 : Int32) a) + (f4 (1 : Int32) b)))])
      refine hs.go (fun _ kk_ => XS.goto X47.here hx rfl (pc0 := 124) (pc' := 128) rfl (hb hby at_124) (by decide) (by decide) kk_) ?_
      show G T47 (mkF m 128 #[.val (.int a), .val (.int b), .val (.int cc), .val (.int dd), .val (.int nn), .val (.int r), .val (.int (3 : Int32)), .val (.ref jd), .val (.ref rv), .val (.ref ob), .unset] [(.int (1 : Int32)), (.int ((f4 (1 : Int32) a) + (f4 (1 : Int32) b)))])
      refine hs.go (fun _ kk_ => XS.iloadN X47.here hx rfl (hb hby at_128) rfl  kk_) ?_
      show G T47 (mkF m 129 #[.val (.int a), .val (.int b), .val (.int cc), .val (.int dd), .val (.int nn), .val (.int r), .val (.int (3 : Int32)), .val (.ref jd), .val (.ref rv), .val (.ref ob), .unset] [(.int cc), (.int (1 : Int32)), (.int ((f4 (1 : Int32) a) + (f4 (1 : Int32) b)))])
      refine rCallS hs X47 hx hZ (as' := [(.int (1 : Int32)), (.int cc)]) (rm4 l Z a0 hw [] (1 : Int32) cc h45 n0 Z0) hown (hw _ (List.mem_of_getElem? (i := 20) rfl)) (hw _ (List.mem_of_getElem? (i := 21) rfl)) (hw _ (List.mem_of_getElem? (i := 22) rfl)) (hw _ (List.mem_of_getElem? (i := 23) rfl)) hy_4 rfl (by rw [hml]; rfl) [(.int ((f4 (1 : Int32) a) + (f4 (1 : Int32) b)))] (lenOf pd_2 rfl) rfl 1 (by show 2 * 0 + _ ≤ _; exact Nat.le_of_eq rfl) (hb hby at_129) (by decide) (by decide) (by decide) (by decide) (fun r48 T48 h48 X48 q48 => ?_)
      obtain ⟨rfl, qh48⟩ := q48
      rw [qh48] at X48
      show G T48 (mkF m 132 #[.val (.int a), .val (.int b), .val (.int cc), .val (.int dd), .val (.int nn), .val (.int r), .val (.int (3 : Int32)), .val (.ref jd), .val (.ref rv), .val (.ref ob), .unset] [(.int (f4 (1 : Int32) cc)), (.int ((f4 (1 : Int32) a) + (f4 (1 : Int32) b)))])
      refine hs.go (fun _ kk_ => XS.iadd X48.here hx rfl (hb hby at_132) rfl kk_) ?_
      show G T48 (mkF m 133 #[.val (.int a), .val (.int b), .val (.int cc), .val (.int dd), .val (.int nn), .val (.int r), .val (.int (3 : Int32)), .val (.ref jd), .val (.ref rv), .val (.ref ob), .unset] [(.int (((f4 (1 : Int32) a) + (f4 (1 : Int32) b)) + (f4 (1 : Int32) cc)))])
      refine hs.go (fun _ kk_ => XS.iload X48.here hx rfl (hb hby at_133) rfl  kk_) ?_
      show G T48 (mkF m 135 #[.val (.int a), .val (.int b), .val (.int cc), .val (.int dd), .val (.int nn), .val (.int r), .val (.int (3 : Int32)), .val (.ref jd), .val (.ref rv), .val (.ref ob), .unset] [(.int (3 : Int32)), (.int (((f4 (1 : Int32) a) + (f4 (1 : Int32) b)) + (f4 (1 : Int32) cc)))])
      refine hs.go (fun _ kk_ => XS.iconst X48.here hx rfl (hb hby at_135) kk_) ?_
      show G T48 (mkF m 136 #[.val (.int a), .val (.int b), .val (.int cc), .val (.int dd), .val (.int nn), .val (.int r), .val (.int (3 : Int32)), .val (.ref jd), .val (.ref rv), .val (.ref ob), .unset] [(.int (3 : Int32)), (.int (3 : Int32)), (.int (((f4 (1 : Int32) a) + (f4 (1 : Int32) b)) + (f4 (1 : Int32) cc)))])
      refine hs.go (fun _ kk_ => XS.icmpYes X48.here hx rfl (pc0 := 136) (pc' := 143) rfl (hb hby at_136) rfl (flt ((by decide) : ¬ ((3 : Int32) < (3 : Int32)))).2.2.2 (by decide) (by decide) kk_) ?_
      show G T48 (mkF m 143 #[.val (.int a), .val (.int b), .val (.int cc), .val (.int dd), .val (.int nn), .val (.int r), .val (.int (3 : Int32)), .val (.ref jd), .val (.ref rv), .val (.ref ob), .unset] [(.int (((f4 (1 : Int32) a) + (f4 (1 : Int32) b)) + (f4 (1 : Int32) cc)))])
      refine hs.go (fun _ kk_ => XS.iconst X48.here hx rfl (hb hby at_143) kk_) ?_
      show G T48 (mkF m 144 #[.val (.int a), .val (.int b), .val (.int cc), .val (.int dd), .val (.int nn), .val (.int r), .val (.int (3 : Int32)), .val (.ref jd), .val (.ref rv), .val (.ref ob), .unset] [(.int (0 : Int32)), (.int (((f4 (1 : Int32) a) + (f4 (1 : Int32) b)) + (f4 (1 : Int32) cc)))])
      refine hs.go (fun _ kk_ => XS.iloadN X48.here hx rfl (hb hby at_144) rfl  kk_) ?_
      show G T48 (mkF m 145 #[.val (.int a), .val (.int b), .val (.int cc), .val (.int dd), .val (.int nn), .val (.int r), .val (.int (3 : Int32)), .val (.ref jd), .val (.ref rv), .val (.ref ob), .unset] [(.int dd), (.int (0 : Int32)), (.int (((f4 (1 : Int32) a) + (f4 (1 : Int32) b)) + (f4 (1 : Int32) cc)))])
      refine rCallS hs X48 hx hZ (as' := [(.int (0 : Int32)), (.int dd)]) (rm4 l Z a0 hw [] (0 : Int32) dd h45 n0 Z0) hown (hw _ (List.mem_of_getElem? (i := 20) rfl)) (hw _ (List.mem_of_getElem? (i := 21) rfl)) (hw _ (List.mem_of_getElem? (i := 22) rfl)) (hw _ (List.mem_of_getElem? (i := 23) rfl)) hy_4 rfl (by rw [hml]; rfl) [(.int (((f4 (1 : Int32) a) + (f4 (1 : Int32) b)) + (f4 (1 : Int32) cc)))] (lenOf pd_2 rfl) rfl 1 (by show 2 * 0 + _ ≤ _; exact Nat.le_of_eq rfl) (hb hby at_145) (by decide) (by decide) (by decide) (by decide) (fun r49 T49 h49 X49 q49 => ?_)
      obtain ⟨rfl, qh49⟩ := q49
      rw [qh49] at X49
      show G T49 (mkF m 148 #[.val (.int a), .val (.int b), .val (.int cc), .val (.int dd), .val (.int nn), .val (.int r), .val (.int (3 : Int32)), .val (.ref jd), .val (.ref rv), .val (.ref ob), .unset] [(.int (f4 (0 : Int32) dd)), (.int (((f4 (1 : Int32) a) + (f4 (1 : Int32) b)) + (f4 (1 : Int32) cc)))])
      refine hs.go (fun _ kk_ => XS.iadd X49.here hx rfl (hb hby at_148) rfl kk_) ?_
      show G T49 (mkF m 149 #[.val (.int a), .val (.int b), .val (.int cc), .val (.int dd), .val (.int nn), .val (.int r), .val (.int (3 : Int32)), .val (.ref jd), .val (.ref rv), .val (.ref ob), .unset] [(.int ((((f4 (1 : Int32) a) + (f4 (1 : Int32) b)) + (f4 (1 : Int32) cc)) + (f4 (0 : Int32) dd)))])
      refine nameIt (P := fun zz_ : Int32 => G T49 (mkF m 149 #[.val (.int a), .val (.int b), .val (.int cc), .val (.int dd), .val (.int nn), .val (.int r), .val (.int (3 : Int32)), .val (.ref jd), .val (.ref rv), .val (.ref ob), .unset] [(.int zz_)])) ((((f4 (1 : Int32) a) + (f4 (1 : Int32) b)) + (f4 (1 : Int32) cc)) + (f4 (0 : Int32) dd)) (fun ex hex => ?_)
      show G T49 (mkF m 149 #[.val (.int a), .val (.int b), .val (.int cc), .val (.int dd), .val (.int nn), .val (.int r), .val (.int (3 : Int32)), .val (.ref jd), .val (.ref rv), .val (.ref ob), .unset] [(.int ex)])
      refine hs.go (fun _ kk_ => XS.istore X49.here hx rfl (hb hby at_149) rfl (l' := #[.val (.int a), .val (.int b), .val (.int cc), .val (.int dd), .val (.int nn), .val (.int r), .val (.int (3 : Int32)), .val (.ref jd), .val (.ref rv), .val (.ref ob), .val (.int ex)]) rfl kk_) ?_
      show G T49 (mkF m 151 #[.val (.int a), .val (.int b), .val (.int cc), .val (.int dd), .val (.int nn), .val (.int r), .val (.int (3 : Int32)), .val (.ref jd), .val (.ref rv), .val (.ref ob), .val (.int ex)] [])
      refine hs.go (fun _ kk_ => XS.aload X49.here hx rfl (hb hby at_151) rfl rfl kk_) ?_
      show G T49 (mkF m 153 #[.val (.int a), .val (.int b), .val (.int cc), .val (.int dd), .val (.int nn), .val (.int r), .val (.int (3 : Int32)), .val (.ref jd), .val (.ref rv), .val (.ref ob), .val (.int ex)] [(.ref ob)])
      refine rCallV hs X49 hx hZ (as' := []) (rm5 l Z a0 hw [] ob jd (3 : Int32) [a, b, cc] k37 h45 n0 Z0 F_judged_ob V_jd rfl) E_ob hown (hw _ (List.mem_of_getElem? (i := 24) rfl)) (hw _ (List.mem_of_getElem? (i := 25) rfl)) (hw _ (List.mem_of_getElem? (i := 27) rfl)) (hw _ (List.mem_of_getElem? (i := 26) rfl)) (hw _ (List.mem_of_getElem? (i := 4) rfl)) (hw _ (List.mem_of_getElem? (i := 28) rfl)) hy_5 rfl (by rw [hml]; rfl) [] (lenOf pd_3 rfl) rfl 0 (by show 2 * 0 + _ ≤ _; exact Nat.le_of_eq rfl) (hb hby at_153) (by decide) (by decide) (by decide) (by decide) (fun r50 T50 h50 X50 q50 => ?_)
      obtain ⟨rfl, qh50⟩ := q50
      rw [qh50] at X50
      show G T50 (mkF m 156 #[.val (.int a), .val (.int b), .val (.int cc), .val (.int dd), .val (.int nn), .val (.int r), .val (.int (3 : Int32)), .val (.ref jd), .val (.ref rv), .val (.ref ob), .val (.int ex)] [(.int (cpos [a, b, cc] 0))])
      refine hs.go (fun _ kk_ => XS.iload X50.here hx rfl (hb hby at_156) rfl  kk_) ?_
      show G T50 (mkF m 158 #[.val (.int a), .val (.int b), .val (.int cc), .val (.int dd), .val (.int nn), .val (.int r), .val (.int (3 : Int32)), .val (.ref jd), .val (.ref rv), .val (.ref ob), .val (.int ex)] [(.int ex), (.int (cpos [a, b, cc] 0))])
      refine hs.go (fun _ kk_ => XS.icmpNo X50.here hx rfl (hb hby at_158) rfl (teq (own_l3 a b cc dd hex : (cpos [a, b, cc] 0) = ex)).2 kk_) ?_
      show G T50 (mkF m 161 #[.val (.int a), .val (.int b), .val (.int cc), .val (.int dd), .val (.int nn), .val (.int r), .val (.int (3 : Int32)), .val (.ref jd), .val (.ref rv), .val (.ref ob), .val (.int ex)] [])
      refine hs.go (fun _ kk_ => XS.iconst X50.here hx rfl (hb hby at_161) kk_) ?_
      show G T50 (mkF m 162 #[.val (.int a), .val (.int b), .val (.int cc), .val (.int dd), .val (.int nn), .val (.int r), .val (.int (3 : Int32)), .val (.ref jd), .val (.ref rv), .val (.ref ob), .val (.int ex)] [(.int (1 : Int32))])
      refine hs.go (fun _ kk_ => XS.goto X50.here hx rfl (pc0 := 162) (pc' := 166) rfl (hb hby at_162) (by decide) (by decide) kk_) ?_
      show G T50 (mkF m 166 #[.val (.int a), .val (.int b), .val (.int cc), .val (.int dd), .val (.int nn), .val (.int r), .val (.int (3 : Int32)), .val (.ref jd), .val (.ref rv), .val (.ref ob), .val (.int ex)] [(.int (1 : Int32))])
      exact rRetN fin X50 hx (by decide) (by decide) hret (by simp) (hb hby at_166) (z' := (1 : Int32)) (by decide) rfl
  · show G s₁ (mkF m 9 #[.val (.int a), .val (.int b), .val (.int cc), .val (.int dd), .val (.int nn), .val (.int r), .val (.int (4 : Int32)), .unset, .unset, .unset, .unset] [])
    refine hs.go (fun _ kk_ => XS.iload X0.here hx rfl (hb hby at_9) rfl  kk_) ?_
    show G s₁ (mkF m 11 #[.val (.int a), .val (.int b), .val (.int cc), .val (.int dd), .val (.int nn), .val (.int r), .val (.int (4 : Int32)), .unset, .unset, .unset, .unset] [(.int (4 : Int32))])
    refine rNewP hs X0 hx hZ (hw _ (List.mem_of_getElem? (i := 1) rfl)) rfl (hb hby at_11) rfl (by decide) 4 4 (by decide) (by decide) (by decide) (by decide) (fun T51 h51 k51 jd g51 X51 E51 V_jd => ?_)
    have V_jd : Arv Z h51 jd k51 .int (4 : Int32) [(.int (0 : Int32)), (.int (0 : Int32)), (.int (0 : Int32)), (.int (0 : Int32))] (.int (0 : Int32)) := V_jd
    have g_jd : n0 ≤ jd := by rw [g51]; exact Z0
    have Z0 := Nat.le_trans Z0 E51.1
    show G T51 (mkF m 13 #[.val (.int a), .val (.int b), .val (.int cc), .val (.int dd), .val (.int nn), .val (.int r), .val (.int (4 : Int32)), .unset, .unset, .unset, .unset] [(.ref jd)])
    refine hs.go (fun _ kk_ => XS.astore X51.here hx rfl (hb hby at_13) rfl rfl (l' := #[.val (.int a), .val (.int b), .val (.int cc), .val (.int dd), .val (.int nn), .val (.int r), .val (.int (4 : Int32)), .val (.ref jd), .unset, .unset, .unset]) rfl kk_) ?_
    show G T51 (mkF m 15 #[.val (.int a), .val (.int b), .val (.int cc), .val (.int dd), .val (.int nn), .val (.int r), .val (.int (4 : Int32)), .val (.ref jd), .unset, .unset, .unset] [])
    refine hs.go (fun _ kk_ => XS.iload X51.here hx rfl (hb hby at_15) rfl  kk_) ?_
    show G T51 (mkF m 17 #[.val (.int a), .val (.int b), .val (.int cc), .val (.int dd), .val (.int nn), .val (.int r), .val (.int (4 : Int32)), .val (.ref jd), .unset, .unset, .unset] [(.int (4 : Int32))])
    refine hs.go (fun _ kk_ => XS.ifNo X51.here hx rfl (hb hby at_17) rfl ((if0 _ _).trans (tlt ((by decide) : (0 : Int32) < (4 : Int32))).2.2.2) kk_) ?_
    show G T51 (mkF m 20 #[.val (.int a), .val (.int b), .val (.int cc), .val (.int dd), .val (.int nn), .val (.int r), .val (.int (4 : Int32)), .val (.ref jd), .unset, .unset, .unset] [])
    refine hs.go (fun _ kk_ => XS.aload X51.here hx rfl (hb hby at_20) rfl rfl kk_) ?_
    show G T51 (mkF m 22 #[.val (.int a), .val (.int b), .val (.int cc), .val (.int dd), .val (.int nn), .val (.int r), .val (.int (4 : Int32)), .val (.ref jd), .unset, .unset, .unset] [(.ref jd)])
    refine hs.go (fun _ kk_ => XS.iconst X51.here hx rfl (hb hby at_22) kk_) ?_
    show G T51 (mkF m 23 #[.val (.int a), .val (.int b), .val (.int cc), .val (.int dd), .val (.int nn), .val (.int r), .val (.int (4 : Int32)), .val (.ref jd), .unset, .unset, .unset] [(.int (0 : Int32)), (.ref jd)])
    refine hs.go (fun _ kk_ => XS.iloadN X51.here hx rfl (hb hby at_23) rfl  kk_) ?_
    show G T51 (mkF m 24 #[.val (.int a), .val (.int b), .val (.int cc), .val (.int dd), .val (.int nn), .val (.int r), .val (.int (4 : Int32)), .val (.ref jd), .unset, .unset, .unset] [(.int a), (.int (0 : Int32)), (.ref jd)])
    refine rStI hs X51 hx hZ V_jd g_jd ⟨by decide, by decide⟩ 0 (by decide) (by simp) rfl rfl (hb hby at_24) (fun T52 h52 X52 W52 V_jd => ?_)
    have V_jd : Arv Z h52 jd k51 .int (4 : Int32) [(.int a), (.int (0 : Int32)), (.int (0 : Int32)), (.int (0 : Int32))] (.int (0 : Int32)) := V_jd
    have Z0 := Nat.le_trans Z0 (Keep.of_wr W52).1
    show G T52 (mkF m 25 #[.val (.int a), .val (.int b), .val (.int cc), .val (.int dd), .val (.int nn), .val (.int r), .val (.int (4 : Int32)), .val (.ref jd), .unset, .unset, .unset] [])
    refine hs.go (fun _ kk_ => XS.iload X52.here hx rfl (hb hby at_25) rfl  kk_) ?_
    show G T52 (mkF m 27 #[.val (.int a), .val (.int b), .val (.int cc), .val (.int dd), .val (.int nn), .val (.int r), .val (.int (4 : Int32)), .val (.ref jd), .unset, .unset, .unset] [(.int (4 : Int32))])
    refine hs.go (fun _ kk_ => XS.iconst X52.here hx rfl (hb hby at_27) kk_) ?_
    show G T52 (mkF m 28 #[.val (.int a), .val (.int b), .val (.int cc), .val (.int dd), .val (.int nn), .val (.int r), .val (.int (4 : Int32)), .val (.ref jd), .unset, .unset, .unset] [(.int (1 : Int32)), (.int (4 : Int32))])
    refine hs.go (fun _ kk_ => XS.icmpNo X52.here hx rfl (hb hby at_28) rfl (tlt ((by decide) : (1 : Int32) < (4 : Int32))).2.2.2 kk_) ?_
    show G T52 (mkF m 31 #[.val (.int a), .val (.int b), .val (.int cc), .val (.int dd), .val (.int nn), .val (.int r), .val (.int (4 : Int32)), .val (.ref jd), .unset, .unset, .unset] [])
    refine hs.go (fun _ kk_ => XS.aload X52.here hx rfl (hb hby at_31) rfl rfl kk_) ?_
    show G T52 (mkF m 33 #[.val (.int a), .val (.int b), .val (.int cc), .val (.int dd), .val (.int nn), .val (.int r), .val (.int (4 : Int32)), .val (.ref jd), .unset, .unset, .unset] [(.ref jd)])
    refine hs.go (fun _ kk_ => XS.iconst X52.here hx rfl (hb hby at_33) kk_) ?_
    show G T52 (mkF m 34 #[.val (.int a), .val (.int b), .val (.int cc), .val (.int dd), .val (.int nn), .val (.int r), .val (.int (4 : Int32)), .val (.ref jd), .unset, .unset, .unset] [(.int (1 : Int32)), (.ref jd)])
    refine hs.go (fun _ kk_ => XS.iloadN X52.here hx rfl (hb hby at_34) rfl  kk_) ?_
    show G T52 (mkF m 35 #[.val (.int a), .val (.int b), .val (.int cc), .val (.int dd), .val (.int nn), .val (.int r), .val (.int (4 : Int32)), .val (.ref jd), .unset, .unset, .unset] [(.int b), (.int (1 : Int32)), (.ref jd)])
    refine rStI hs X52 hx hZ V_jd g_jd ⟨by decide, by decide⟩ 1 (by decide) (by simp) rfl rfl (hb hby at_35) (fun T53 h53 X53 W53 V_jd => ?_)
    have V_jd : Arv Z h53 jd k51 .int (4 : Int32) [(.int a), (.int b), (.int (0 : Int32)), (.int (0 : Int32))] (.int (0 : Int32)) := V_jd
    have Z0 := Nat.le_trans Z0 (Keep.of_wr W53).1
    show G T53 (mkF m 36 #[.val (.int a), .val (.int b), .val (.int cc), .val (.int dd), .val (.int nn), .val (.int r), .val (.int (4 : Int32)), .val (.ref jd), .unset, .unset, .unset] [])
    refine hs.go (fun _ kk_ => XS.iload X53.here hx rfl (hb hby at_36) rfl  kk_) ?_
    show G T53 (mkF m 38 #[.val (.int a), .val (.int b), .val (.int cc), .val (.int dd), .val (.int nn), .val (.int r), .val (.int (4 : Int32)), .val (.ref jd), .unset, .unset, .unset] [(.int (4 : Int32))])
    refine hs.go (fun _ kk_ => XS.iconst X53.here hx rfl (hb hby at_38) kk_) ?_
    show G T53 (mkF m 39 #[.val (.int a), .val (.int b), .val (.int cc), .val (.int dd), .val (.int nn), .val (.int r), .val (.int (4 : Int32)), .val (.ref jd), .unset, .unset, .unset] [(.int (2 : Int32)), (.int (4 : Int32))])
    refine hs.go (fun _ kk_ => XS.icmpNo X53.here hx rfl (hb hby at_39) rfl (tlt ((by decide) : (2 : Int32) < (4 : Int32))).2.2.2 kk_) ?_
    show G T53 (mkF m 42 #[.val (.int a), .val (.int b), .val (.int cc), .val (.int dd), .val (.int nn), .val (.int r), .val (.int (4 : Int32)), .val (.ref jd), .unset, .unset, .unset] [])
    refine hs.go (fun _ kk_ => XS.aload X53.here hx rfl (hb hby at_42) rfl rfl kk_) ?_
    show G T53 (mkF m 44 #[.val (.int a), .val (.int b), .val (.int cc), .val (.int dd), .val (.int nn), .val (.int r), .val (.int (4 : Int32)), .val (.ref jd), .unset, .unset, .unset] [(.ref jd)])
    refine hs.go (fun _ kk_ => XS.iconst X53.here hx rfl (hb hby at_44) kk_) ?_
    show G T53 (mkF m 45 #[.val (.int a), .val (.int b), .val (.int cc), .val (.int dd), .val (.int nn), .val (.int r), .val (.int (4 : Int32)), .val (.ref jd), .unset, .unset, .unset] [(.int (2 : Int32)), (.ref jd)])
    refine hs.go (fun _ kk_ => XS.iloadN X53.here hx rfl (hb hby at_45) rfl  kk_) ?_
    show G T53 (mkF m 46 #[.val (.int a), .val (.int b), .val (.int cc), .val (.int dd), .val (.int nn), .val (.int r), .val (.int (4 : Int32)), .val (.ref jd), .unset, .unset, .unset] [(.int cc), (.int (2 : Int32)), (.ref jd)])
    refine rStI hs X53 hx hZ V_jd g_jd ⟨by decide, by decide⟩ 2 (by decide) (by simp) rfl rfl (hb hby at_46) (fun T54 h54 X54 W54 V_jd => ?_)
    have V_jd : Arv Z h54 jd k51 .int (4 : Int32) [(.int a), (.int b), (.int cc), (.int (0 : Int32))] (.int (0 : Int32)) := V_jd
    have Z0 := Nat.le_trans Z0 (Keep.of_wr W54).1
    show G T54 (mkF m 47 #[.val (.int a), .val (.int b), .val (.int cc), .val (.int dd), .val (.int nn), .val (.int r), .val (.int (4 : Int32)), .val (.ref jd), .unset, .unset, .unset] [])
    refine hs.go (fun _ kk_ => XS.iload X54.here hx rfl (hb hby at_47) rfl  kk_) ?_
    show G T54 (mkF m 49 #[.val (.int a), .val (.int b), .val (.int cc), .val (.int dd), .val (.int nn), .val (.int r), .val (.int (4 : Int32)), .val (.ref jd), .unset, .unset, .unset] [(.int (4 : Int32))])
    refine hs.go (fun _ kk_ => XS.iconst X54.here hx rfl (hb hby at_49) kk_) ?_
    show G T54 (mkF m 50 #[.val (.int a), .val (.int b), .val (.int cc), .val (.int dd), .val (.int nn), .val (.int r), .val (.int (4 : Int32)), .val (.ref jd), .unset, .unset, .unset] [(.int (3 : Int32)), (.int (4 : Int32))])
    refine hs.go (fun _ kk_ => XS.icmpNo X54.here hx rfl (hb hby at_50) rfl (tlt ((by decide) : (3 : Int32) < (4 : Int32))).2.2.2 kk_) ?_
    show G T54 (mkF m 53 #[.val (.int a), .val (.int b), .val (.int cc), .val (.int dd), .val (.int nn), .val (.int r), .val (.int (4 : Int32)), .val (.ref jd), .unset, .unset, .unset] [])
    refine hs.go (fun _ kk_ => XS.aload X54.here hx rfl (hb hby at_53) rfl rfl kk_) ?_
    show G T54 (mkF m 55 #[.val (.int a), .val (.int b), .val (.int cc), .val (.int dd), .val (.int nn), .val (.int r), .val (.int (4 : Int32)), .val (.ref jd), .unset, .unset, .unset] [(.ref jd)])
    refine hs.go (fun _ kk_ => XS.iconst X54.here hx rfl (hb hby at_55) kk_) ?_
    show G T54 (mkF m 56 #[.val (.int a), .val (.int b), .val (.int cc), .val (.int dd), .val (.int nn), .val (.int r), .val (.int (4 : Int32)), .val (.ref jd), .unset, .unset, .unset] [(.int (3 : Int32)), (.ref jd)])
    refine hs.go (fun _ kk_ => XS.iloadN X54.here hx rfl (hb hby at_56) rfl  kk_) ?_
    show G T54 (mkF m 57 #[.val (.int a), .val (.int b), .val (.int cc), .val (.int dd), .val (.int nn), .val (.int r), .val (.int (4 : Int32)), .val (.ref jd), .unset, .unset, .unset] [(.int dd), (.int (3 : Int32)), (.ref jd)])
    refine rStI hs X54 hx hZ V_jd g_jd ⟨by decide, by decide⟩ 3 (by decide) (by simp) rfl rfl (hb hby at_57) (fun T55 h55 X55 W55 V_jd => ?_)
    have V_jd : Arv Z h55 jd k51 .int (4 : Int32) [(.int a), (.int b), (.int cc), (.int dd)] (.int (0 : Int32)) := V_jd
    have Z0 := Nat.le_trans Z0 (Keep.of_wr W55).1
    show G T55 (mkF m 58 #[.val (.int a), .val (.int b), .val (.int cc), .val (.int dd), .val (.int nn), .val (.int r), .val (.int (4 : Int32)), .val (.ref jd), .unset, .unset, .unset] [])
    refine hs.go (fun _ kk_ => XS.iconst X55.here hx rfl (hb hby at_58) kk_) ?_
    show G T55 (mkF m 59 #[.val (.int a), .val (.int b), .val (.int cc), .val (.int dd), .val (.int nn), .val (.int r), .val (.int (4 : Int32)), .val (.ref jd), .unset, .unset, .unset] [(.int (2 : Int32))])
    refine rNewP hs X55 hx hZ (hw _ (List.mem_of_getElem? (i := 1) rfl)) rfl (hb hby at_59) rfl (by decide) 2 2 (by decide) (by decide) (by decide) (by decide) (fun T56 h56 k56 rv g56 X56 E56 V_rv => ?_)
    have V_rv : Arv Z h56 rv k56 .int (2 : Int32) [(.int (0 : Int32)), (.int (0 : Int32))] (.int (0 : Int32)) := V_rv
    have g_rv : n0 ≤ rv := by rw [g56]; exact Z0
    have Z0 := Nat.le_trans Z0 E56.1
    have ne_jd_rv : jd ≠ rv := Nat.ne_of_lt (Nat.lt_of_lt_of_le V_jd.lt (Nat.le_of_eq g56.symm))
    have V_jd := V_jd.ext E56
    show G T56 (mkF m 61 #[.val (.int a), .val (.int b), .val (.int cc), .val (.int dd), .val (.int nn), .val (.int r), .val (.int (4 : Int32)), .val (.ref jd), .unset, .unset, .unset] [(.ref rv)])
    refine hs.go (fun _ kk_ => XS.astore X56.here hx rfl (hb hby at_61) rfl rfl (l' := #[.val (.int a), .val (.int b), .val (.int cc), .val (.int dd), .val (.int nn), .val (.int r), .val (.int (4 : Int32)), .val (.ref jd), .val (.ref rv), .unset, .unset]) rfl kk_) ?_
    show G T56 (mkF m 63 #[.val (.int a), .val (.int b), .val (.int cc), .val (.int dd), .val (.int nn), .val (.int r), .val (.int (4 : Int32)), .val (.ref jd), .val (.ref rv), .unset, .unset] [])
    refine hs.go (fun _ kk_ => XS.aload X56.here hx rfl (hb hby at_63) rfl rfl kk_) ?_
    show G T56 (mkF m 65 #[.val (.int a), .val (.int b), .val (.int cc), .val (.int dd), .val (.int nn), .val (.int r), .val (.int (4 : Int32)), .val (.ref jd), .val (.ref rv), .unset, .unset] [(.ref rv)])
    refine hs.go (fun _ kk_ => XS.iconst X56.here hx rfl (hb hby at_65) kk_) ?_
    show G T56 (mkF m 66 #[.val (.int a), .val (.int b), .val (.int cc), .val (.int dd), .val (.int nn), .val (.int r), .val (.int (4 : Int32)), .val (.ref jd), .val (.ref rv), .unset, .unset] [(.int (0 : Int32)), (.ref rv)])
    refine hs.go (fun _ kk_ => XS.iload X56.here hx rfl (hb hby at_66) rfl  kk_) ?_
    show G T56 (mkF m 68 #[.val (.int a), .val (.int b), .val (.int cc), .val (.int dd), .val (.int nn), .val (.int r), .val (.int (4 : Int32)), .val (.ref jd), .val (.ref rv), .unset, .unset] [(.int r), (.int (0 : Int32)), (.ref rv)])
    refine rStI hs X56 hx hZ V_rv g_rv ⟨by decide, by decide⟩ 0 (by decide) (by simp) rfl rfl (hb hby at_68) (fun T57 h57 X57 W57 V_rv => ?_)
    have V_rv : Arv Z h57 rv k56 .int (2 : Int32) [(.int r), (.int (0 : Int32))] (.int (0 : Int32)) := V_rv
    have V_jd := V_jd.other W57 ne_jd_rv
    have Z0 := Nat.le_trans Z0 (Keep.of_wr W57).1
    show G T57 (mkF m 69 #[.val (.int a), .val (.int b), .val (.int cc), .val (.int dd), .val (.int nn), .val (.int r), .val (.int (4 : Int32)), .val (.ref jd), .val (.ref rv), .unset, .unset] [])
    refine hs.go (fun _ kk_ => XS.aload X57.here hx rfl (hb hby at_69) rfl rfl kk_) ?_
    show G T57 (mkF m 71 #[.val (.int a), .val (.int b), .val (.int cc), .val (.int dd), .val (.int nn), .val (.int r), .val (.int (4 : Int32)), .val (.ref jd), .val (.ref rv), .unset, .unset] [(.ref rv)])
    refine hs.go (fun _ kk_ => XS.iconst X57.here hx rfl (hb hby at_71) kk_) ?_
    show G T57 (mkF m 72 #[.val (.int a), .val (.int b), .val (.int cc), .val (.int dd), .val (.int nn), .val (.int r), .val (.int (4 : Int32)), .val (.ref jd), .val (.ref rv), .unset, .unset] [(.int (1 : Int32)), (.ref rv)])
    refine hs.go (fun _ kk_ => XS.iloadN X57.here hx rfl (hb hby at_72) rfl  kk_) ?_
    show G T57 (mkF m 73 #[.val (.int a), .val (.int b), .val (.int cc), .val (.int dd), .val (.int nn), .val (.int r), .val (.int (4 : Int32)), .val (.ref jd), .val (.ref rv), .unset, .unset] [(.int a), (.int (1 : Int32)), (.ref rv)])
    refine rStI hs X57 hx hZ V_rv g_rv ⟨by decide, by decide⟩ 1 (by decide) (by simp) rfl rfl (hb hby at_73) (fun T58 h58 X58 W58 V_rv => ?_)
    have V_rv : Arv Z h58 rv k56 .int (2 : Int32) [(.int r), (.int a)] (.int (0 : Int32)) := V_rv
    have V_jd := V_jd.other W58 ne_jd_rv
    have Z0 := Nat.le_trans Z0 (Keep.of_wr W58).1
    show G T58 (mkF m 74 #[.val (.int a), .val (.int b), .val (.int cc), .val (.int dd), .val (.int nn), .val (.int r), .val (.int (4 : Int32)), .val (.ref jd), .val (.ref rv), .unset, .unset] [])
    as_aux_lemma =>
      refine rNewO hs X58 hx hZ hown (hw _ (List.mem_of_getElem? (i := 2) rfl)) (hw _ (List.mem_of_getElem? (i := 3) rfl)) (hw _ (List.mem_of_getElem? (i := 4) rfl)) rfl (hb hby at_74) (by decide) (by decide) (fun T59 h59 ob g59 X59 E59 E_ob D59 => ?_)
      have g_ob : n0 ≤ ob := by rw [g59]; exact Z0
      have Z0 := Nat.le_trans Z0 E59.1
      have ne_jd_ob : jd ≠ ob := Nat.ne_of_lt (Nat.lt_of_lt_of_le V_jd.lt (Nat.le_of_eq g59.symm))
      have ne_rv_ob : rv ≠ ob := Nat.ne_of_lt (Nat.lt_of_lt_of_le V_rv.lt (Nat.le_of_eq g59.symm))
      have V_jd := V_jd.ext E59
      have V_rv := V_rv.ext E59
      have F_relevance_ob : Fld Z h59 ob "com/example/ranked_odds/rankedodds/eval/JudgedRanking" "relevance" "[I" .null := D59 (Or.inr (hw _ (List.mem_of_getElem? (i := 17) rfl))) (ty := (.array .int)) (by decide)
      have F_judged_ob : Fld Z h59 ob "com/example/ranked_odds/rankedodds/eval/JudgedRanking" "judged" "[I" .null := D59 (Or.inr (hw _ (List.mem_of_getElem? (i := 19) rfl))) (ty := (.array .int)) (by decide)
      show G T59 (mkF m 77 #[.val (.int a), .val (.int b), .val (.int cc), .val (.int dd), .val (.int nn), .val (.int r), .val (.int (4 : Int32)), .val (.ref jd), .val (.ref rv), .unset, .unset] [(.ref ob)])
      refine hs.go (fun _ kk_ => XS.dup X59.here hx rfl (hb hby at_77) rfl rfl kk_) ?_
      show G T59 (mkF m 78 #[.val (.int a), .val (.int b), .val (.int cc), .val (.int dd), .val (.int nn), .val (.int r), .val (.int (4 : Int32)), .val (.ref jd), .val (.ref rv), .unset, .unset] [(.ref ob), (.ref ob)])
      refine hs.go (fun _ kk_ => XS.aload X59.here hx rfl (hb hby at_78) rfl rfl kk_) ?_
      show G T59 (mkF m 80 #[.val (.int a), .val (.int b), .val (.int cc), .val (.int dd), .val (.int nn), .val (.int r), .val (.int (4 : Int32)), .val (.ref jd), .val (.ref rv), .unset, .unset] [(.ref rv), (.ref ob), (.ref ob)])
      refine hs.go (fun _ kk_ => XS.aload X59.here hx rfl (hb hby at_80) rfl rfl kk_) ?_
      show G T59 (mkF m 82 #[.val (.int a), .val (.int b), .val (.int cc), .val (.int dd), .val (.int nn), .val (.int r), .val (.int (4 : Int32)), .val (.ref jd), .val (.ref rv), .unset, .unset] [(.ref jd), (.ref rv), (.ref ob), (.ref ob)])
      refine rCallI hs X59 hx hZ (as' := [(.ref rv), (.ref jd)]) (rm1 l Z a0 hw [] ob rv jd h59 n0 Z0 E_ob g_ob F_relevance_ob F_judged_ob) rfl hown (hw _ (List.mem_of_getElem? (i := 5) rfl)) (hw _ (List.mem_of_getElem? (i := 6) rfl)) (hw _ (List.mem_of_getElem? (i := 4) rfl)) (hw _ (List.mem_of_getElem? (i := 7) rfl)) hy_1 rfl (by rw [hml]; rfl) [(.ref ob)] (lenOf pd_1 rfl) rfl 1 (by show 2 * 0 + _ ≤ _; exact Nat.le_of_eq rfl) (hb hby at_82) (by decide) (by decide) (by decide) (by decide) (fun r60 T60 h60 X60 q60 => ?_)
      obtain ⟨rfl, Kc60, E_ob, F_judged_ob⟩ := q60
      have Z0 := Nat.le_trans Z0 Kc60.1
      have V_jd := V_jd.keep Kc60 (ninS ne_jd_ob nin0)
      have V_rv := V_rv.keep Kc60 (ninS ne_rv_ob nin0)
      show G T60 (mkF m 85 #[.val (.int a), .val (.int b), .val (.int cc), .val (.int dd), .val (.int nn), .val (.int r), .val (.int (4 : Int32)), .val (.ref jd), .val (.ref rv), .unset, .unset] [(.ref ob)])
      refine hs.go (fun _ kk_ => XS.astore X60.here hx rfl (hb hby at_85) rfl rfl (l' := #[.val (.int a), .val (.int b), .val (.int cc), .val (.int dd), .val (.int nn), .val (.int r), .val (.int (4 : Int32)), .val (.ref jd), .val (.ref rv), .val (.ref ob), .unset]) rfl kk_) ?_
      show G T60 (mkF m 87 #[.val (.int a), .val (.int b), .val (.int cc), .val (.int dd), .val (.int nn), .val (.int r), .val (.int (4 : Int32)), .val (.ref jd), .val (.ref rv), .val (.ref ob), .unset] [])
      refine hs.go (fun _ kk_ => XS.iload X60.here hx rfl (hb hby at_87) rfl  kk_) ?_
      show G T60 (mkF m 89 #[.val (.int a), .val (.int b), .val (.int cc), .val (.int dd), .val (.int nn), .val (.int r), .val (.int (4 : Int32)), .val (.ref jd), .val (.ref rv), .val (.ref ob), .unset] [(.int (4 : Int32))])
      refine hs.go (fun _ kk_ => XS.ifNo X60.here hx rfl (hb hby at_89) rfl ((if0 _ _).trans (tlt ((by decide) : (0 : Int32) < (4 : Int32))).2.2.2) kk_) ?_
      show G T60 (mkF m 92 #[.val (.int a), .val (.int b), .val (.int cc), .val (.int dd), .val (.int nn), .val (.int r), .val (.int (4 : Int32)), .val (.ref jd), .val (.ref rv), .val (.ref ob), .unset] [])
      refine hs.go (fun _ kk_ => XS.iconst X60.here hx rfl (hb hby at_92) kk_) ?_
      show G T60 (mkF m 93 #[.val (.int a), .val (.int b), .val (.int cc), .val (.int dd), .val (.int nn), .val (.int r), .val (.int (4 : Int32)), .val (.ref jd), .val (.ref rv), .val (.ref ob), .unset] [(.int (1 : Int32))])
      refine hs.go (fun _ kk_ => XS.goto X60.here hx rfl (pc0 := 93) (pc' := 97) rfl (hb hby at_93) (by decide) (by decide) kk_) ?_
      show G T60 (mkF m 97 #[.val (.int a), .val (.int b), .val (.int cc), .val (.int dd), .val (.int nn), .val (.int r), .val (.int (4 : Int32)), .val (.ref jd), .val (.ref rv), .val (.ref ob), .unset] [(.int (1 : Int32))])
      refine hs.go (fun _ kk_ => XS.iloadN X60.here hx rfl (hb hby at_97) rfl  kk_) ?_
      show G T60 (mkF m 98 #[.val (.int a), .val (.int b), .val (.int cc), .val (.int dd), .val (.int nn), .val (.int r), .val (.int (4 : Int32)), .val (.ref jd), .val (.ref rv), .val (.ref ob), .unset] [(.int a), (.int (1 : Int32))])
      refine rCallS hs X60 hx hZ (as' := [(.int (1 : Int32)), (.int a)]) (rm4 l Z a0 hw [] (1 : Int32) a h60 n0 Z0) hown (hw _ (List.mem_of_getElem? (i := 20) rfl)) (hw _ (List.mem_of_getElem? (i := 21) rfl)) (hw _ (List.mem_of_getElem? (i := 22) rfl)) (hw _ (List.mem_of_getElem? (i := 23) rfl)) hy_4 rfl (by rw [hml]; rfl) [] (lenOf pd_2 rfl) rfl 0 (by show 2 * 0 + _ ≤ _; exact Nat.le_of_eq rfl) (hb hby at_98) (by decide) (by decide) (by decide) (by decide) (fun r61 T61 h61 X61 q61 => ?_)
      obtain ⟨rfl, qh61⟩ := q61
      rw [qh61] at X61
      show G T61 (mkF m 101 #[.val (.int a), .val (.int b), .val (.int cc), .val (.int dd), .val (.int nn), .val (.int r), .val (.int (4 : Int32)), .val (.ref jd), .val (.ref rv), .val (.ref ob), .unset] [(.int (f4 (1 : Int32) a))])
      refine hs.go (fun _ kk_ => XS.iload X61.here hx rfl (hb hby at_101) rfl  kk_) ?_
      show G T61 (mkF m 103 #[.val (.int a), .val (.int b), .val (.int cc), .val (.int dd), .val (.int nn), .val (.int r), .val (.int (4 : Int32)), .val (.ref jd), .val (.ref rv), .val (.ref ob), .unset] [(.int (4 : Int32)), (.int (f4 (1 : Int32) a))])
      refine hs.go (fun _ kk_ => XS.iconst X61.here hx rfl (hb hby at_103) kk_) ?_
      show G T61 (mkF m 104 #[.val (.int a), .val (.int b), .val (.int cc), .val (.int dd), .val (.int nn), .val (.int r), .val (.int (4 : Int32)), .val (.ref jd), .val (.ref rv), .val (.ref ob), .unset] [(.int (1 : Int32)), (.int (4 : Int32)), (.int (f4 (1 : Int32) a))])
      refine hs.go (fun _ kk_ => XS.icmpNo X61.here hx rfl (hb hby at_104) rfl (tlt ((by decide) : (1 : Int32) < (4 : Int32))).2.2.2 kk_) ?_
      show G T61 (mkF m 107 #[.val (.int a), .val (.int b), .val (.int cc), .val (.int dd), .val (.int nn), .val (.int r), .val (.int (4 : Int32)), .val (.ref jd), .val (.ref rv), .val (.ref ob), .unset] [(.int (f4 (1 : Int32) a))])
      refine hs.go (fun _ kk_ => XS.iconst X61.here hx rfl (hb hby at_107) kk_) ?_
      show G T61 (mkF m 108 #[.val (.int a), .val (.int b), .val (.int cc), .val (.int dd), .val (.int nn), .val (.int r), .val (.int (4 : Int32)), .val (.ref jd), .val (.ref rv), .val (.ref ob), .unset] [(.int (1 : Int32)), (.int (f4 (1 : Int32) a))])
      refine hs.go (fun _ kk_ => XS.goto X61.here hx rfl (pc0 := 108) (pc' := 112) rfl (hb hby at_108) (by decide) (by decide) kk_) ?_
      show G T61 (mkF m 112 #[.val (.int a), .val (.int b), .val (.int cc), .val (.int dd), .val (.int nn), .val (.int r), .val (.int (4 : Int32)), .val (.ref jd), .val (.ref rv), .val (.ref ob), .unset] [(.int (1 : Int32)), (.int (f4 (1 : Int32) a))])
      refine hs.go (fun _ kk_ => XS.iloadN X61.here hx rfl (hb hby at_112) rfl  kk_) ?_
      show G T61 (mkF m 113 #[.val (.int a), .val (.int b), .val (.int cc), .val (.int dd), .val (.int nn), .val (.int r), .val (.int (4 : Int32)), .val (.ref jd), .val (.ref rv), .val (.ref ob), .unset] [(.int b), (.int (1 : Int32)), (.int (f4 (1 : Int32) a))])
      refine rCallS hs X61 hx hZ (as' := [(.int (1 : Int32)), (.int b)]) (rm4 l Z a0 hw [] (1 : Int32) b h60 n0 Z0) hown (hw _ (List.mem_of_getElem? (i := 20) rfl)) (hw _ (List.mem_of_getElem? (i := 21) rfl)) (hw _ (List.mem_of_getElem? (i := 22) rfl)) (hw _ (List.mem_of_getElem? (i := 23) rfl)) hy_4 rfl (by rw [hml]; rfl) [(.int (f4 (1 : Int32) a))] (lenOf pd_2 rfl) rfl 1 (by show 2 * 0 + _ ≤ _; exact Nat.le_of_eq rfl) (hb hby at_113) (by decide) (by decide) (by decide) (by decide) (fun r62 T62 h62 X62 q62 => ?_)
      obtain ⟨rfl, qh62⟩ := q62
      rw [qh62] at X62
      show G T62 (mkF m 116 #[.val (.int a), .val (.int b), .val (.int cc), .val (.int dd), .val (.int nn), .val (.int r), .val (.int (4 : Int32)), .val (.ref jd), .val (.ref rv), .val (.ref ob), .unset] [(.int (f4 (1 : Int32) b)), (.int (f4 (1 : Int32) a))])
      refine hs.go (fun _ kk_ => XS.iadd X62.here hx rfl (hb hby at_116) rfl kk_) ?_
      show G T62 (mkF m 117 #[.val (.int a), .val (.int b), .val (.int cc), .val (.int dd), .val (.int nn), .val (.int r), .val (.int (4 : Int32)), .val (.ref jd), .val (.ref rv), .val (.ref ob), .unset] [(.int ((f4 (1 : Int32) a) + (f4 (1 : Int32) b)))])
      refine hs.go (fun _ kk_ => XS.iload X62.here hx rfl (hb hby at_117) rfl  kk_) ?_
      show G T62 (mkF m 119 #[.val (.int a), .val (.int b), .val (.int cc), .val (.int dd), .val (.int nn), .val (.int r), .val (.int (4 : Int32)), .val (.ref jd), .val (.ref rv), .val (.ref ob), .unset] [(.int (4 : Int32)), (.int ((f4 (1 : Int32) a) + (f4 (1 : Int32) b)))])
      refine hs.go (fun _ kk_ => XS.iconst X62.here hx rfl (hb hby at_119) kk_) ?_
      show G T62 (mkF m 120 #[.val (.int a), .val (.int b), .val (.int cc), .val (.int dd), .val (.int nn), .val (.int r), .val (.int (4 : Int32)), .val (.ref jd), .val (.ref rv), .val (.ref ob), .unset] [(.int (2 : Int32)), (.int (4 : Int32)), (.int ((f4 (1 : Int32) a) + (f4 (1 : Int32) b)))])
      refine hs.go (fun _ kk_ => XS.icmpNo X62.here hx rfl (hb hby at_120) rfl (tlt ((by decide) : (2 : Int32) < (4 : Int32))).2.2.2 kk_) ?_
      show G T62 (mkF m 123 #[.val (.int a), .val (.int b), .val (.int cc), .val (.int dd), .val (.int nn), .val (.int r), .val (.int (4 : Int32)), .val (.ref jd), .val (.ref rv), .val (.ref ob), .unset] [(.int ((f4 (1 : Int32) a) + (f4 (1 : Int32) b)))])
      refine hs.go (fun _ kk_ => XS.iconst X62.here hx rfl (hb hby at_123) kk_) ?_
      show G T62 (mkF m 124 #[.val (.int a), .val (.int b), .val (.int cc), .val (.int dd), .val (.int nn), .val (.int r), .val (.int (4 : Int32)), .val (.ref jd), .val (.ref rv), .val (.ref ob), .unset] [(.int (1 : Int32)), (.int ((f4 (1 : Int32) a) + (f4 (1 : Int32) b)))])
      refine hs.go (fun _ kk_ => XS.goto X62.here hx rfl (pc0 := 124) (pc' := 128) rfl (hb hby at_124) (by decide) (by decide) kk_) ?_
      show G T62 (mkF m 128 #[.val (.int a), .val (.int b), .val (.int cc), .val (.int dd), .val (.int nn), .val (.int r), .val (.int (4 : Int32)), .val (.ref jd), .val (.ref rv), .val (.ref ob), .unset] [(.int (1 : Int32)), (.int ((f4 (1 : Int32) a) + (f4 (1 : Int32) b)))])
      refine hs.go (fun _ kk_ => XS.iloadN X62.here hx rfl (hb hby at_128) rfl  kk_) ?_
      show G T62 (mkF m 129 #[.val (.int a), .val (.int b), .val (.int cc), .val (.int dd), .val (.int nn), .val (.int r), .val (.int (4 : Int32)), .val (.ref jd), .val (.ref rv), .val (.ref ob), .unset] [(.int cc), (.int (1 : Int32)), (.int ((f4 (1 : Int32) a) + (f4 (1 : Int32) b)))])
      refine rCallS hs X62 hx hZ (as' := [(.int (1 : Int32)), (.int cc)]) (rm4 l Z a0 hw [] (1 : Int32) cc h60 n0 Z0) hown (hw _ (List.mem_of_getElem? (i := 20) rfl)) (hw _ (List.mem_of_getElem? (i := 21) rfl)) (hw _ (List.mem_of_getElem? (i := 22) rfl)) (hw _ (List.mem_of_getElem? (i := 23) rfl)) hy_4 rfl (by rw [hml]; rfl) [(.int ((f4 (1 : Int32) a) + (f4 (1 : Int32) b)))] (lenOf pd_2 rfl) rfl 1 (by show 2 * 0 + _ ≤ _; exact Nat.le_of_eq rfl) (hb hby at_129) (by decide) (by decide) (by decide) (by decide) (fun r63 T63 h63 X63 q63 => ?_)
      obtain ⟨rfl, qh63⟩ := q63
      rw [qh63] at X63
      show G T63 (mkF m 132 #[.val (.int a), .val (.int b), .val (.int cc), .val (.int dd), .val (.int nn), .val (.int r), .val (.int (4 : Int32)), .val (.ref jd), .val (.ref rv), .val (.ref ob), .unset] [(.int (f4 (1 : Int32) cc)), (.int ((f4 (1 : Int32) a) + (f4 (1 : Int32) b)))])
      refine hs.go (fun _ kk_ => XS.iadd X63.here hx rfl (hb hby at_132) rfl kk_) ?_
      show G T63 (mkF m 133 #[.val (.int a), .val (.int b), .val (.int cc), .val (.int dd), .val (.int nn), .val (.int r), .val (.int (4 : Int32)), .val (.ref jd), .val (.ref rv), .val (.ref ob), .unset] [(.int (((f4 (1 : Int32) a) + (f4 (1 : Int32) b)) + (f4 (1 : Int32) cc)))])
      refine hs.go (fun _ kk_ => XS.iload X63.here hx rfl (hb hby at_133) rfl  kk_) ?_
      show G T63 (mkF m 135 #[.val (.int a), .val (.int b), .val (.int cc), .val (.int dd), .val (.int nn), .val (.int r), .val (.int (4 : Int32)), .val (.ref jd), .val (.ref rv), .val (.ref ob), .unset] [(.int (4 : Int32)), (.int (((f4 (1 : Int32) a) + (f4 (1 : Int32) b)) + (f4 (1 : Int32) cc)))])
      refine hs.go (fun _ kk_ => XS.iconst X63.here hx rfl (hb hby at_135) kk_) ?_
      show G T63 (mkF m 136 #[.val (.int a), .val (.int b), .val (.int cc), .val (.int dd), .val (.int nn), .val (.int r), .val (.int (4 : Int32)), .val (.ref jd), .val (.ref rv), .val (.ref ob), .unset] [(.int (3 : Int32)), (.int (4 : Int32)), (.int (((f4 (1 : Int32) a) + (f4 (1 : Int32) b)) + (f4 (1 : Int32) cc)))])
      refine hs.go (fun _ kk_ => XS.icmpNo X63.here hx rfl (hb hby at_136) rfl (tlt ((by decide) : (3 : Int32) < (4 : Int32))).2.2.2 kk_) ?_
      show G T63 (mkF m 139 #[.val (.int a), .val (.int b), .val (.int cc), .val (.int dd), .val (.int nn), .val (.int r), .val (.int (4 : Int32)), .val (.ref jd), .val (.ref rv), .val (.ref ob), .unset] [(.int (((f4 (1 : Int32) a) + (f4 (1 : Int32) b)) + (f4 (1 : Int32) cc)))])
      refine hs.go (fun _ kk_ => XS.iconst X63.here hx rfl (hb hby at_139) kk_) ?_
      show G T63 (mkF m 140 #[.val (.int a), .val (.int b), .val (.int cc), .val (.int dd), .val (.int nn), .val (.int r), .val (.int (4 : Int32)), .val (.ref jd), .val (.ref rv), .val (.ref ob), .unset] [(.int (1 : Int32)), (.int (((f4 (1 : Int32) a) + (f4 (1 : Int32) b)) + (f4 (1 : Int32) cc)))])
      refine hs.go (fun _ kk_ => XS.goto X63.here hx rfl (pc0 := 140) (pc' := 144) rfl (hb hby at_140) (by decide) (by decide) kk_) ?_
      show G T63 (mkF m 144 #[.val (.int a), .val (.int b), .val (.int cc), .val (.int dd), .val (.int nn), .val (.int r), .val (.int (4 : Int32)), .val (.ref jd), .val (.ref rv), .val (.ref ob), .unset] [(.int (1 : Int32)), (.int (((f4 (1 : Int32) a) + (f4 (1 : Int32) b)) + (f4 (1 : Int32) cc)))])
      refine hs.go (fun _ kk_ => XS.iloadN X63.here hx rfl (hb hby at_144) rfl  kk_) ?_
      show G T63 (mkF m 145 #[.val (.int a), .val (.int b), .val (.int cc), .val (.int dd), .val (.int nn), .val (.int r), .val (.int (4 : Int32)), .val (.ref jd), .val (.ref rv), .val (.ref ob), .unset] [(.int dd), (.int (1 : Int32)), (.int (((f4 (1 : Int32) a) + (f4 (1 : Int32) b)) + (f4 (1 : Int32) cc)))])
      refine rCallS hs X63 hx hZ (as' := [(.int (1 : Int32)), (.int dd)]) (rm4 l Z a0 hw [] (1 : Int32) dd h60 n0 Z0) hown (hw _ (List.mem_of_getElem? (i := 20) rfl)) (hw _ (List.mem_of_getElem? (i := 21) rfl)) (hw _ (List.mem_of_getElem? (i := 22) rfl)) (hw _ (List.mem_of_getElem? (i := 23) rfl)) hy_4 rfl (by rw [hml]; rfl) [(.int (((f4 (1 : Int32) a) + (f4 (1 : Int32) b)) + (f4 (1 : Int32) cc)))] (lenOf pd_2 rfl) rfl 1 (by show 2 * 0 + _ ≤ _; exact Nat.le_of_eq rfl) (hb hby at_145) (by decide) (by decide) (by decide) (by decide) (fun r64 T64 h64 X64 q64 => ?_)
      obtain ⟨rfl, qh64⟩ := q64
      rw [qh64] at X64
      show G T64 (mkF m 148 #[.val (.int a), .val (.int b), .val (.int cc), .val (.int dd), .val (.int nn), .val (.int r), .val (.int (4 : Int32)), .val (.ref jd), .val (.ref rv), .val (.ref ob), .unset] [(.int (f4 (1 : Int32) dd)), (.int (((f4 (1 : Int32) a) + (f4 (1 : Int32) b)) + (f4 (1 : Int32) cc)))])
      refine hs.go (fun _ kk_ => XS.iadd X64.here hx rfl (hb hby at_148) rfl kk_) ?_
      show G T64 (mkF m 149 #[.val (.int a), .val (.int b), .val (.int cc), .val (.int dd), .val (.int nn), .val (.int r), .val (.int (4 : Int32)), .val (.ref jd), .val (.ref rv), .val (.ref ob), .unset] [(.int ((((f4 (1 : Int32) a) + (f4 (1 : Int32) b)) + (f4 (1 : Int32) cc)) + (f4 (1 : Int32) dd)))])
      refine nameIt (P := fun zz_ : Int32 => G T64 (mkF m 149 #[.val (.int a), .val (.int b), .val (.int cc), .val (.int dd), .val (.int nn), .val (.int r), .val (.int (4 : Int32)), .val (.ref jd), .val (.ref rv), .val (.ref ob), .unset] [(.int zz_)])) ((((f4 (1 : Int32) a) + (f4 (1 : Int32) b)) + (f4 (1 : Int32) cc)) + (f4 (1 : Int32) dd)) (fun ex hex => ?_)
      show G T64 (mkF m 149 #[.val (.int a), .val (.int b), .val (.int cc), .val (.int dd), .val (.int nn), .val (.int r), .val (.int (4 : Int32)), .val (.ref jd), .val (.ref rv), .val (.ref ob), .unset] [(.int ex)])
      refine hs.go (fun _ kk_ => XS.istore X64.here hx rfl (hb hby at_149) rfl (l' := #[.val (.int a), .val (.int b), .val (.int cc), .val (.int dd), .val (.int nn), .val (.int r), .val (.int (4 : Int32)), .val (.ref jd), .val (.ref rv), .val (.ref ob), .val (.int ex)]) rfl kk_) ?_
      show G T64 (mkF m 151 #[.val (.int a), .val (.int b), .val (.int cc), .val (.int dd), .val (.int nn), .val (.int r), .val (.int (4 : Int32)), .val (.ref jd), .val (.ref rv), .val (.ref ob), .val (.int ex)] [])
      refine hs.go (fun _ kk_ => XS.aload X64.here hx rfl (hb hby at_151) rfl rfl kk_) ?_
      show G T64 (mkF m 153 #[.val (.int a), .val (.int b), .val (.int cc), .val (.int dd), .val (.int nn), .val (.int r), .val (.int (4 : Int32)), .val (.ref jd), .val (.ref rv), .val (.ref ob), .val (.int ex)] [(.ref ob)])
      refine rCallV hs X64 hx hZ (as' := []) (rm5 l Z a0 hw [] ob jd (4 : Int32) [a, b, cc, dd] k51 h60 n0 Z0 F_judged_ob V_jd rfl) E_ob hown (hw _ (List.mem_of_getElem? (i := 24) rfl)) (hw _ (List.mem_of_getElem? (i := 25) rfl)) (hw _ (List.mem_of_getElem? (i := 27) rfl)) (hw _ (List.mem_of_getElem? (i := 26) rfl)) (hw _ (List.mem_of_getElem? (i := 4) rfl)) (hw _ (List.mem_of_getElem? (i := 28) rfl)) hy_5 rfl (by rw [hml]; rfl) [] (lenOf pd_3 rfl) rfl 0 (by show 2 * 0 + _ ≤ _; exact Nat.le_of_eq rfl) (hb hby at_153) (by decide) (by decide) (by decide) (by decide) (fun r65 T65 h65 X65 q65 => ?_)
      obtain ⟨rfl, qh65⟩ := q65
      rw [qh65] at X65
      show G T65 (mkF m 156 #[.val (.int a), .val (.int b), .val (.int cc), .val (.int dd), .val (.int nn), .val (.int r), .val (.int (4 : Int32)), .val (.ref jd), .val (.ref rv), .val (.ref ob), .val (.int ex)] [(.int (cpos [a, b, cc, dd] 0))])
      refine hs.go (fun _ kk_ => XS.iload X65.here hx rfl (hb hby at_156) rfl  kk_) ?_
      show G T65 (mkF m 158 #[.val (.int a), .val (.int b), .val (.int cc), .val (.int dd), .val (.int nn), .val (.int r), .val (.int (4 : Int32)), .val (.ref jd), .val (.ref rv), .val (.ref ob), .val (.int ex)] [(.int ex), (.int (cpos [a, b, cc, dd] 0))])
      refine hs.go (fun _ kk_ => XS.icmpNo X65.here hx rfl (hb hby at_158) rfl (teq (own_l4 a b cc dd hex : (cpos [a, b, cc, dd] 0) = ex)).2 kk_) ?_
      show G T65 (mkF m 161 #[.val (.int a), .val (.int b), .val (.int cc), .val (.int dd), .val (.int nn), .val (.int r), .val (.int (4 : Int32)), .val (.ref jd), .val (.ref rv), .val (.ref ob), .val (.int ex)] [])
      refine hs.go (fun _ kk_ => XS.iconst X65.here hx rfl (hb hby at_161) kk_) ?_
      show G T65 (mkF m 162 #[.val (.int a), .val (.int b), .val (.int cc), .val (.int dd), .val (.int nn), .val (.int r), .val (.int (4 : Int32)), .val (.ref jd), .val (.ref rv), .val (.ref ob), .val (.int ex)] [(.int (1 : Int32))])
      refine hs.go (fun _ kk_ => XS.goto X65.here hx rfl (pc0 := 162) (pc' := 166) rfl (hb hby at_162) (by decide) (by decide) kk_) ?_
      show G T65 (mkF m 166 #[.val (.int a), .val (.int b), .val (.int cc), .val (.int dd), .val (.int nn), .val (.int r), .val (.int (4 : Int32)), .val (.ref jd), .val (.ref rv), .val (.ref ob), .val (.int ex)] [(.int (1 : Int32))])
      exact rRetN fin X65 hx (by decide) (by decide) hret (by simp) (hb hby at_166) (z' := (1 : Int32)) (by decide) rfl
set_option maxRecDepth 65536 in
set_option maxHeartbeats 40000000 in
theorem comes_1 {Post : Tables → Env → Array Value → State → Outcome → State → Prop} (hpost : ∀ tb e args s v u, (limb_1_1.after args s (.returned v) u = true ∧ limb_1_2.after args s (.returned v) u = true ∧ True) → FrameEnd s (.returned v) u (Jvm.fieldLocs frame_1_writes args s ++ Jvm.arrayLocs frame_1_arrays args s ++ Jvm.staticLocs frame_1_statics s) 16 128 → Post tb e args s (.returned v) u) :
    ArmFor flags0 classFile x code maxLocals ret World_1 tables_1 room_1 Calls_1 rest_1 Pre_1 Post := by
  intro l hfl _ _ p e ha hc hk s m args below hf hA hF happ hP
  obtain ⟨hcalls, hrest, hpre⟩ := hP
  obtain ⟨-, -, -, hnamed, -, -, -, hat⟩ := (Spec.applies_iff hf).mp happ
  obtain ⟨hg, hn⟩ := and_e (Cond.before_iff.mp (show (Jvm.Cond.and given_1 narrow_1).before args s = true from hpre))
  obtain ⟨hcnt, hg0⟩ := and_e hg
  obtain ⟨t0, hg1⟩ := and_e hg0
  obtain ⟨t1, hg2⟩ := and_e hg1
  obtain ⟨t2, hg3⟩ := and_e hg2
  obtain ⟨t3, hg4⟩ := and_e hg3
  obtain ⟨t4, hg5⟩ := and_e hg4
  have t5 := hg5
  obtain ⟨w0, w1, w2, w3, w4, w5, rfl⟩ : ∃ w0 w1 w2 w3 w4 w5 : Value, args = #[w0, w1, w2, w3, w4, w5] := by
    have hs : args.size = 6 := by simpa [Cond.value, given_1] using hcnt
    obtain ⟨L⟩ := args
    match L, hs with
    | [w0, w1, w2, w3, w4, w5], _ => exact ⟨w0, w1, w2, w3, w4, w5, rfl⟩
  have hw := fun d (hd : d ∈ tables_1) => atoms_spec (ws := Jvm.Cond.code x code maxLocals ret :: tables_1) hat d (List.mem_cons_of_mem _ hd)
  have hfit : Fit s := fun {y c} hc i hi => by
    obtain ⟨ha, rfl⟩ := Array.getElem?_eq_some_iff.mp hc
    have q := List.all_eq_true.mp ((Array.all_eq_true_iff_forall_mem.mp hF) _ (Array.getElem_mem ha)) i (List.mem_range.mpr hi)
    simpa [Array.getElem?_eq_getElem hi] using q
  obtain ⟨i0, ei0⟩ := is_v t0
  obtain rfl : w0 = (.int i0) := Option.some.inj ei0
  obtain ⟨i1, ei1⟩ := is_v t1
  obtain rfl : w1 = (.int i1) := Option.some.inj ei1
  obtain ⟨i2, ei2⟩ := is_v t2
  obtain rfl : w2 = (.int i2) := Option.some.inj ei2
  obtain ⟨i3, ei3⟩ := is_v t3
  obtain rfl : w3 = (.int i3) := Option.some.inj ei3
  obtain ⟨i4, ei4⟩ := is_v t4
  obtain rfl : w4 = (.int i4) := Option.some.inj ei4
  obtain ⟨i5, ei5⟩ := is_v t5
  obtain rfl : w5 = (.int i5) := Option.some.inj ei5
  obtain ⟨n, o, h1, h2, h3, _, L, rfl, ⟨rfl, N⟩, hq⟩ := rm0 l s _ hw tables_1 i0 i1 i2 i3 i4 i5  s.heap s.heap.size (Nat.le_refl _)  p e ha hc hk s m _ below hf ((Spec.applies_iff_loose hf).mp happ).1 ⟨rfl, State.Warmed39.refl s, rfl⟩ trivial
  refine ⟨n, _, h1, h2, h3, hpost _ _ _ _ _ _ ⟨Cond.after_iff.mpr rfl, Cond.after_iff.mpr (eq_i res_at (Term.int_eval (1)) rfl), trivial⟩ ⟨hq.1, hq.2.1, (hq.2.2.sift fun y hy => Or.inr (N y hy)).mono (by decide) (by decide)⟩⟩
theorem main_1_1 : Claimed_1_1 := comes_1 fun _ _ _ _ _ _ h hF => ⟨h.1, hF⟩
theorem main_1_2 : Claimed_1_2 := comes_1 fun _ _ _ _ _ _ h hF => ⟨h.2.1, hF⟩
end Jvm.Pilot.@@N@@
namespace Jvm.Pilot.@@N@@
open Jvm Jvm.ClassFile Sem Op Lib Jvm.Free Jvm.Stand Jvm.Pilot.@@N@@.Jvm.D
/-! MADE BY PROGRAM (witnessworld.py) out of the Statement's table words and the real class files: 10 classes; the members and pool entries that the words name. The judged class is class 1, her method 2. -/
namespace start1
open Jvm.ClassFile
def u (s : String) : CpInfo := .utf8 (stringToUtf16 s)
/-- a pool by its gaps: so many unusable entries, then the entry; so many at the end -/
def gap : Nat → List CpInfo → List CpInfo
  | 0, r => r
  | n + 1, r => .unusable :: gap n r
def poolList (es : List (Nat × CpInfo)) (last : Nat) : List CpInfo := es.foldr (fun e r => gap e.1 (e.2 :: r)) (gap last [])
def pool (es : List (Nat × CpInfo)) (last : Nat) : Array CpInfo := ⟨poolList es last⟩
def fileOf (pool : Array CpInfo) (this : Nat) (attrs : Array Attribute := #[]) (ms : Array MethodInfo := #[]) (fl : Nat := 33) (sup : Nat := 0) (ifs : Array Nat := #[]) (fds : Array FieldInfo := #[]) : ClassFile where
  minorVersion := 0
  majorVersion := 65
  constantPool := pool
  accessFlags := fl
  thisClass := this
  superClass := sup
  interfaces := ifs
  fields := fds
  methods := ms
  attributes := attrs
def plain (name : String) (sup : Option ClassId) : Class where
  name := name
  kind := .ordinary
  loader := none
  accessFlags := 33
  super := sup
  interfaces := #[]
  cf := none
  fields := #[]
  methods := #[]
  instanceTypes := #[]
  staticTypes := #[]
  resolved := #[]
  callSites := []
  init := .initialized
  statics := none
  mirror := none

def pool0 : Array CpInfo := pool [(5, u "<init>"), (0, u "()V"), (1, .class_ 10), (1, u "java/lang/Object")] 113

def k0c0 : Code := { maxStack := 0, maxLocals := 1, code := object_method_1_code, exceptionTable := #[], attributes := #[] }
def k0m0 : Method := { name := "<init>", desc := "()V", sig := { parameters := [], returnType := none }, accessFlags := 1, code := some k0c0 }
/-- java/lang/Object -/
def k0 : Class := { plain "java/lang/Object" none with
  accessFlags := 33
  interfaces := #[]
  cf := some (fileOf pool0 8 #[] #[{ accessFlags := 1, nameIndex := 5, descriptorIndex := 6, attributes := #[] }] 33 0 #[] #[])
  fields := #[]
  methods := #[k0m0]
  instanceTypes := #[]
  staticTypes := #[]
  resolved := Array.replicate 124 none
  statics := none }

def pool1 : Array CpInfo := pool [(2, .class_ 4), (1, u "java/lang/Object"), (0, u "<init>"), (0, u "()V"), (0, .integer 2147483647), (0, .class_ 9), (0, u "com/example/ranked_odds/rankedodds/eval/JudgedRanking"), (0, .methodref 8 11), (0, .nameAndType 5 12), (0, u "([I[I)V"), (0, .methodref 14 15), (0, .class_ 16), (0, .nameAndType 17 18), (0, u "com/example/ranked_odds/rankedodds/eval/JudgedRankingRelevantCountPinLaw"), (0, u "one"), (0, u "(ZI)I"), (0, .methodref 8 20), (0, .nameAndType 21 22), (0, u "relevantCount"), (0, u "()I"), (3, u "law"), (0, u "(IIIIII)Z")] 4

def k1m0 : Method := { name := "<init>", desc := "()V", sig := { parameters := [], returnType := none }, accessFlags := 1, code := none }
def k1c1 : Code := { maxStack := 1, maxLocals := 2, code := method_2_code, exceptionTable := #[], attributes := #[] }
def k1m1 : Method := { name := "one", desc := "(ZI)I", sig := { parameters := [.boolean, .int], returnType := some .int }, accessFlags := 10, code := some k1c1 }
def k1c2 : Code := { maxStack := 4, maxLocals := 11, code := code, exceptionTable := #[], attributes := #[] }
def k1m2 : Method := { name := "law", desc := "(IIIIII)Z", sig := { parameters := [.int, .int, .int, .int, .int, .int], returnType := some .boolean }, accessFlags := 9, code := some k1c2 }
/-- com/example/ranked_odds/rankedodds/eval/JudgedRankingRelevantCountPinLaw -/
def k1 : Class := { plain "com/example/ranked_odds/rankedodds/eval/JudgedRankingRelevantCountPinLaw" (some 0) with
  accessFlags := 49
  interfaces := #[]
  cf := some (fileOf pool1 14 #[] #[{ accessFlags := 1, nameIndex := 5, descriptorIndex := 6, attributes := #[] }, { accessFlags := 10, nameIndex := 17, descriptorIndex := 18, attributes := #[] }, { accessFlags := 9, nameIndex := 26, descriptorIndex := 27, attributes := #[] }] 49 2 #[] #[])
  fields := #[]
  methods := #[k1m0, k1m1, k1m2]
  instanceTypes := #[]
  staticTypes := #[]
  resolved := Array.replicate 32 none
  statics := none }

def pool2 : Array CpInfo := pool [(1, .methodref 2 3), (0, .class_ 4), (0, .nameAndType 5 6), (0, u "java/lang/Object"), (0, u "<init>"), (0, u "()V"), (0, .class_ 8), (0, u "java/lang/Record")] 13

def k2c0 : Code := { maxStack := 1, maxLocals := 1, code := jdk_30_method_1_code, exceptionTable := #[], attributes := #[] }
def k2m0 : Method := { name := "<init>", desc := "()V", sig := { parameters := [], returnType := none }, accessFlags := 4, code := some k2c0 }
/-- java/lang/Record -/
def k2 : Class := { plain "java/lang/Record" (some 0) with
  accessFlags := 1057
  interfaces := #[]
  cf := some (fileOf pool2 7 #[] #[{ accessFlags := 4, nameIndex := 5, descriptorIndex := 6, attributes := #[] }] 1057 2 #[] #[])
  fields := #[]
  methods := #[k2m0]
  instanceTypes := #[]
  staticTypes := #[]
  resolved := Array.replicate 22 none
  statics := none }

def pool3 : Array CpInfo := pool [(1, .methodref 2 3), (0, .class_ 4), (0, .nameAndType 5 6), (0, u "java/lang/Record"), (0, u "<init>"), (0, u "()V"), (0, .fieldref 8 9), (0, .class_ 10), (0, .nameAndType 11 12), (0, u "com/example/ranked_odds/rankedodds/eval/JudgedRanking"), (0, u "relevance"), (0, u "[I"), (0, .fieldref 8 14), (0, .nameAndType 15 12), (0, u "judged"), (5, u "()I"), (42, u "([I[I)V"), (12, u "relevantCount")] 71

def k3c0 : Code := { maxStack := 2, maxLocals := 3, code := prog_5_method_1_code, exceptionTable := #[], attributes := #[] }
def k3m0 : Method := { name := "<init>", desc := "([I[I)V", sig := { parameters := [(.array .int), (.array .int)], returnType := none }, accessFlags := 0, code := some k3c0 }
def k3c1 : Code := { maxStack := 2, maxLocals := 6, code := prog_5_method_4_code, exceptionTable := #[], attributes := #[] }
def k3m1 : Method := { name := "relevantCount", desc := "()I", sig := { parameters := [], returnType := some .int }, accessFlags := 0, code := some k3c1 }
/-- com/example/ranked_odds/rankedodds/eval/JudgedRanking -/
def k3 : Class := { plain "com/example/ranked_odds/rankedodds/eval/JudgedRanking" (some 2) with
  accessFlags := 48
  interfaces := #[]
  cf := some (fileOf pool3 8 #[] #[{ accessFlags := 0, nameIndex := 5, descriptorIndex := 64, attributes := #[] }, { accessFlags := 0, nameIndex := 77, descriptorIndex := 21, attributes := #[] }] 48 2 #[] #[{ accessFlags := 18, nameIndex := 11, descriptorIndex := 12, attributes := #[] }, { accessFlags := 18, nameIndex := 15, descriptorIndex := 12, attributes := #[] }])
  fields := #[{ name := "relevance", type := (.array .int), accessFlags := 18, slot := 0, constantValue := 0 }, { name := "judged", type := (.array .int), accessFlags := 18, slot := 1, constantValue := 0 }]
  methods := #[k3m0, k3m1]
  instanceTypes := #[(.array .int), (.array .int)]
  staticTypes := #[]
  resolved := Array.replicate 149 none
  statics := none }

def pool4 : Array CpInfo := pool [(1, u "java/lang/Cloneable"), (0, .class_ 1), (0, u "java/lang/Object"), (0, .class_ 3)] 3

/-- java/lang/Cloneable -/
def k4 : Class := { plain "java/lang/Cloneable" (some 0) with
  accessFlags := 1537
  interfaces := #[]
  cf := some (fileOf pool4 2 #[] #[] 1537 4 #[] #[])
  fields := #[]
  methods := #[]
  instanceTypes := #[]
  staticTypes := #[]
  resolved := Array.replicate 8 none
  statics := none }

def pool5 : Array CpInfo := pool [(1, u "java/io/Serializable"), (0, .class_ 1), (0, u "java/lang/Object"), (0, .class_ 3)] 3

/-- java/io/Serializable -/
def k5 : Class := { plain "java/io/Serializable" (some 0) with
  accessFlags := 1537
  interfaces := #[]
  cf := some (fileOf pool5 2 #[] #[] 1537 4 #[] #[])
  fields := #[]
  methods := #[]
  instanceTypes := #[]
  staticTypes := #[]
  resolved := Array.replicate 8 none
  statics := none }

/-- the primitive byte -/
def k6 : Class := { plain "byte" none with kind := .primitive 'B', accessFlags := 0x411 }
/-- [B -/
def k7 : Class := { plain "[B" (some 0) with kind := .array 6 .byte, interfaces := #[4, 5], accessFlags := 1041 }

/-- the primitive int -/
def k8 : Class := { plain "int" none with kind := .primitive 'I', accessFlags := 0x411 }
/-- [I -/
def k9 : Class := { plain "[I" (some 0) with kind := .array 8 .int, interfaces := #[4, 5], accessFlags := 1041 }

def heap : Heap := #[]
def classes : Array Class := #[k0, k1, k2, k3, k4, k5, k6, k7, k8, k9]
def interned : List (Array UInt16 × Addr) := []
def slotsUsed : Nat := 0
def theMethod : MethodId := ⟨1, 2⟩
def args0 : Array Value := #[.int 5, .int 5, .int 5, .int 5, .int 5, .int 5]
def aboutOver (below : List Frame) : State where
  vm := { classes := classes, interned := interned.toArray }
  heap := heap
  slotsUsed := slotsUsed
  threads := #[{ frames := .invoking theMethod args0 :: below }]
def below0 : List Frame := [.native { method := ⟨0, 0⟩, args := #[] }]
def about1 : State := aboutOver below0
def p0 : Program := .bare "" "" ""
def e0 : Env := launch0.env 0 0 0
theorem w_frames : about1.frames = Frame.invoking theMethod args0 :: below0 := rfl
set_option maxRecDepth 65536 in
theorem w_args : argsFit about1.vm theMethod args0 = true := by decide +kernel
set_option maxRecDepth 65536 in
theorem w_heap : heapFits about1 = true := by decide +kernel
set_option maxRecDepth 65536 in
theorem w_runnable : about1.curStatus? = some .runnable := by decide +kernel
set_option maxRecDepth 65536 in
theorem w_alone : about1.alone = true := by decide +kernel
set_option maxRecDepth 65536 in
theorem w_named : about1.methodNamed? x = some theMethod := by decide +kernel
set_option maxRecDepth 65536 in
theorem w_hears : about1.hears theMethod below0 = true := by decide +kernel
set_option maxRecDepth 65536 in
theorem w_ripe : about1.ripe theMethod args0 below0 = true := by decide +kernel
theorem w_running : about1.status = .running := rfl
set_option maxRecDepth 65536 in
theorem w_room : about1.hasRoom e0.platform room_1 = true :=
  launch0.hasRoom_least _ room_1 (by decide +kernel) (by decide +kernel) (by decide +kernel) (by decide +kernel) (by decide +kernel) (by decide +kernel)
theorem allAtoms_all (ts : List Jvm.Cond) (a : Array Jvm.Value) (st : Jvm.State) : (allAtoms ts).before a st = ts.all (fun c => c.before a st) := by
  induction ts with
  | nil => rfl
  | cons c t ih =>
    show (Jvm.Cond.and c (allAtoms t)).before a st = _
    rw [Jvm.Cond.before_and, ih, List.all_cons]
def words1 : List Jvm.Cond := Jvm.Cond.code x code maxLocals ret :: tables_1
/-- a 'code' word, met by the world's own term for the bytes: nothing is compared byte by byte -/
theorem code_word {y : MethodName} {bytes : ByteArray} {mx : Nat} {rt : Option FieldType} {a : Array Value} {s : State} {m : MethodId} {meth : Method} {c : Code} (h1 : s.methodNamed? y = some m) (h2 : s.vm.method? m = some meth) (h3 : meth.code = some c) (h4 : c.code = bytes)
    (h5 : (c.maxLocals == mx && c.exceptionTable.isEmpty && decide (c.maxStack ≤ mostOperands) && decide (meth.sig.returnType = rt) && !meth.locks && decide (parseMethodDescriptor y.desc = some meth.sig)) = true) : (Jvm.Cond.code y bytes mx rt).before a s = true := by
  simp only [Bool.and_eq_true, beq_iff_eq, Bool.not_eq_true', decide_eq_true_eq] at h5
  obtain ⟨⟨⟨⟨⟨g1, g2⟩, g3⟩, g4⟩, g5⟩, g6⟩ := h5
  simp [Cond.before, Cond.holds, Cond.value, h1, h2, h3, h4, g1, g2, g3, g4, g5, g6]
def isCode : Jvm.Cond → Bool
  | .code _ _ _ _ => true
  | _ => false
theorem all_split {L : List Jvm.Cond} {P : Jvm.Cond → Bool} (h1 : L.all (fun c => isCode c || P c) = true) (h2 : ∀ c ∈ L.filter isCode, P c = true) : L.all P = true := by
  refine List.all_eq_true.mpr fun c hc => ?_
  have h := List.all_eq_true.mp h1 c hc
  rcases Bool.eq_false_or_eq_true (isCode c) with hi | hi
  · exact h2 c (List.mem_filter.mpr ⟨hc, hi⟩)
  · simpa [hi] using h
set_option maxRecDepth 65536 in
theorem w_c0 : (Jvm.Cond.code x code maxLocals ret).before args0 about1 = true := code_word (m := ⟨1, 2⟩) (meth := k1m2) (c := k1c2) (by decide +kernel) rfl rfl rfl (by decide +kernel)
set_option maxRecDepth 65536 in
theorem w_c1 : (Jvm.Cond.code ({ cls := "com/example/ranked_odds/rankedodds/eval/JudgedRanking", name := "<init>", desc := "([I[I)V" } : Jvm.MethodName) prog_5_method_1_code (3 : Nat) (Option.none : Option Jvm.ClassFile.FieldType)).before args0 about1 = true := code_word (m := ⟨3, 0⟩) (meth := k3m0) (c := k3c0) (by decide +kernel) rfl rfl rfl (by decide +kernel)
set_option maxRecDepth 65536 in
theorem w_c2 : (Jvm.Cond.code ({ cls := "java/lang/Record", name := "<init>", desc := "()V" } : Jvm.MethodName) jdk_30_method_1_code (1 : Nat) (Option.none : Option Jvm.ClassFile.FieldType)).before args0 about1 = true := code_word (m := ⟨2, 0⟩) (meth := k2m0) (c := k2c0) (by decide +kernel) rfl rfl rfl (by decide +kernel)
set_option maxRecDepth 65536 in
theorem w_c3 : (Jvm.Cond.code ({ cls := "java/lang/Object", name := "<init>", desc := "()V" } : Jvm.MethodName) object_method_1_code (1 : Nat) (Option.none : Option Jvm.ClassFile.FieldType)).before args0 about1 = true := code_word (m := ⟨0, 0⟩) (meth := k0m0) (c := k0c0) (by decide +kernel) rfl rfl rfl (by decide +kernel)
set_option maxRecDepth 65536 in
theorem w_c4 : (Jvm.Cond.code ({ cls := "com/example/ranked_odds/rankedodds/eval/JudgedRankingRelevantCountPinLaw", name := "one", desc := "(ZI)I" } : Jvm.MethodName) method_2_code (2 : Nat) (Option.some Jvm.ClassFile.FieldType.int)).before args0 about1 = true := code_word (m := ⟨1, 1⟩) (meth := k1m1) (c := k1c1) (by decide +kernel) rfl rfl rfl (by decide +kernel)
set_option maxRecDepth 65536 in
theorem w_c5 : (Jvm.Cond.code ({ cls := "com/example/ranked_odds/rankedodds/eval/JudgedRanking", name := "relevantCount", desc := "()I" } : Jvm.MethodName) prog_5_method_4_code (6 : Nat) (Option.some Jvm.ClassFile.FieldType.int)).before args0 about1 = true := code_word (m := ⟨3, 1⟩) (meth := k3m1) (c := k3c1) (by decide +kernel) rfl rfl rfl (by decide +kernel)
def codes1 : List Jvm.Cond := [Jvm.Cond.code x code maxLocals ret, Jvm.Cond.code ({ cls := "com/example/ranked_odds/rankedodds/eval/JudgedRanking", name := "<init>", desc := "([I[I)V" } : Jvm.MethodName) prog_5_method_1_code (3 : Nat) (Option.none : Option Jvm.ClassFile.FieldType), Jvm.Cond.code ({ cls := "java/lang/Record", name := "<init>", desc := "()V" } : Jvm.MethodName) jdk_30_method_1_code (1 : Nat) (Option.none : Option Jvm.ClassFile.FieldType), Jvm.Cond.code ({ cls := "java/lang/Object", name := "<init>", desc := "()V" } : Jvm.MethodName) object_method_1_code (1 : Nat) (Option.none : Option Jvm.ClassFile.FieldType), Jvm.Cond.code ({ cls := "com/example/ranked_odds/rankedodds/eval/JudgedRankingRelevantCountPinLaw", name := "one", desc := "(ZI)I" } : Jvm.MethodName) method_2_code (2 : Nat) (Option.some Jvm.ClassFile.FieldType.int), Jvm.Cond.code ({ cls := "com/example/ranked_odds/rankedodds/eval/JudgedRanking", name := "relevantCount", desc := "()I" } : Jvm.MethodName) prog_5_method_4_code (6 : Nat) (Option.some Jvm.ClassFile.FieldType.int)]
set_option maxRecDepth 65536 in
theorem codes_eq : words1.filter isCode = codes1 := rfl
theorem w_codes : ∀ c ∈ words1.filter isCode, c.before args0 about1 = true := by
  rw [codes_eq]
  intro c hc
  simp only [codes1, List.mem_cons, List.not_mem_nil, or_false] at hc
  rcases hc with rfl | rfl | rfl | rfl | rfl | rfl
  · exact w_c0
  · exact w_c1
  · exact w_c2
  · exact w_c3
  · exact w_c4
  · exact w_c5
set_option maxRecDepth 65536 in
theorem w_t1 : (words1.take 24).all (fun c => isCode c || c.before args0 about1) = true := by decide +kernel
set_option maxRecDepth 65536 in
theorem w_t2 : (words1.drop 24).all (fun c => isCode c || c.before args0 about1) = true := by decide +kernel
theorem w_tables : (allAtoms (Jvm.Cond.code x code maxLocals ret :: tables_1)).before args0 about1 = true := by
  rw [allAtoms_all]
  show words1.all (fun c => c.before args0 about1) = true
  refine all_split ?_ w_codes
  rw [← List.take_append_drop 24 words1, List.all_append, w_t1, w_t2]
  rfl
set_option maxRecDepth 65536 in
theorem w_case : (Jvm.Cond.and given_1 narrow_1).before args0 about1 = true := by decide +kernel
theorem w_applies : (headSpec (Jvm.Cond.code x code maxLocals ret :: tables_1) room_1).applies x e0.platform about1 = true :=
  (Spec.applies_iff w_frames).mpr ⟨w_running, w_runnable, w_alone, w_named, w_hears, w_ripe, w_room, w_tables⟩
theorem atStart : AtStart classFile x code maxLocals ret World_1 tables_1 room_1 Calls_1 rest_1 Pre_1 launch0 p0 e0 about1 theMethod args0 below0 :=
  ⟨lists_1, trivial, launch0.admits_env _ _ _, launch0.least_env, fairChoices_fair.cas, fairChoices_fair.clock, w_frames, w_args, w_heap, w_applies, trivial, trivial, w_case⟩
end start1
theorem witness_1 : WitnessClaimed_1 := ⟨start1.p0, start1.e0, start1.about1, start1.theMethod, start1.args0, start1.below0, start1.atStart⟩
end Jvm.Pilot.@@N@@
