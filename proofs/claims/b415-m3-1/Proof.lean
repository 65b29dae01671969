import JvmDerived
import JvmDerived.Pilot.@@N@@Statement
import JvmDerived.Pilot.@@N@@Code
set_option linter.unusedVariables false
set_option linter.unusedSimpArgs false
set_option maxHeartbeats 4000000
namespace Jvm.Pilot.@@N@@
open Jvm Jvm.ClassFile Sem Op Lib Jvm.Free Jvm.Stand Jvm.LawKit Jvm.RoadKit Bundle Jvm.Pilot.@@N@@.Jvm.D
/-! own kit: a walk read backwards: G T g says that from the state T with g on top the body comes to a good end -/
section OwnKit
variable {p : Program} {l : Launch} {e : Env} {R : Room} {s : State} {m : MethodId} {args : Array Value} {below : List Frame} {meth : Method} {c : Code} {T : State} {cells slots : Nat} {Z : State} {a0 : Array Value} {h : Heap} {n0 : Nat} {G : State → JFrame → Prop} {Q : Option Value → Heap → Vm → Prop} {J : Vm → Prop}
def Clo (p : Program) (e : Env) (below : List Frame) (G : State → JFrame → Prop) : Prop := ∀ (T T' : State) (g g' : JFrame), (∀ t, Steps p.tables e below (T'.setTop g') t → Steps p.tables e below (T.setTop g) t) → G T' g' → G T g
theorem Clo.go (hs : Clo p e below G) {T T' : State} {g g' : JFrame} (st : ∀ t, Steps p.tables e below (T'.setTop g') t → Steps p.tables e below (T.setTop g) t) (k : G T' g') : G T g := hs T T' g g' st k
def Sd (p : Program) (l : Launch) (e : Env) (R : Room) (s : State) (m : MethodId) (args : Array Value) (below : List Frame) (meth : Method) (c : Code) (n0 : Nat) (J : Vm → Prop) (T : State) (h : Heap) (cells slots : Nat) : Prop := ∃ (vm₁ : Vm) (locs : List Loc) (k0 : Nat), Stand p l e R (s.setVm vm₁) m args below meth c T locs cells slots ∧ Fr n0 locs ∧ T.heap = h ∧ s.Since vm₁ k0 ∧ k0 ≤ h.size ∧ J vm₁
/-- a word on the tables that a narrow warming keeps -/
def Stb (J : Vm → Prop) : Prop := ∀ (t : State) (vm' : Vm), t.WarmedH vm' → J t.vm → J vm'
theorem wzh {vm₁ : Vm} {k0 : Nat} (hZ : Z.Warmed39 s.vm) (hS : s.Since vm₁ k0) : Z.Warmed39 (s.setVm vm₁).vm := State.Warmed39.trans (t := s) hZ hS.1
theorem wo {vm₁ : Vm} {k0 : Nat} {own : String} (hown : s.vm.findClass own = some m.cls) (hS : s.Since vm₁ k0) : (s.setVm vm₁).vm.findClass own = some m.cls := by rw [show (s.setVm vm₁).vm = vm₁ from rfl, hS.1.alike.findClass]; exact hown
theorem Sd.here (X : Sd p l e R s m args below meth c n0 J T h cells slots) : At T m c below := by obtain ⟨_, _, _, X, _⟩ := X; exact X.here
theorem Sd.more (X : Sd p l e R s m args below meth c n0 J T h cells slots) {k n : Nat} (hk : cells ≤ k) (hn : slots ≤ n) : Sd p l e R s m args below meth c n0 J T h k n := by obtain ⟨v, L, k0, X, N⟩ := X; exact ⟨v, L, k0, X.more hk hn, N⟩
/-- how a body ends -/
def Fnl (p : Program) (l : Launch) (e : Env) (R : Room) (s : State) (m : MethodId) (args : Array Value) (below : List Frame) (meth : Method) (c : Code) (n0 : Nat) (Q : Option Value → Heap → Vm → Prop) (G : State → JFrame → Prop) : Prop :=
  ∀ (J : Vm → Prop), Stb J → ∀ (T : State) (h : Heap) (k n : Nat) (g : JFrame) (v : Option Value), Sd p l e R s m args below meth c n0 J T h k n → k ≤ R.cells → n ≤ R.slots → (meth.sig.returnType = none → v = none) →
    (∀ fs, (∀ (f : JFrame) (acts : List Action), f.method = m → f.locked = none → f.entered = [] → (doReturn e (T.setTop f) acts v).1 = T.setFrames fs) → Steps p.tables e below (T.setTop g) (T.setFrames fs)) → (∀ vm', J vm' → Q v h vm') → G T g
/-- a body's contract -/
def Con (l : Launch) (Z : State) (y : MethodName) (bytes : ByteArray) (maxL : Nat) (ret : Option FieldType) (ws : List Jvm.Cond) (rm : Room) (as' : Array Value) (h : Heap) (n0 : Nat) (J : Vm → Prop) (Q : Option Value → Heap → Vm → Prop) : Prop :=
  MetFree l y (head1 (Jvm.Cond.code y bytes maxL ret :: ws) rm) (fun a U => a = as' ∧ Z.Warmed39 U.vm ∧ U.heap = h ∧ J U.vm) (fun _ _ _ _ _ => True)
    (fun _ U o U' => ∃ v L, o = .returned v ∧ (Q v U'.heap U'.vm ∧ Fr n0 L) ∧ ReturnedEndW U o U' L rm.cells rm.slots)
theorem Con.of {y : MethodName} {bytes : ByteArray} {maxL : Nat} {ret : Option FieldType} {ws : List Jvm.Cond} {rm : Room} {as' : Array Value} (hp : plainFor y = true)
    (body : ∀ (G : State → JFrame → Prop) (p : Program) (e : Env) (s : State) (m : MethodId) (below : List Frame) (meth : Method) (c : Code) (s₁ : State),
      Clo p e below G → p.tables.exec = Jvm.exec → c.code = bytes → c.maxLocals = maxL → s.vm.findClass y.cls = some m.cls → meth.name = y.name → meth.sig.returnType = ret → Z.Warmed39 s.vm →
      Sd p l e rm s m as' below meth c n0 J s₁ h 0 0 → Stand p l e rm s m as' below meth c s₁ [] 0 0 → s.heap = h → J s.vm → Fnl p l e rm s m as' below meth c n0 Q G → G s₁ (entryFrame m as' maxL)) : Con l Z y bytes maxL ret ws rm as' h n0 J Q := by
  refine MetFree.of_bodySF hp hisR ?_
  intro p e s m args below meth c s₁ Bd hml hP hK
  obtain ⟨ha, hZ, hh, hJ0⟩ := hP
  subst ha
  refine body (fun T g => ∃ s₂ o, Steps p.tables e below (T.setTop g) s₂ ∧ s₂.status = .running ∧ Ended s₂ below o ∧ ∃ v L, o = .returned v ∧ (Q v s₂.heap s₂.vm ∧ Fr n0 L) ∧ ReturnedEndW s o s₂ L rm.cells rm.slots) p e s m below meth c s₁ ?_ Bd.exec Bd.bytes hml (findClass_of_methodNamed Bd.named) (name_of_methodNamed Bd.named Bd.method).1 Bd.returns hZ ⟨s.vm, [], 0, Stand.of_body Bd, Fr.nil n0, by rw [← hh, Bd.state]; rfl, (State.WarmedH.refl s).since 0, Nat.zero_le _, hJ0⟩ (Stand.of_body Bd) hh hJ0 ?_
  · intro T T' g g' st ⟨s₂, o, h1, r⟩
    exact ⟨s₂, o, st _ h1, r⟩
  · intro J1 hJs1 T h k n g v ⟨vm₁, locs, k0, X, N, eh, hS, hk0, hJ1⟩ hk hn hv st q
    obtain ⟨fs, hr, hrun, hended, hE⟩ := X.leaveW hS (by rw [eh]; exact hk0) (v := v) hv Bd.notSynchronized
    exact ⟨_, _, st fs hr, hrun, hended, v, locs, rfl, ⟨by show Q v T.heap T.vm; rw [eh]; exact q _ (hJs1 _ _ X.warmed hJ1), N⟩, hE.1, hE.2.1, hE.2.2.1, hE.2.2.2.mono hk hn⟩
theorem rRetI (fin : Fnl p l e R s m args below meth c n0 Q G) (hJs : Stb J) (X : Sd p l e R s m args below meth c n0 J T h cells slots) (hx : p.tables.exec = Jvm.exec) (hk : cells ≤ R.cells) (hn : slots ≤ R.slots) (hret : meth.sig.returnType = some .int) {pc : Nat} {Ls : Array Slot} {z : Int32} {rest : List Value} (hd : decode c.code pc = .ok (.ireturn, 1)) (q : ∀ vm', J vm' → Q (some (.int z)) h vm') : G T (mkF m pc Ls (.int z :: rest)) :=
  fin J hJs T h cells slots _ (some (.int z)) X hk hn (fun h => by rw [hret] at h; cases h) (fun fs hr => by obtain ⟨_, _, _, X, _⟩ := X; exact retOut X hx hret rfl (Or.inl ⟨rfl, Or.inl rfl, _, rfl⟩) hd hr) q
theorem rRetN (fin : Fnl p l e R s m args below meth c n0 Q G) (hJs : Stb J) (X : Sd p l e R s m args below meth c n0 J T h cells slots) (hx : p.tables.exec = Jvm.exec) (hk : cells ≤ R.cells) (hn : slots ≤ R.slots) {t : FieldType} (hret : meth.sig.returnType = some t) (ht : t = .boolean ∨ t = .byte ∨ t = .char ∨ t = .short) {pc : Nat} {Ls : Array Slot} {z z' : Int32} {rest : List Value} (hd : decode c.code pc = .ok (.ireturn, 1)) (hz : nar t z = z') (q : ∀ vm', J vm' → Q (some (.int z')) h vm') : G T (mkF m pc Ls (.int z :: rest)) :=
  fin J hJs T h cells slots _ (some (.int (nar t z))) X hk hn (fun h => by rw [hret] at h; cases h) (fun fs hr => by obtain ⟨_, _, _, X, _⟩ := X; exact retN X hx hret ht hd hr) (hz ▸ q)
theorem rRetL (fin : Fnl p l e R s m args below meth c n0 Q G) (hJs : Stb J) (X : Sd p l e R s m args below meth c n0 J T h cells slots) (hx : p.tables.exec = Jvm.exec) (hk : cells ≤ R.cells) (hn : slots ≤ R.slots) (hret : meth.sig.returnType = some .long) {pc : Nat} {Ls : Array Slot} {z : Int64} {rest : List Value} (hd : decode c.code pc = .ok (.lreturn, 1)) (q : ∀ vm', J vm' → Q (some (.long z)) h vm') : G T (mkF m pc Ls (.long z :: rest)) :=
  fin J hJs T h cells slots _ (some (.long z)) X hk hn (fun h => by rw [hret] at h; cases h) (fun fs hr => by obtain ⟨_, _, _, X, _⟩ := X; exact retOut X hx hret rfl (Or.inr (Or.inl ⟨rfl, rfl, _, rfl⟩)) hd hr) q
theorem rRetA (fin : Fnl p l e R s m args below meth c n0 Q G) (hJs : Stb J) (X : Sd p l e R s m args below meth c n0 J T h cells slots) (hx : p.tables.exec = Jvm.exec) (hk : cells ≤ R.cells) (hn : slots ≤ R.slots) {t : FieldType} (hret : meth.sig.returnType = some t) (ht : t.isReference = true) {pc : Nat} {Ls : Array Slot} {z : Value} (hz : z.isRef = true) (hw : narrow t z = z) {rest : List Value} (hd : decode c.code pc = .ok (.areturn, 1)) (q : ∀ vm', J vm' → Q (some z) h vm') : G T (mkF m pc Ls (z :: rest)) :=
  fin J hJs T h cells slots _ (some z) X hk hn (fun h => by rw [hret] at h; cases h) (fun fs hr => by obtain ⟨_, _, _, X, _⟩ := X; exact retOut X hx hret hw (Or.inr (Or.inr (Or.inr (Or.inr ⟨rfl, ht, hz⟩)))) hd hr) q
theorem rRetD (fin : Fnl p l e R s m args below meth c n0 Q G) (hJs : Stb J) (X : Sd p l e R s m args below meth c n0 J T h cells slots) (hx : p.tables.exec = Jvm.exec) (hk : cells ≤ R.cells) (hn : slots ≤ R.slots) (hret : meth.sig.returnType = some .double) {pc : Nat} {Ls : Array Slot} {z : UInt64} {rest : List Value} (hd : decode c.code pc = .ok (.dreturn, 1)) (q : ∀ vm', J vm' → Q (some (.double z)) h vm') : G T (mkF m pc Ls (.double z :: rest)) :=
  fin J hJs T h cells slots _ (some (.double z)) X hk hn (fun h => by rw [hret] at h; cases h) (fun fs hr => by obtain ⟨_, _, _, X, _⟩ := X; exact retOut X hx hret rfl (Or.inr (Or.inr (Or.inl ⟨rfl, rfl, _, rfl⟩))) hd hr) q
theorem rRetV (fin : Fnl p l e R s m args below meth c n0 Q G) (hJs : Stb J) (X : Sd p l e R s m args below meth c n0 J T h cells slots) (hx : p.tables.exec = Jvm.exec) (hk : cells ≤ R.cells) (hn : slots ≤ R.slots) (hret : meth.sig.returnType = none) {pc : Nat} {Ls : Array Slot} (hd : decode c.code pc = .ok (.return_, 1)) (q : ∀ vm', J vm' → Q none h vm') : G T (mkF m pc Ls []) :=
  fin J hJs T h cells slots _ none X hk hn (fun _ => rfl) (fun fs hr => by obtain ⟨_, _, _, X, _⟩ := X; exact X.returnOut hx hret hd hr) q
theorem rLdcI (hs : Clo p e below G) (X : Sd p l e R s m args below meth c n0 J T h cells slots) (hx : p.tables.exec = Jvm.exec) (hZ : Z.Warmed39 s.vm) {own : String} {index : Nat} {v : Int32} (hown : s.vm.findClass own = some m.cls) (w : (Jvm.Cond.constant own index v).before a0 Z = true) {g : JFrame} (hg : g.method = m) (hd : decode c.code g.pc = .ok (.ldc index, 2)) (k : G T { g with pc := g.pc + 2, stack := .int v :: g.stack }) : G T g := by
  obtain ⟨vm₁, _, _, X, _, _, hS, _⟩ := X
  have hZ := wzh hZ hS
  have hown := wo hown hS
  exact hs.go (X.ldcInt hx hown (mvT hZ w) hg hd) k
theorem rLdcL (hs : Clo p e below G) (X : Sd p l e R s m args below meth c n0 J T h cells slots) (hx : p.tables.exec = Jvm.exec) (hZ : Z.Warmed39 s.vm) {own : String} {index : Nat} {v : Int64} (hown : s.vm.findClass own = some m.cls) (w : (Jvm.Cond.constantLong own index v).before a0 Z = true) {g : JFrame} (hg : g.method = m) (hd : decode c.code g.pc = .ok (.ldc2_w index, 3)) (k : G T { g with pc := g.pc + 3, stack := .long v :: g.stack }) : G T g := by
  obtain ⟨vm₁, _, _, X, _, _, hS, _⟩ := X
  have hZ := wzh hZ hS
  have hown := wo hown hS
  exact hs.go (X.ldc2Long hx hown (mvT hZ w) hg hd) k
theorem rLdcD (hs : Clo p e below G) (X : Sd p l e R s m args below meth c n0 J T h cells slots) (hx : p.tables.exec = Jvm.exec) (hZ : Z.Warmed39 s.vm) {own : String} {index : Nat} {v : UInt64} (hown : s.vm.findClass own = some m.cls) (w : (Jvm.Cond.constantDouble own index v).before a0 Z = true) {g : JFrame} (hg : g.method = m) (hd : decode c.code g.pc = .ok (.ldc2_w index, 3)) (k : G T { g with pc := g.pc + 3, stack := .double v :: g.stack }) : G T g := by
  obtain ⟨vm₁, _, _, X, _, _, hS, _⟩ := X
  have hZ := wzh hZ hS
  have hown := wo hown hS
  exact hs.go (X.ldc2DoubleC hx hown (mvT hZ w) hg hd) k
theorem rIrem (hs : Clo p e below G) (X : Sd p l e R s m args below meth c n0 J T h cells slots) (hx : p.tables.exec = Jvm.exec) {g : JFrame} (hg : g.method = m) {x y : Int32} {rest : List Value} (hd : decode c.code g.pc = .ok (.irem, 1)) (hst : g.stack = .int y :: .int x :: rest) (hy : y ≠ 0) (k : G T { g with pc := g.pc + 1, stack := .int (x % y) :: rest }) : G T g := by
  obtain ⟨_, _, _, X, _⟩ := X
  exact hs.go (fun _ q => iremM X hx hg hd hst hy q) k
theorem rLrem (hs : Clo p e below G) (X : Sd p l e R s m args below meth c n0 J T h cells slots) (hx : p.tables.exec = Jvm.exec) {g : JFrame} (hg : g.method = m) {x y : Int64} {rest : List Value} (hd : decode c.code g.pc = .ok (.lrem, 1)) (hst : g.stack = .long y :: .long x :: rest) (hy : y ≠ 0) (k : G T { g with pc := g.pc + 1, stack := .long (x % y) :: rest }) : G T g :=
  hs.go (fun _ q => XS.lrem X.here hx hg hd hst hy q) (by rw [lrem_mod]; exact k)
/-! arrays -/
theorem rNewP (hs : Clo p e below G) (X : Sd p l e R s m args below meth c n0 J T h cells slots) (hx : p.tables.exec = Jvm.exec) (hZ : Z.Warmed39 s.vm) {aty : ArrayType} (w : (Jvm.Cond.arrayClass (newarray.typeOf aty)).before a0 Z = true) {g : JFrame} (hg : g.method = m) (hd : decode c.code g.pc = .ok (.newarray aty, 2)) {n : Int32} {rest : List Value} (hst : g.stack = .int n :: rest)
    (hn : ¬ n < 0) (cap len : Nat) (hcap : n.toNatClampNeg ≤ cap) (hb : cap * 8 ≤ 536870912) (hc : cells + 1 ≤ R.cells) (hl : slots + cap ≤ R.slots)
    (k : ∀ (T' : State) (h' : Heap) (cA : ClassId) (b : Addr), b = h.size → Sd p l e R s m args below meth c n0 J T' h' (cells + 1) (slots + cap) → Ext h h' → Arv Z h' b cA (newarray.typeOf aty) n (List.replicate len (defaultValue (newarray.typeOf aty))) (defaultValue (newarray.typeOf aty)) → G T' { g with pc := g.pc + 2, stack := .ref b :: rest }) : G T g := by
  obtain ⟨vm₁, L, k0, X, N, eh, hS, hk0, hJ1⟩ := X
  have hZ := wzh hZ hS
  obtain ⟨T', h', cA, X', e', E, A, st⟩ := newP X hx hZ w eh hg hd hst hn hcap hb hc hl
  exact hs.go st (k T' h' cA h.size rfl ⟨vm₁, L, k0, X', N, e', hS, Nat.le_trans hk0 E.1, hJ1⟩ E ((Arv.new A hn).pad (pad_rep [] _ len)))
theorem rStI (hs : Clo p e below G) (X : Sd p l e R s m args below meth c n0 J T h cells slots) (hx : p.tables.exec = Jvm.exec) (hZ : Z.Warmed39 s.vm) {a : Addr} {kc : ClassId} {z : Int32} {vs : List Value} {dv : Value} (V : Arv Z h a kc .int z vs dv) (ga : n0 ≤ a) {j x : Int32} (hj : ¬ j < 0 ∧ j < z) (i : Nat) (hi : j.toNatClampNeg = i) (hl : i < vs.length)
    {g : JFrame} (hg : g.method = m) {rest : List Value} (hst : g.stack = .int x :: .int j :: .ref a :: rest) (hd : decode c.code g.pc = .ok (.iastore, 1))
    (k : ∀ (T' : State) (h' : Heap), Sd p l e R s m args below meth c n0 J T' h' cells slots → Wr h h' a i (.int x) → Arv Z h' a kc .int z (vs.set i (.int x)) dv → G T' { g with pc := g.pc + 1, stack := rest }) : G T g := by
  obtain ⟨vm₁, L, k0, X, N, eh, hS, hk0, hJ1⟩ := X
  have hZ := wzh hZ hS
  obtain ⟨cl, A, q1, S, q3, H, F⟩ := V
  obtain ⟨T', h', X', e', W, st⟩ := stI X hx hZ eh A (j := j) (inb_of S hj) hg hst hd
  exact hs.go st (k T' h' ⟨vm₁, _, k0, X', Fr.snoc X' N ga, e', hS, Nat.le_trans hk0 (Keep.of_wr W).1, hJ1⟩ (hi ▸ W) (Arv.set A q1 S q3 H F rfl W i hi hl))
theorem rStB (hs : Clo p e below G) (X : Sd p l e R s m args below meth c n0 J T h cells slots) (hx : p.tables.exec = Jvm.exec) (hZ : Z.Warmed39 s.vm) {a : Addr} {kc : ClassId} {z : Int32} {vs : List Value} {dv : Value} (V : Arv Z h a kc .byte z vs dv) (ga : n0 ≤ a) {j x x' : Int32} (hj : ¬ j < 0 ∧ j < z) (i : Nat) (hi : j.toNatClampNeg = i) (hl : i < vs.length) (hnx : x.toInt8.toInt32 = x')
    {g : JFrame} (hg : g.method = m) {rest : List Value} (hst : g.stack = .int x :: .int j :: .ref a :: rest) (hd : decode c.code g.pc = .ok (.bastore, 1))
    (k : ∀ (T' : State) (h' : Heap), Sd p l e R s m args below meth c n0 J T' h' cells slots → Wr h h' a i (.int x') → Arv Z h' a kc .byte z (vs.set i (.int x')) dv → G T' { g with pc := g.pc + 1, stack := rest }) : G T g := by
  obtain ⟨vm₁, L, k0, X, N, eh, hS, hk0, hJ1⟩ := X
  have hZ := wzh hZ hS
  obtain ⟨cl, A, q1, S, q3, H, F⟩ := V
  obtain ⟨T', h', X', e', W, st⟩ := stB X hx hZ eh A (j := j) (inb_of S hj) hg hst hd
  subst hnx
  exact hs.go st (k T' h' ⟨vm₁, _, k0, X', Fr.snoc X' N ga, e', hS, Nat.le_trans hk0 (Keep.of_wr W).1, hJ1⟩ (hi ▸ W) (Arv.set A q1 S q3 H F (fits_nar_byte _) W i hi hl))
theorem rStC (hs : Clo p e below G) (X : Sd p l e R s m args below meth c n0 J T h cells slots) (hx : p.tables.exec = Jvm.exec) (hZ : Z.Warmed39 s.vm) {a : Addr} {kc : ClassId} {z : Int32} {vs : List Value} {dv : Value} (V : Arv Z h a kc .char z vs dv) (ga : n0 ≤ a) {j x x' : Int32} (hj : ¬ j < 0 ∧ j < z) (i : Nat) (hi : j.toNatClampNeg = i) (hl : i < vs.length) (hnx : nar .char x = x')
    {g : JFrame} (hg : g.method = m) {rest : List Value} (hst : g.stack = .int x :: .int j :: .ref a :: rest) (hd : decode c.code g.pc = .ok (.castore, 1))
    (k : ∀ (T' : State) (h' : Heap), Sd p l e R s m args below meth c n0 J T' h' cells slots → Wr h h' a i (.int x') → Arv Z h' a kc .char z (vs.set i (.int x')) dv → G T' { g with pc := g.pc + 1, stack := rest }) : G T g := by
  obtain ⟨vm₁, L, k0, X, N, eh, hS, hk0, hJ1⟩ := X
  have hZ := wzh hZ hS
  obtain ⟨cl, A, q1, S, q3, H, F⟩ := V
  obtain ⟨T', h', X', e', W, st⟩ := stC X hx hZ eh A (j := j) (inb_of S hj) hg hst hd
  subst hnx
  exact hs.go st (k T' h' ⟨vm₁, _, k0, X', Fr.snoc X' N ga, e', hS, Nat.le_trans hk0 (Keep.of_wr W).1, hJ1⟩ (hi ▸ W) (Arv.set A q1 S q3 H F (fits_nar_char _) W i hi hl))
theorem rLdI (hs : Clo p e below G) (X : Sd p l e R s m args below meth c n0 J T h cells slots) (hx : p.tables.exec = Jvm.exec) (hZ : Z.Warmed39 s.vm) {a : Addr} {kc : ClassId} {z : Int32} {vs : List Value} {dv : Value} (V : Arv Z h a kc .int z vs dv) {j : Int32} (hj : ¬ j < 0 ∧ j < z) {v : Value} (hv : vs.getD j.toNatClampNeg dv = v)
    {g : JFrame} (hg : g.method = m) {rest : List Value} (hst : g.stack = .int j :: .ref a :: rest) (hd : decode c.code g.pc = .ok (.iaload, 1)) (k : G T { g with pc := g.pc + 1, stack := v :: rest }) : G T g := by
  obtain ⟨vm₁, L, k0, X, N, eh, hS, hk0, hJ1⟩ := X
  have hZ := wzh hZ hS
  obtain ⟨cl, A, q1, S, q3, H, F⟩ := V
  exact hs.go (X.iaload hx (j := j) (v := v) (by rw [eh]; exact A.1) (State.isArrayOf_alike hZ.alike A.2.1) A.2.2 (inb_of S hj) (H.at (inb_of S hj) hv) hg hst hd) k
theorem rLdB (hs : Clo p e below G) (X : Sd p l e R s m args below meth c n0 J T h cells slots) (hx : p.tables.exec = Jvm.exec) (hZ : Z.Warmed39 s.vm) {a : Addr} {kc : ClassId} {z : Int32} {vs : List Value} {dv : Value} (V : Arv Z h a kc .byte z vs dv) {j : Int32} (hj : ¬ j < 0 ∧ j < z) {v : Value} (hv : vs.getD j.toNatClampNeg dv = v)
    {g : JFrame} (hg : g.method = m) {rest : List Value} (hst : g.stack = .int j :: .ref a :: rest) (hd : decode c.code g.pc = .ok (.baload, 1)) (k : G T { g with pc := g.pc + 1, stack := v :: rest }) : G T g := by
  obtain ⟨vm₁, L, k0, X, N, eh, hS, hk0, hJ1⟩ := X
  have hZ := wzh hZ hS
  obtain ⟨cl, A, q1, S, q3, H, F⟩ := V
  exact hs.go (X.baloadBytes hx (j := j) (v := v) (by rw [eh]; exact A.1) (State.isArrayOf_alike hZ.alike A.2.1) A.2.2 (inb_of S hj) (H.at (inb_of S hj) hv) hg hst hd) k
theorem rLdC (hs : Clo p e below G) (X : Sd p l e R s m args below meth c n0 J T h cells slots) (hx : p.tables.exec = Jvm.exec) (hZ : Z.Warmed39 s.vm) {a : Addr} {kc : ClassId} {z : Int32} {vs : List Value} {dv : Value} (V : Arv Z h a kc .char z vs dv) {j : Int32} (hj : ¬ j < 0 ∧ j < z) {v : Value} (hv : vs.getD j.toNatClampNeg dv = v)
    {g : JFrame} (hg : g.method = m) {rest : List Value} (hst : g.stack = .int j :: .ref a :: rest) (hd : decode c.code g.pc = .ok (.caload, 1)) (k : G T { g with pc := g.pc + 1, stack := v :: rest }) : G T g := by
  obtain ⟨vm₁, L, k0, X, N, eh, hS, hk0, hJ1⟩ := X
  have hZ := wzh hZ hS
  obtain ⟨cl, A, q1, S, q3, H, F⟩ := V
  exact hs.go (X.caload hx (j := j) (v := v) (by rw [eh]; exact A.1) (State.isArrayOf_alike hZ.alike A.2.1) A.2.2 (inb_of S hj) (H.at (inb_of S hj) hv) hg hst hd) k
theorem rLdR (hs : Clo p e below G) (X : Sd p l e R s m args below meth c n0 J T h cells slots) (hx : p.tables.exec = Jvm.exec) (hZ : Z.Warmed39 s.vm) {a : Addr} {kc : ClassId} {ty : FieldType} {z : Int32} {vs : List Value} {dv : Value} (V : Arv Z h a kc ty z vs dv) (hty : ty.isReference = true) {j : Int32} (hj : ¬ j < 0 ∧ j < z) {v : Value} (hv : vs.getD j.toNatClampNeg dv = v)
    {g : JFrame} (hg : g.method = m) {rest : List Value} (hst : g.stack = .int j :: .ref a :: rest) (hd : decode c.code g.pc = .ok (.aaload, 1)) (k : G T { g with pc := g.pc + 1, stack := v :: rest }) : G T g := by
  obtain ⟨vm₁, L, k0, X, N, eh, hS, hk0, hJ1⟩ := X
  have hZ := wzh hZ hS
  obtain ⟨cl, A, q1, S, q3, H, F⟩ := V
  exact hs.go (X.aaload hx (j := j) (v := v) (by rw [eh]; exact A.1) (State.isArrayOf_alike hZ.alike A.2.1) hty A.2.2 (inb_of S hj) (H.at (inb_of S hj) hv) hg hst hd) k
theorem rLen (hs : Clo p e below G) (X : Sd p l e R s m args below meth c n0 J T h cells slots) (hx : p.tables.exec = Jvm.exec) (hZ : Z.Warmed39 s.vm) {a : Addr} {kc : ClassId} {ty : FieldType} {z : Int32} {vs : List Value} {dv : Value} (V : Arv Z h a kc ty z vs dv)
    {g : JFrame} (hg : g.method = m) {rest : List Value} (hst : g.stack = .ref a :: rest) (hd : decode c.code g.pc = .ok (.arraylength, 1)) (k : G T { g with pc := g.pc + 1, stack := .int z :: rest }) : G T g := by
  obtain ⟨vm₁, L, k0, X, N, eh, hS, hk0, hJ1⟩ := X
  have hZ := wzh hZ hS
  obtain ⟨cl, A, q1, S, q3, H, F⟩ := V
  exact hs.go (X.arraylength hx (by rw [eh]; exact A.1) (State.isArrayOf_alike hZ.alike A.2.1) hg hst hd) (by rw [len_of S q3]; exact k)
theorem rNewR (hs : Clo p e below G) (X : Sd p l e R s m args below meth c n0 J T h cells slots) (hx : p.tables.exec = Jvm.exec) (hZ : Z.Warmed39 s.vm) {own C : String} {index : Nat} (hown : s.vm.findClass own = some m.cls) (w1 : (Jvm.Cond.classLink own index C).before a0 Z = true) (w2 : (Jvm.Cond.arrayOver (.object C)).before a0 Z = true) {g : JFrame} (hg : g.method = m) (hd : decode c.code g.pc = .ok (.anewarray index, 3)) {n : Int32} {rest : List Value} (hst : g.stack = .int n :: rest)
    (hn : ¬ n < 0) (cap len : Nat) (hcap : n.toNatClampNeg ≤ cap) (hb : cap * 8 ≤ 536870912) (hc : cells + 1 ≤ R.cells) (hl : slots + cap ≤ R.slots)
    (k : ∀ (T' : State) (h' : Heap) (cA : ClassId) (b : Addr), b = h.size → Sd p l e R s m args below meth c n0 J T' h' (cells + 1) (slots + cap) → Ext h h' → Arv Z h' b cA (.object C) n (List.replicate len .null) .null → Ovr Z cA C → G T' { g with pc := g.pc + 3, stack := .ref b :: rest }) : G T g := by
  obtain ⟨vm₁, L, k0, X, N, eh, hS, hk0, hJ1⟩ := X
  have hZ := wzh hZ hS
  have hown := wo hown hS
  obtain ⟨T', h', cA, X', e', E, A, O, st⟩ := newR X hx hZ hown w1 w2 eh hg hd hst hn hcap hb hc hl
  exact hs.go st (k T' h' cA h.size rfl ⟨vm₁, L, k0, X', N, e', hS, Nat.le_trans hk0 E.1, hJ1⟩ E ((Arv.new A hn).pad (pad_rep [] _ len)) O)
theorem rStR (hs : Clo p e below G) (X : Sd p l e R s m args below meth c n0 J T h cells slots) (hx : p.tables.exec = Jvm.exec) (hZ : Z.Warmed39 s.vm) {a : Addr} {kc : ClassId} {C : String} {z : Int32} {vs : List Value} {dv : Value} (V : Arv Z h a kc (.object C) z vs dv) (O : Ovr Z kc C) (ga : n0 ≤ a) {j : Int32} {y : Addr} (I : Ins Z h y C true) (hj : ¬ j < 0 ∧ j < z) (i : Nat) (hi : j.toNatClampNeg = i) (hl : i < vs.length)
    {g : JFrame} (hg : g.method = m) {rest : List Value} (hst : g.stack = .ref y :: .int j :: .ref a :: rest) (hd : decode c.code g.pc = .ok (.aastore, 1))
    (k : ∀ (T' : State) (h' : Heap), Sd p l e R s m args below meth c n0 J T' h' cells slots → Wr h h' a i (.ref y) → Arv Z h' a kc (.object C) z (vs.set i (.ref y)) dv → G T' { g with pc := g.pc + 1, stack := rest }) : G T g := by
  obtain ⟨vm₁, L, k0, X, N, eh, hS, hk0, hJ1⟩ := X
  have hZ := wzh hZ hS
  obtain ⟨cl, A, q1, S, q3, H, F⟩ := V
  obtain ⟨T', h', X', e', W, st⟩ := stR X hx hZ eh A (j := j) (v := .ref y) (inb_of S hj) rfl (Sto.ofV A q1 O I) hg hst hd
  exact hs.go st (k T' h' ⟨vm₁, _, k0, X', Fr.snoc X' N ga, e', hS, Nat.le_trans hk0 (Keep.of_wr W).1, hJ1⟩ (hi ▸ W) (Arv.set A q1 S q3 H F rfl W i hi hl))
/-! objects -/
theorem rNewO (hs : Clo p e below G) (X : Sd p l e R s m args below meth c n0 J T h cells slots) (hx : p.tables.exec = Jvm.exec) (hZ : Z.Warmed39 s.vm) {own C : String} {index n : Nat} (hown : s.vm.findClass own = some m.cls) (w : (Jvm.Cond.classLink own index C).before a0 Z = true) (wi : (Jvm.Cond.instantiable C n).before a0 Z = true) (wz : (Jvm.Cond.initialized C).before a0 Z = true)
    {g : JFrame} (hg : g.method = m) (hd : decode c.code g.pc = .ok (.new index, 3)) (hc : cells + 1 ≤ R.cells) (hl : slots + n ≤ R.slots)
    (k : ∀ (T' : State) (h' : Heap) (b : Addr), b = h.size → Sd p l e R s m args below meth c n0 J T' h' (cells + 1) (slots + n) → Ext h h' → Exa Z h' b C → (∀ {O nm d : String} {ty : FieldType}, Laid Z a0 C O nm d → parseFieldDescriptor d = some ty → Fld Z h' b O nm d (defaultValue ty)) → G T' { g with pc := g.pc + 3, stack := .ref b :: g.stack }) : G T g := by
  obtain ⟨vm₁, L, k0, X, N, eh, hS, hk0, hJ1⟩ := X
  have hZ := wzh hZ hS
  have hown := wo hown hS
  obtain ⟨T', h', X', e', E, A, D, -, st⟩ := newO X hx hZ hown w wi wz eh hg hd hc hl
  exact hs.go st (k T' h' h.size rfl ⟨vm₁, L, k0, X', N, e', hS, Nat.le_trans hk0 E.1, hJ1⟩ E A D)
theorem rInitO (hs : Clo p e below G) (X : Sd p l e R s m args below meth c n0 J T h cells slots) (hx : p.tables.exec = Jvm.exec) (hZ : Z.Warmed39 s.vm) {own : String} {idx : Nat} (hown : s.vm.findClass own = some m.cls) (w1 : (Jvm.Cond.methodLink own idx Lib.objectInit).before a0 Z = true) (w2 : (Jvm.Cond.instanceMethod Lib.objectInit).before a0 Z = true)
    (w3 : (Jvm.Cond.code Lib.objectInit ⟨#[0xb1]⟩ 1 none).before a0 Z = true) {g : JFrame} (hg : g.method = m) (hsize : g.locals.size = c.maxLocals) {a : Addr} {rest : List Value} (hst : g.stack = .ref a :: rest) (hd : decode c.code g.pc = .ok (.invokespecial idx, 3))
    (hf : 1 ≤ R.frames) {W : Nat} (hW : 2 * g.monitorRoom + (rest.map fun v => v.category).sum ≤ W) (hl : W + 12 ≤ R.locals)
    (k : ∀ T' : State, Sd p l e R s m args below meth c n0 J T' h cells slots → G T' { g with pc := g.pc + 3, stack := rest }) : G T g := by
  obtain ⟨vm₁, L, k0, X, N, eh, hS, hk0, hJ1⟩ := X
  have hZ := wzh hZ hS
  have hown := wo hown hS
  obtain ⟨T', X', e', st⟩ := initO X hx hZ hown w1 w2 w3 eh hg hsize hst hd hf hW hl
  exact hs.go st (k T' ⟨vm₁, L, k0, X', N, e', hS, hk0, hJ1⟩)
theorem rGetF (hs : Clo p e below G) (X : Sd p l e R s m args below meth c n0 J T h cells slots) (hx : p.tables.exec = Jvm.exec) (hZ : Z.Warmed39 s.vm) {own R0 O n d host : String} {index : Nat} (hown : s.vm.findClass own = some m.cls) (w : (Jvm.Cond.fieldLink own index R0 n d).before a0 Z = true ∨ (Jvm.Cond.fieldLinkNest own index R0 n d host).before a0 Z = true) (via : Via Z R0 O n d)
    {a : Addr} {v : Value} (F : Fld Z h a O n d v) {g : JFrame} (hg : g.method = m) {rest : List Value} (hst : g.stack = .ref a :: rest) (hd : decode c.code g.pc = .ok (.getfield index, 3))
    (k : ∀ T' : State, Sd p l e R s m args below meth c n0 J T' h cells slots → G T' { g with pc := g.pc + 3, stack := v :: rest }) : G T g := by
  obtain ⟨vm₁, L, k0, X, N, eh, hS, hk0, hJ1⟩ := X
  have hZ := wzh hZ hS
  have hown := wo hown hS
  obtain ⟨T', X', e', st⟩ := getF X hx hZ hown w via eh F hg hst hd
  exact hs.go st (k T' ⟨vm₁, L, k0, X', N, e', hS, hk0, hJ1⟩)
theorem rGetS (hs : Clo p e below G) (X : Sd p l e R s m args below meth c n0 J T h cells slots) (hx : p.tables.exec = Jvm.exec) (hZ : Z.Warmed39 s.vm) {own R0 O n d host : String} {index : Nat} (hown : s.vm.findClass own = some m.cls) (w : (Jvm.Cond.fieldLink own index R0 n d).before a0 Z = true ∨ (Jvm.Cond.fieldLinkNest own index R0 n d host).before a0 Z = true) (via : Via Z R0 O n d)
    {v : Value} (F : Sta Z h O n d v) {g : JFrame} (hg : g.method = m) (hd : decode c.code g.pc = .ok (.getstatic index, 3))
    (k : ∀ T' : State, Sd p l e R s m args below meth c n0 J T' h cells slots → G T' { g with pc := g.pc + 3, stack := v :: g.stack }) : G T g := by
  obtain ⟨vm₁, L, k0, X, N, eh, hS, hk0, hJ1⟩ := X
  have hZ := wzh hZ hS
  have hown := wo hown hS
  obtain ⟨T', X', e', st⟩ := getS2 X hx hZ hown w via eh F hg hd
  exact hs.go st (k T' ⟨vm₁, L, k0, X', N, e', hS, hk0, hJ1⟩)
theorem rPutF (hs : Clo p e below G) (X : Sd p l e R s m args below meth c n0 J T h cells slots) (hx : p.tables.exec = Jvm.exec) (hZ : Z.Warmed39 s.vm) {own R0 O n d host C : String} {index kk : Nat} (ty : FieldType) (hown : s.vm.findClass own = some m.cls) (w : (Jvm.Cond.fieldLink own index R0 n d).before a0 Z = true ∨ (Jvm.Cond.fieldLinkNest own index R0 n d host).before a0 Z = true) (via : Via Z R0 O n d)
    {a : Addr} {v old : Value} (F : Fld Z h a O n d old) (E : Exa Z h a C) (ga : n0 ≤ a) (L : (Jvm.Cond.lays C O n d).before a0 Z = true ∨ ((Jvm.Cond.laysFinal C O n d).before a0 Z = true ∧ own = O ∧ meth.name = "<init>")) (wi : (Jvm.Cond.instantiable C kk).before a0 Z = true)
    (hty : parseFieldDescriptor d = some ty) (hn : narrow ty v = v) (hf : fits ty v = true) {g : JFrame} (hg : g.method = m) {rest : List Value} (hst : g.stack = v :: .ref a :: rest) (hd : decode c.code g.pc = .ok (.putfield index, 3))
    (k : ∀ (T' : State) (h' : Heap), Sd p l e R s m args below meth c n0 J T' h' cells slots → Wr h h' a (Jvm.RoadKit.slotOf Z O n d) v → Fld Z h' a O n d v → G T' { g with pc := g.pc + 3, stack := rest }) : G T g := by
  obtain ⟨vm₁, L0, k0, X, N, eh, hS, hk0, hJ1⟩ := X
  have hZ := wzh hZ hS
  have hown := wo hown hS
  obtain ⟨T', h', X', e', W, st⟩ := putF X hx hZ hown w via eh F E L wi hty hn hf hg hst hd
  exact hs.go st (k T' h' ⟨vm₁, _, k0, X', Fr.snoc X' N ga, e', hS, Nat.le_trans hk0 (Keep.of_wr W).1, hJ1⟩ W (F.same W))
theorem backOfW {y : MethodName} {bytes : ByteArray} {maxL : Nat} {ret : Option FieldType} {rm : Room} {len W : Nat} {as' : Array Value} (hJs : Stb J) (hM : Con l Z y bytes maxL ret [] rm as' h n0 J Q)
    (hZ : Z.Warmed39 s.vm) (wc : (Jvm.Cond.code y bytes maxL ret).before a0 Z = true) (wi : (Jvm.Cond.initialized y.cls).before a0 Z = true) (hf : rm.frames + 1 ≤ R.frames) (hl : W + (maxL + 11) + rm.locals ≤ R.locals) :
    BackS l R p e below s args y len W (fun A a => a = as' ∧ A.U.heap = h ∧ A.cells + rm.cells ≤ R.cells ∧ A.slots + rm.slots ≤ R.slots ∧ J A.U.vm)
      (fun A _ v B => ∃ L, (Q v B.U.heap B.U.vm ∧ Fr n0 L) ∧ B.locs = A.locs ++ L ∧ B.cells = A.cells + rm.cells ∧ B.slots = A.slots + rm.slots) :=
  BackS.of_freeW (bytes := bytes) (maxL := maxL) (ret := ret) (E := fun _ _ o t L k n => k = rm.cells ∧ n = rm.slots ∧ ∃ v, o = .returned v ∧ (Q v t.heap t.vm ∧ Fr n0 L)) hM hf hl
    (fun m meth c A a Y hp => have hU : Z.Warmed39 A.U.vm := wtrans hZ Y.warmed
      ⟨by show (Jvm.Cond.and _ .tt).before a A.U = true; rw [Cond.before_and, mv hU wc]; rfl, mv hU wc, mv hU wi, hp.2.2.1, hp.2.2.2.1⟩)
    (fun m meth c A a g mk Y hp => ⟨hp.1, wtrans hZ Y.warmed, hp.2.1, hp.2.2.2.2⟩) (fun _ _ _ _ _ _ _ _ _ => trivial)
    (fun _ _ _ _ ⟨v, L, h1, h2, h3⟩ => ⟨L, _, _, h3, rfl, rfl, v, h1, h2⟩)
    (fun m meth c A a g mk v t L k n Y hp _ _ ⟨e1, e2, v', e3, e4⟩ => by cases e3; subst e1 e2; exact ⟨L, e4, rfl, rfl, rfl⟩)
def Jn (Z : State) (Ts : List String) : Vm → Prop := fun vm => IB Z vm Ts
def Jl (Z : State) (own : String) (index : Nat) (a : Addr) : Vm → Prop := fun vm => Lit (Z.setVm vm) own index a
theorem Jn.stb {Ts : List String} : Stb (Jn Z Ts) := fun t vm' hW hI => by
  obtain ⟨more, q, r⟩ := hI
  exact ⟨more, by rw [hW.interned_eq]; exact q, r⟩
theorem Jl.stb {own : String} {index : Nat} {a : Addr} : Stb (Jl Z own index a) := fun t vm' hW hI => by
  have q : Lit t own index a := hI
  exact State.resolvedAt?_warmed39 (s := t) hW.wide q
/-- a String constant again -/
theorem rLdcA (hs : Clo p e below G) {own text : String} {index : Nat} {a : Addr} (X : Sd p l e R s m args below meth c n0 (Jl Z own index a) T h cells slots) (hx : p.tables.exec = Jvm.exec) (hZ : Z.Warmed39 s.vm) (hown : s.vm.findClass own = some m.cls) (w : (Jvm.Cond.stringLink own index text).before a0 Z = true)
    {g : JFrame} (hg : g.method = m) (hd : decode c.code g.pc = .ok (.ldc index, 2)) (k : G T { g with pc := g.pc + 2, stack := .ref a :: g.stack }) : G T g := by
  obtain ⟨vm₁, L, k0, X, N, eh, hS, hk0, hJ1⟩ := X
  exact hs.go (ldcAgain X hx (wzh hZ hS) (wo hown hS) w (a := a) hJ1 hg hd) k
/-- a String constant for the first time, by a frame that has written nothing yet -/
theorem rLdcF (hs : Clo p e below G) {own text : String} {index : Nat} (X : Stand p l e R s m args below meth c T [] cells slots) (eh : T.heap = h) (hx : p.tables.exec = Jvm.exec) (hZ : Z.Warmed39 s.vm) (hown : s.vm.findClass own = some m.cls) (w : (Jvm.Cond.stringLink own index text).before a0 Z = true) (wS : ∀ a ∈ Bundle.stringAtoms, a.before a0 Z = true)
    (O : Ext Z.heap s.heap) {Ts : List String} (I : IB Z s.vm Ts) (hnot : text ∉ Ts) (hh : Jvm.Lit.constHeld Z own index) (hcw : Jvm.Lit.compactW.before a0 Z = true) {vs : List Value} {z : Int32} (ht : (∀ c ∈ text.toList, c.toNat < 256) ∧ text.toList.map (fun c => Value.int (Jvm.Lit.byteI c.toNat.toUInt16)) = vs) (hz : ¬ z < 0) (hl : z.toNatClampNeg = vs.length)
    {g : JFrame} (hg : g.method = m) (hd : decode c.code g.pc = .ok (.ldc index, 2)) (n : Nat) (hn : 4 * text.toList.length ≤ n) (hbig : n ≤ 536870912) (hc : cells + 2 ≤ R.cells) (hl' : slots + (n + 4) ≤ R.slots)
    (k : ∀ (T' : State) (h' : Heap) (a b : Addr) (kb : ClassId), Sd p l e R s m args below meth c n0 (Jl Z own index a) T' h' (cells + 2) (slots + (n + 4)) → Ext h h' → Exa Z h' a "java/lang/String" → Fld Z h' a "java/lang/String" "coder" "B" (.int 0) → Fld Z h' a "java/lang/String" "value" "[B" (.ref b) → Arv Z h' b kb .byte z vs (.int 0) → G T' { g with pc := g.pc + 2, stack := .ref a :: g.stack }) : G T g := by
  obtain ⟨a, T', h', k1, b, kb, X', e', E, hS', hk', -, -, r1, r2, r3, r4, -, -, -, L, st⟩ := ldcSVL (vm0 := s.vm) X hx hZ hown w wS eh ((State.WarmedH.refl s).since 0) (Nat.zero_le _) (Fr.nil _) O.2 I hnot hh hcw ht hz hl hg hd hn hbig hc hl'
  exact hs.go st (k T' h' a b kb ⟨T'.vm, [], k1, X', Fr.nil _, e', hS', hk', L⟩ E r1 r2 r3 r4)
/-- Object.<init>, the places written in sight -/
theorem rInitR (hs : Clo p e below G) {locs : List Loc} (X : Stand p l e R s m args below meth c T locs cells slots) (eh : T.heap = h) (hx : p.tables.exec = Jvm.exec) (hZ : Z.Warmed39 s.vm) {own : String} {idx : Nat} (hown : s.vm.findClass own = some m.cls) (w1 : (Jvm.Cond.methodLink own idx Lib.objectInit).before a0 Z = true) (w2 : (Jvm.Cond.instanceMethod Lib.objectInit).before a0 Z = true)
    (w3 : (Jvm.Cond.code Lib.objectInit ⟨#[0xb1]⟩ 1 none).before a0 Z = true) {g : JFrame} (hg : g.method = m) (hsize : g.locals.size = c.maxLocals) {a : Addr} {rest : List Value} (hst : g.stack = .ref a :: rest) (hd : decode c.code g.pc = .ok (.invokespecial idx, 3))
    (hf : 1 ≤ R.frames) {W : Nat} (hW : 2 * g.monitorRoom + (rest.map fun v => v.category).sum ≤ W) (hl : W + 12 ≤ R.locals)
    (k : ∀ T' : State, Stand p l e R s m args below meth c T' locs cells slots → T'.heap = h → G T' { g with pc := g.pc + 3, stack := rest }) : G T g := by
  obtain ⟨T', X', e', st⟩ := initO X hx hZ hown w1 w2 w3 eh hg hsize hst hd hf hW hl
  exact hs.go st (k T' X' e')
/-! calls -/
theorem rCallS (hs : Clo p e below G) (X : Sd p l e R s m args below meth c n0 J T h cells slots) (hx : p.tables.exec = Jvm.exec) (hZ : Z.Warmed39 s.vm) {own : String} {index : Nat} {y : MethodName} {bytes : ByteArray} {maxL : Nat} {ret : Option FieldType} {rm : Room} {as' : List Value} {Q' : Option Value → Heap → Vm → Prop}
    (hJs : Stb J) (hM : Con l Z y bytes maxL ret [] rm as'.toArray h n0 J Q') (hown : s.vm.findClass own = some m.cls) (w1 : (Jvm.Cond.methodLink own index y).before a0 Z = true) (w2 : (Jvm.Cond.static y).before a0 Z = true) (w3 : (Jvm.Cond.initialized y.cls).before a0 Z = true) (w4 : (Jvm.Cond.code y bytes maxL ret).before a0 Z = true)
    (hy : y.cls ≠ "java/lang/invoke/MethodHandle" ∧ y.cls ≠ "java/lang/invoke/VarHandle") {g : JFrame} (hg : g.method = m) (hsize : g.locals.size = c.maxLocals) (rest : List Value) (hlen : ∀ sig, parseMethodDescriptor y.desc = some sig → as'.length = sig.parameters.length)
    (hst : g.stack = as'.reverse ++ rest) (W : Nat) (hW : 2 * g.monitorRoom + (rest.map fun v => v.category).sum ≤ W) (hd : decode c.code g.pc = .ok (.invokestatic index, 3))
    (hf : rm.frames + 1 ≤ R.frames) (hl : W + (maxL + 11) + rm.locals ≤ R.locals) (hc : cells + rm.cells ≤ R.cells) (hsl : slots + rm.slots ≤ R.slots)
    (k : ∀ (v : Option Value) (T' : State) (h' : Heap) (vm' : Vm), (∀ J' : Vm → Prop, J' vm' → Sd p l e R s m args below meth c n0 J' T' h' (cells + rm.cells) (slots + rm.slots)) → Q' v h' vm' → G T' { g with pc := g.pc + 3, stack := v.toList ++ rest }) : G T g := by
  obtain ⟨vm₀, L, k0, X, N, eh, hS, hk0, hJ1⟩ := X
  have hZ := wzh hZ hS
  have hown := wo hown hS
  have w4' : (Jvm.Cond.code y bytes maxL ret).before args (s.setVm vm₀) = true := mvT hZ w4
  obtain ⟨mk, hnamed⟩ := Cond.code_named w4'
  obtain ⟨methM, cM, hmethM, -, -, -, -, -, -, hsigM⟩ := Cond.code_spec hnamed w4'
  obtain ⟨v, vm₁, ⟨T', L', k', n'⟩, -, X', hS', hgr, ⟨Lc, ⟨hQ, hN⟩, l', y', z'⟩, st⟩ := X.staticBackS hx (y := y) hown (mvT hZ w1) (mvT hZ w2) (mvT hZ w3) hnamed hmethM hsigM hy (backOfW (W := W) hJs hM hZ w4 w3 hf hl) hg hsize (Steps.refl _) (argsL := as') (rest := rest) hlen hst hW hd (fun _ hw1 => ⟨rfl, eh, hc, hsl, hJs _ _ hw1 hJ1⟩)
  dsimp only [Pt.U, Pt.locs, Pt.cells, Pt.slots] at X' hS' hgr l' y' z' st hQ
  subst l' y' z'
  exact hs.go (fun _ q => st.trans q) (k v T' T'.heap T'.vm (fun _ hJ2 => ⟨T'.vm, _, T'.heap.size, X', Fr.app N hN, rfl, hS.trans hS' (Nat.le_trans hk0 (by rw [← eh]; exact hgr)), Nat.le_refl _, hJ2⟩) hQ)
theorem rCallI (hs : Clo p e below G) (X : Sd p l e R s m args below meth c n0 J T h cells slots) (hx : p.tables.exec = Jvm.exec) (hZ : Z.Warmed39 s.vm) {own : String} {index : Nat} {y : MethodName} {bytes : ByteArray} {maxL : Nat} {rm : Room} {a : Addr} {as' : List Value} {Q' : Option Value → Heap → Vm → Prop}
    (hJs : Stb J) (hM : Con l Z y bytes maxL none [] rm (Value.ref a :: as').toArray h n0 J Q') (hyn : y.name = "<init>") (hown : s.vm.findClass own = some m.cls) (w1 : (Jvm.Cond.methodLink own index y).before a0 Z = true) (w2 : (Jvm.Cond.instanceMethod y).before a0 Z = true) (w3 : (Jvm.Cond.initialized y.cls).before a0 Z = true) (w4 : (Jvm.Cond.code y bytes maxL none).before a0 Z = true)
    (hy : y.cls ≠ "java/lang/invoke/MethodHandle" ∧ y.cls ≠ "java/lang/invoke/VarHandle") {g : JFrame} (hg : g.method = m) (hsize : g.locals.size = c.maxLocals) (rest : List Value) (hlen : ∀ sig, parseMethodDescriptor y.desc = some sig → as'.length = sig.parameters.length)
    (hst : g.stack = as'.reverse ++ .ref a :: rest) (W : Nat) (hW : 2 * g.monitorRoom + (rest.map fun v => v.category).sum ≤ W) (hd : decode c.code g.pc = .ok (.invokespecial index, 3))
    (hf : rm.frames + 1 ≤ R.frames) (hl : W + (maxL + 11) + rm.locals ≤ R.locals) (hc : cells + rm.cells ≤ R.cells) (hsl : slots + rm.slots ≤ R.slots)
    (k : ∀ (v : Option Value) (T' : State) (h' : Heap) (vm' : Vm), (∀ J' : Vm → Prop, J' vm' → Sd p l e R s m args below meth c n0 J' T' h' (cells + rm.cells) (slots + rm.slots)) → Q' v h' vm' → G T' { g with pc := g.pc + 3, stack := v.toList ++ rest }) : G T g := by
  obtain ⟨vm₀, L, k0, X, N, eh, hS, hk0, hJ1⟩ := X
  have hZ := wzh hZ hS
  have hown := wo hown hS
  obtain ⟨v, vm₁, ⟨T', L', k', n'⟩, -, X', hS', hgr, ⟨Lc, ⟨hQ, hN⟩, l', y', z'⟩, st⟩ := X.specialBackS hx (y := y) hyn hown (mvT hZ w1) (mvT hZ w2) (mvT hZ w4) hy (backOfW (W := W) hJs hM hZ w4 w3 hf hl) hg hsize (Steps.refl _) (a := a) (argsL := as') (rest := rest) hlen hst hW hd (fun _ hw1 => ⟨rfl, eh, hc, hsl, hJs _ _ hw1 hJ1⟩)
  dsimp only [Pt.U, Pt.locs, Pt.cells, Pt.slots] at X' hS' hgr l' y' z' st hQ
  subst l' y' z'
  exact hs.go (fun _ q => st.trans q) (k v T' T'.heap T'.vm (fun _ hJ2 => ⟨T'.vm, _, T'.heap.size, X', Fr.app N hN, rfl, hS.trans hS' (Nat.le_trans hk0 (by rw [← eh]; exact hgr)), Nat.le_refl _, hJ2⟩) hQ)
theorem rCallV (hs : Clo p e below G) (X : Sd p l e R s m args below meth c n0 J T h cells slots) (hx : p.tables.exec = Jvm.exec) (hZ : Z.Warmed39 s.vm) {own C : String} {index : Nat} {y : MethodName} {bytes : ByteArray} {maxL : Nat} {ret : Option FieldType} {rm : Room} {a : Addr} {as' : List Value} {Q' : Option Value → Heap → Vm → Prop}
    (hJs : Stb J) (hM : Con l Z y bytes maxL ret [] rm (Value.ref a :: as').toArray h n0 J Q') (E : Exa Z h a C) (hown : s.vm.findClass own = some m.cls) (w1 : (Jvm.Cond.methodLink own index y).before a0 Z = true) (w5 : (Jvm.Cond.declares y).before a0 Z = true) (w6 : (Jvm.Cond.selects C y y).before a0 Z = true) (w2 : (Jvm.Cond.instanceMethod y).before a0 Z = true) (w3 : (Jvm.Cond.initialized y.cls).before a0 Z = true) (w4 : (Jvm.Cond.code y bytes maxL ret).before a0 Z = true)
    (hy : y.cls ≠ "java/lang/invoke/MethodHandle" ∧ y.cls ≠ "java/lang/invoke/VarHandle") {g : JFrame} (hg : g.method = m) (hsize : g.locals.size = c.maxLocals) (rest : List Value) (hlen : ∀ sig, parseMethodDescriptor y.desc = some sig → as'.length = sig.parameters.length)
    (hst : g.stack = as'.reverse ++ .ref a :: rest) (W : Nat) (hW : 2 * g.monitorRoom + (rest.map fun v => v.category).sum ≤ W) (hd : decode c.code g.pc = .ok (.invokevirtual index, 3))
    (hf : rm.frames + 1 ≤ R.frames) (hl : W + (maxL + 11) + rm.locals ≤ R.locals) (hc : cells + rm.cells ≤ R.cells) (hsl : slots + rm.slots ≤ R.slots)
    (k : ∀ (v : Option Value) (T' : State) (h' : Heap) (vm' : Vm), (∀ J' : Vm → Prop, J' vm' → Sd p l e R s m args below meth c n0 J' T' h' (cells + rm.cells) (slots + rm.slots)) → Q' v h' vm' → G T' { g with pc := g.pc + 3, stack := v.toList ++ rest }) : G T g := by
  obtain ⟨vm₀, L, k0, X, N, eh, hS, hk0, hJ1⟩ := X
  have hZ := wzh hZ hS
  have hown := wo hown hS
  obtain ⟨cB, kB, qa, qb, qc⟩ := isOf (T := T) hZ eh E
  obtain ⟨v, vm₁, ⟨T', L', k', n'⟩, -, X', hS', hgr, ⟨Lc, ⟨hQ, hN⟩, l', y', z'⟩, st⟩ := X.virtualBackS hx (y := y) (z := y) hown (mvT hZ w1) (mvT hZ w5) (notFace_of_selects (args := #[]) (mvT hZ w6)) (mvT hZ w6) (mvT hZ w2) hy (backOfW (W := W) hJs hM hZ w4 w3 hf hl) qa qc hg hsize (Steps.refl _) (argsL := as') (rest := rest) hlen hst hW hd (fun _ hw1 => ⟨rfl, eh, hc, hsl, hJs _ _ hw1 hJ1⟩)
  dsimp only [Pt.U, Pt.locs, Pt.cells, Pt.slots] at X' hS' hgr l' y' z' st hQ
  subst l' y' z'
  exact hs.go (fun _ q => st.trans q) (k v T' T'.heap T'.vm (fun _ hJ2 => ⟨T'.vm, _, T'.heap.size, X', Fr.app N hN, rfl, hS.trans hS' (Nat.le_trans hk0 (by rw [← eh]; exact hgr)), Nat.le_refl _, hJ2⟩) hQ)
/-! branches -/
theorem ltL {x y : Int64} (h : x < y) : if_icmp.holds .lt (lcmpW x y) 0 = true ∧ if_icmp.holds .ge (lcmpW x y) 0 = false := have q := tlt ((lw_lt x y).mpr h); ⟨q.1, q.2.1⟩
theorem nltL {x y : Int64} (h : ¬ x < y) : if_icmp.holds .lt (lcmpW x y) 0 = false ∧ if_icmp.holds .ge (lcmpW x y) 0 = true := have q := flt (fun z => h ((lw_lt x y).mp z)); ⟨q.1, q.2.1⟩
theorem gtL {x y : Int64} (h : y < x) : if_icmp.holds .gt (lcmpW x y) 0 = true ∧ if_icmp.holds .le (lcmpW x y) 0 = false := have q := tlt ((lw_gt x y).mpr h); ⟨q.2.2.1, q.2.2.2⟩
theorem ngtL {x y : Int64} (h : ¬ y < x) : if_icmp.holds .gt (lcmpW x y) 0 = false ∧ if_icmp.holds .le (lcmpW x y) 0 = true := have q := flt (fun z => h ((lw_gt x y).mp z)); ⟨q.2.2.1, q.2.2.2⟩
theorem eqL {x y : Int64} (h : x = y) : if_icmp.holds .eq (lcmpW x y) 0 = true ∧ if_icmp.holds .ne (lcmpW x y) 0 = false := teq ((lw_eq x y).mpr h)
theorem neqL {x y : Int64} (h : ¬ x = y) : if_icmp.holds .eq (lcmpW x y) 0 = false ∧ if_icmp.holds .ne (lcmpW x y) 0 = true := feq (fun z => h ((lw_eq x y).mp z))
theorem nameIt {α : Type} {P : α → Prop} (x : α) (k : ∀ z, z = x → P z) : P x := k x rfl
theorem eq64 {x y : Int64} (h : x.toInt = y.toInt) : x = y := Int64.toInt_inj.mp h
theorem eq32 {x y : Int32} (h : x.toInt = y.toInt) : x = y := Int32.toInt_inj.mp h
theorem lt64 {x y : Int64} : x < y ↔ x.toInt < y.toInt := Int64.lt_iff_toInt_lt
theorem lt32 {x y : Int32} : x < y ↔ x.toInt < y.toInt := Int32.lt_iff_toInt_lt
theorem e64 {x y : Int64} : x = y ↔ x.toInt = y.toInt := Int64.toInt_inj.symm
theorem e32 {x y : Int32} : x = y ↔ x.toInt = y.toInt := Int32.toInt_inj.symm
theorem c_lremM (x y : Int64) (d : Int) (hy : y.toInt = d) : (0 ≤ x.toInt → (x % y).toInt = x.toInt % d) ∧ (x.toInt < 0 → (x % y).toInt = -((-x.toInt) % d)) := by rw [Int64.toInt_mod, hy]; exact tr _ _
theorem nar_byte (x : Int32) : x.toInt8.toInt32.toInt8.toInt32 = x.toInt8.toInt32 := by simp
end OwnKit


section OwnKitX
variable {p : Program} {l : Launch} {e : Env} {R : Room} {s : State} {m : MethodId} {args : Array Value} {below : List Frame} {meth : Method} {c : Code} {T : State} {cells slots : Nat} {Z : State} {a0 : Array Value} {h : Heap} {n0 : Nat} {G : State → JFrame → Prop} {J : Vm → Prop}
theorem stbT : Stb (fun _ => True) := fun _ _ _ _ => trivial
theorem Sd.weak (X : Sd p l e R s m args below meth c n0 J T h cells slots) : Sd p l e R s m args below meth c n0 (fun _ => True) T h cells slots := by
  obtain ⟨v, L, k0, X, N, e, hS, hk, -⟩ := X
  exact ⟨v, L, k0, X, N, e, hS, hk, trivial⟩
theorem rLdcS (hs : Clo p e below G) (X : Sd p l e R s m args below meth c n0 J T h cells slots) (hx : p.tables.exec = Jvm.exec) (hZ : Z.Warmed39 s.vm) {own text : String} {index : Nat} (hown : s.vm.findClass own = some m.cls) (w : (Jvm.Cond.stringLink own index text).before a0 Z = true) (wS : ∀ a ∈ Bundle.stringAtoms, a.before a0 Z = true)
    {g : JFrame} (hg : g.method = m) (hd : decode c.code g.pc = .ok (.ldc index, 2)) (n : Nat) (hn : 4 * text.toList.length ≤ n) (hbig : n ≤ 536870912) (hc : cells + 2 ≤ R.cells) (hl : slots + (n + 4) ≤ R.slots)
    (k : ∀ (T' : State) (h' : Heap) (a : Addr), Sd p l e R s m args below meth c n0 (fun _ => True) T' h' (cells + 2) (slots + (n + 4)) → Ext h h' → G T' { g with pc := g.pc + 2, stack := .ref a :: g.stack }) : G T g := by
  obtain ⟨vm₁, L, k0, X, N, eh, hS, hk0, -⟩ := X
  obtain ⟨a, T', h', k1, X', e', E, hS', hk', -, -, st⟩ := ldcS X hx (wzh hZ hS) (wo hown hS) w wS eh hS hk0 hg hd hn hbig hc hl
  exact hs.go st (k T' h' a ⟨T'.vm, L, k1, X', N, e', hS', hk', trivial⟩ E)
theorem rNewPE (hs : Clo p e below G) (X : Sd p l e R s m args below meth c n0 J T h cells slots) (hx : p.tables.exec = Jvm.exec) (hZ : Z.Warmed39 s.vm) {aty : ArrayType} (w : (Jvm.Cond.arrayClass (newarray.typeOf aty)).before a0 Z = true) {g : JFrame} (hg : g.method = m) (hd : decode c.code g.pc = .ok (.newarray aty, 2)) {n : Int32} {rest : List Value} (hst : g.stack = .int n :: rest)
    (hn : ¬ n < 0) (cap len : Nat) (hcap : n.toNatClampNeg ≤ cap) (hb : cap * 8 ≤ 536870912) (hc : cells + 1 ≤ R.cells) (hl : slots + cap ≤ R.slots) {ad : String} (had : "[" ++ (newarray.typeOf aty).toString = ad)
    (k : ∀ (T' : State) (h' : Heap) (cA : ClassId) (b : Addr), b = h.size → Sd p l e R s m args below meth c n0 J T' h' (cells + 1) (slots + cap) → Ext h h' → Arv Z h' b cA (newarray.typeOf aty) n (List.replicate len (defaultValue (newarray.typeOf aty))) (defaultValue (newarray.typeOf aty)) → Exa Z h' b ad → G T' { g with pc := g.pc + 2, stack := .ref b :: rest }) : G T g := by
  obtain ⟨vm₁, L, k0, X, N, eh, hS, hk0, hJ1⟩ := X
  have hZ := wzh hZ hS
  obtain ⟨T', h', cA, X', e', E, A, EX, st⟩ := newPE X hx hZ w eh hg hd hst hn hcap hb hc hl had
  exact hs.go st (k T' h' cA h.size rfl ⟨vm₁, L, k0, X', N, e', hS, Nat.le_trans hk0 E.1, hJ1⟩ E ((Arv.new A hn).pad (pad_rep [] _ len)) EX)
theorem rCast (hs : Clo p e below G) (X : Sd p l e R s m args below meth c n0 J T h cells slots) (hx : p.tables.exec = Jvm.exec) (hZ : Z.Warmed39 s.vm) {own K : String} {index : Nat} (hown : s.vm.findClass own = some m.cls) (w : (Jvm.Cond.classLink own index K).before a0 Z = true) {a : Addr} (F : Ins Z h a K true)
    {g : JFrame} (hg : g.method = m) {rest : List Value} (hst : g.stack = .ref a :: rest) (hd : decode c.code g.pc = .ok (.checkcast index, 3))
    (k : ∀ T' : State, Sd p l e R s m args below meth c n0 J T' h cells slots → G T' { g with pc := g.pc + 3 }) : G T g := by
  obtain ⟨vm₁, L, k0, X, N, eh, hS, hk0, hJ1⟩ := X
  obtain ⟨T', X', e', st⟩ := castY X hx (wzh hZ hS) (wo hown hS) w eh F hg hst hd
  exact hs.go st (k T' ⟨vm₁, L, k0, X', N, e', hS, hk0, hJ1⟩)
theorem rClone (hs : Clo p e below G) (X : Sd p l e R s m args below meth c n0 J T h cells slots) (hx : p.tables.exec = Jvm.exec) (hZ : Z.Warmed39 s.vm) {own ad : String} {index : Nat} (hown : s.vm.findClass own = some m.cls)
    (w1 : (Jvm.Cond.methodLink own index ⟨ad, "clone", "()Ljava/lang/Object;"⟩).before a0 Z = true) (w2 : (Jvm.Cond.sameMethod ad "java/lang/Object" "clone" "()Ljava/lang/Object;").before a0 Z = true) (w3 : (Jvm.Cond.native ⟨"java/lang/Object", "clone", "()Ljava/lang/Object;"⟩).before a0 Z = true)
    (w4 : (Jvm.Cond.instanceMethod ⟨"java/lang/Object", "clone", "()Ljava/lang/Object;"⟩).before a0 Z = true) (w5 : (Jvm.Cond.selects ad ⟨ad, "clone", "()Ljava/lang/Object;"⟩ ⟨"java/lang/Object", "clone", "()Ljava/lang/Object;"⟩).before a0 Z = true) (w6 : (Jvm.Cond.castable ad "java/lang/Cloneable").before a0 Z = true)
    {a : Addr} {kc : ClassId} {ty : FieldType} {z : Int32} {vs : List Value} {dv : Value} (V : Arv Z h a kc ty z vs dv) (E : Exa Z h a ad) {g : JFrame} (hg : g.method = m) (hsize : g.locals.size = c.maxLocals) {rest : List Value} (hst : g.stack = .ref a :: rest) (hd : decode c.code g.pc = .ok (.invokevirtual index, 3))
    (hf : 1 ≤ R.frames) (W cap : Nat) (hW : 2 * g.monitorRoom + (rest.map fun v => v.category).sum ≤ W) (hl : W + 14 ≤ R.locals) (hcap : z.toNatClampNeg ≤ cap) (hc : cells + 1 ≤ R.cells) (hsl : slots + cap ≤ R.slots)
    (k : ∀ (T' : State) (h' : Heap) (b : Addr), b = h.size → Sd p l e R s m args below meth c n0 J T' h' (cells + 1) (slots + cap) → Ext h h' → Exa Z h' b ad → G T' { g with pc := g.pc + 3, stack := .ref b :: rest }) : G T g := by
  obtain ⟨vm₁, L, k0, X, N, eh, hS, hk0, hJ1⟩ := X
  obtain ⟨cl, A, q1, S, q3, H, F⟩ := V
  have FC : FitC Z cl := fitC_of A fun i hi v hv => by rw [H i hi] at hv; cases hv; exact F i hi
  obtain ⟨T', h', X', e', ex, A', E', st⟩ := cloneA X hx (wzh hZ hS) (wo hown hS) w1 w2 w3 w4 w5 w6 eh A E FC hg hsize hst hd hf hW hl (by rw [S]; exact hcap) hc hsl
  exact hs.go st (k T' h' h.size rfl ⟨vm₁, L, k0, X', N, e', hS, Nat.le_trans hk0 ex.1, hJ1⟩ ex E')
end OwnKitX
theorem own_cb {Z : State} {h : Heap} {a : Addr} {k1 k2 : ClassId} {z1 z2 : Int32} {v1 v2 : List Value} {d1 d2 : Value} (A : Arv Z h a k1 .char z1 v1 d1) (B : Arv Z h a k2 .byte z2 v2 d2) : False := by
  obtain ⟨c1, A1, -⟩ := A
  obtain ⟨c2, B1, -⟩ := B
  cases A1.1.symm.trans B1.1
  obtain ⟨-, k3, j1, comp, j2⟩ := A1.2.1
  obtain ⟨-, k4, i1, comp', i2⟩ := B1.2.1
  cases j1.symm.trans i1
  rw [j2] at i2; cases i2
theorem own_cx {x y : Int32} (h : x = ((y &&& (255 : Int32)).toUInt32.toUInt16.toUInt32.toInt32)) : nar .char x = x := by
  rw [i2c_mask] at h
  subst h
  exact i2c_mask y
theorem own_hx {x y : Int32} (h : x = ((y &&& (255 : Int32)).toUInt32.toUInt16.toUInt32.toInt32)) : ¬ ((255 : Int32) < x) := by
  rw [i2c_mask] at h
  subst h
  have a : (y &&& (255 : Int32)).toInt = y.toInt % 256 := c_mask y 255 8 (by decide) (by decide)
  have k : (255 : Int32).toInt = 255 := rfl
  rw [lt32, k]; omega
theorem own_3 {x y M : Int32} (hM : 0 ≤ M.toInt) (h : x = ((y &&& M) % (3 : Int32))) : x = 0 ∨ x = 1 ∨ x = 2 := by
  have a := (c_and y M hM).1
  have b := (c_irem (y &&& M) 3 3 rfl).1 a
  rw [← h] at b
  have k0 : (0 : Int32).toInt = 0 := rfl
  have k1 : (1 : Int32).toInt = 1 := rfl
  have k2 : (2 : Int32).toInt = 2 := rfl
  simp only [e32, k0, k1, k2]; omega
theorem own_ts (x : Int64) : ¬ ((x &&& (9223372036854775807 : Int64)) < (0 : Int64)) := by
  have a : (x &&& (9223372036854775807 : Int64)).toInt = x.toInt % 9223372036854775808 := c_maskL x 9223372036854775807 63 (by decide) (by decide)
  have k : (0 : Int64).toInt = 0 := rfl
  rw [lt64, k]; omega
def fmk (x : Int32) : Int32 := if x = (2 : Int32) then (1 : Int32) else if x = (3 : Int32) then (1 : Int32) else if x = (4 : Int32) then (1 : Int32) else (0 : Int32)

theorem own_sa : ∀ d ∈ Bundle.stringAtoms, d ∈ tables_1 := by
  intro d hd
  simp only [Bundle.stringAtoms, List.mem_cons, List.not_mem_nil, or_false] at hd
  rcases hd with rfl | rfl | rfl | rfl | rfl | rfl | rfl
  · first | exact List.mem_of_getElem? (i := 5) rfl | exact List.mem_of_getElem? (i := 4) rfl | exact List.mem_of_getElem? (i := 17) rfl | exact List.mem_of_getElem? (i := 18) rfl | exact List.mem_of_getElem? (i := 19) rfl | exact List.mem_of_getElem? (i := 20) rfl | exact List.mem_of_getElem? (i := 21) rfl
  · first | exact List.mem_of_getElem? (i := 5) rfl | exact List.mem_of_getElem? (i := 4) rfl | exact List.mem_of_getElem? (i := 17) rfl | exact List.mem_of_getElem? (i := 18) rfl | exact List.mem_of_getElem? (i := 19) rfl | exact List.mem_of_getElem? (i := 20) rfl | exact List.mem_of_getElem? (i := 21) rfl
  · first | exact List.mem_of_getElem? (i := 5) rfl | exact List.mem_of_getElem? (i := 4) rfl | exact List.mem_of_getElem? (i := 17) rfl | exact List.mem_of_getElem? (i := 18) rfl | exact List.mem_of_getElem? (i := 19) rfl | exact List.mem_of_getElem? (i := 20) rfl | exact List.mem_of_getElem? (i := 21) rfl
  · first | exact List.mem_of_getElem? (i := 5) rfl | exact List.mem_of_getElem? (i := 4) rfl | exact List.mem_of_getElem? (i := 17) rfl | exact List.mem_of_getElem? (i := 18) rfl | exact List.mem_of_getElem? (i := 19) rfl | exact List.mem_of_getElem? (i := 20) rfl | exact List.mem_of_getElem? (i := 21) rfl
  · first | exact List.mem_of_getElem? (i := 5) rfl | exact List.mem_of_getElem? (i := 4) rfl | exact List.mem_of_getElem? (i := 17) rfl | exact List.mem_of_getElem? (i := 18) rfl | exact List.mem_of_getElem? (i := 19) rfl | exact List.mem_of_getElem? (i := 20) rfl | exact List.mem_of_getElem? (i := 21) rfl
  · first | exact List.mem_of_getElem? (i := 5) rfl | exact List.mem_of_getElem? (i := 4) rfl | exact List.mem_of_getElem? (i := 17) rfl | exact List.mem_of_getElem? (i := 18) rfl | exact List.mem_of_getElem? (i := 19) rfl | exact List.mem_of_getElem? (i := 20) rfl | exact List.mem_of_getElem? (i := 21) rfl
  · first | exact List.mem_of_getElem? (i := 5) rfl | exact List.mem_of_getElem? (i := 4) rfl | exact List.mem_of_getElem? (i := 17) rfl | exact List.mem_of_getElem? (i := 18) rfl | exact List.mem_of_getElem? (i := 19) rfl | exact List.mem_of_getElem? (i := 20) rfl | exact List.mem_of_getElem? (i := 21) rfl
theorem d13_0 : decode jdk_52_method_21_code 0 = .ok (.iconst 0, 1) := by decide +kernel
theorem d13_1 : decode jdk_52_method_21_code 1 = .ok (.istore 5, 2) := by decide +kernel
theorem d13_3 : decode jdk_52_method_21_code 3 = .ok (.iload 5, 2) := by decide +kernel
theorem d13_5 : decode jdk_52_method_21_code 5 = .ok (.iload 4, 2) := by decide +kernel
theorem d13_7 : decode jdk_52_method_21_code 7 = .ok (.if_icmp .ge 37, 3) := by decide +kernel
theorem d13_10 : decode jdk_52_method_21_code 10 = .ok (.aload_n 0, 1) := by decide +kernel
theorem d13_11 : decode jdk_52_method_21_code 11 = .ok (.iload_n 1, 1) := by decide +kernel
theorem d13_12 : decode jdk_52_method_21_code 12 = .ok (.caload, 1) := by decide +kernel
theorem d13_13 : decode jdk_52_method_21_code 13 = .ok (.istore 6, 2) := by decide +kernel
theorem d13_15 : decode jdk_52_method_21_code 15 = .ok (.iload 6, 2) := by decide +kernel
theorem d13_17 : decode jdk_52_method_21_code 17 = .ok (.sipush 255, 3) := by decide +kernel
theorem d13_20 : decode jdk_52_method_21_code 20 = .ok (.if_icmp .le 6, 3) := by decide +kernel
theorem d13_26 : decode jdk_52_method_21_code 26 = .ok (.aload_n 2, 1) := by decide +kernel
theorem d13_27 : decode jdk_52_method_21_code 27 = .ok (.iload_n 3, 1) := by decide +kernel
theorem d13_28 : decode jdk_52_method_21_code 28 = .ok (.iload 6, 2) := by decide +kernel
theorem d13_30 : decode jdk_52_method_21_code 30 = .ok (.i2b, 1) := by decide +kernel
theorem d13_31 : decode jdk_52_method_21_code 31 = .ok (.bastore, 1) := by decide +kernel
theorem d13_32 : decode jdk_52_method_21_code 32 = .ok (.iinc 1 1, 3) := by decide +kernel
theorem d13_35 : decode jdk_52_method_21_code 35 = .ok (.iinc 3 1, 3) := by decide +kernel
theorem d13_38 : decode jdk_52_method_21_code 38 = .ok (.iinc 5 1, 3) := by decide +kernel
theorem d13_41 : decode jdk_52_method_21_code 41 = .ok (.goto (-38), 3) := by decide +kernel
theorem d13_44 : decode jdk_52_method_21_code 44 = .ok (.iload 4, 2) := by decide +kernel
theorem d13_46 : decode jdk_52_method_21_code 46 = .ok (.ireturn, 1) := by decide +kernel
theorem pn_13 : plainFor (⟨"java/lang/StringUTF16", "compress", "([CI[BII)I"⟩ : MethodName) = true := plainFor_of_name (by first | (simp [plainName, overriddenIn]; done) | decide +kernel)
theorem ef_13 (m : MethodId) (x0 : Addr) (x1 : Int32) (x2 : Addr) (x3 : Int32) (x4 : Int32) : entryFrame m #[(.ref x0), (.int x1), (.ref x2), (.int x3), (.int x4)] 7 = mkF m 0 #[.val (.ref x0), .val (.int x1), .val (.ref x2), .val (.int x3), .val (.int x4), .unset, .unset] [] := by first | (simp [entryFrame, mkF, argsToLocals, Value.category]; done) | rfl
theorem hy_13 : ((⟨"java/lang/StringUTF16", "compress", "([CI[BII)I"⟩ : MethodName)).cls ≠ "java/lang/invoke/MethodHandle" ∧ ((⟨"java/lang/StringUTF16", "compress", "([CI[BII)I"⟩ : MethodName)).cls ≠ "java/lang/invoke/VarHandle" := by decide
set_option maxRecDepth 65536 in
set_option maxHeartbeats 40000000 in
theorem c5_1 (l : Launch) (Z : State) (a0 : Array Value) (hw : ∀ d ∈ tables_1, d.before a0 Z = true) (ws : List Jvm.Cond) (J : Vm → Prop) (hJ : Stb J) (cb db : Addr) (x0 : Int32) (kc kd : ClassId) (h0 : Heap) (n0 : Nat) (Z0 : n0 ≤ h0.size) (V_cb : Arv Z h0 cb kc .char (1 : Int32) [(.int x0)] (.int (0 : Int32))) (V_db : Arv Z h0 db kd .byte (1 : Int32) [(.int (0 : Int32))] (.int (0 : Int32))) (g_db : n0 ≤ db) (hx0 : ¬ ((255 : Int32) < x0)) :
    Con l Z (⟨"java/lang/StringUTF16", "compress", "([CI[BII)I"⟩ : MethodName) jdk_52_method_21_code 7 (some .int) ws ({ frames := 0, cells := 0, slots := 0, locals := 0 } : Room) #[(.ref cb), (.int (0 : Int32)), (.ref db), (.int (0 : Int32)), (.int (1 : Int32))] h0 n0 J (fun v h vm => v = some (.int (1 : Int32)) ∧ Keep h0 h [db] ∧ Arv Z h db kd .byte (1 : Int32) [(.int (x0.toInt8.toInt32))] (.int (0 : Int32)) ∧ J vm) := by
  refine Con.of pn_13 ?_
  intro G p e s m below meth c s₁ hs hx hby hml hown hnm hret hZ X0 XR hh0 hJ0 fin
  have hml : c.maxLocals = 7 := hml
  have hown : s.vm.findClass "java/lang/StringUTF16" = some m.cls := hown
  rw [ef_13]
  have K := Keep.refl h0 ([db] : List Addr)
  have Ksz := K.1
  have hne : cb ≠ db := fun q => by subst q; exact own_cb V_cb V_db
  show G s₁ (mkF m 0 #[.val (.ref cb), .val (.int (0 : Int32)), .val (.ref db), .val (.int (0 : Int32)), .val (.int (1 : Int32)), .unset, .unset] [])
  refine hs.go (fun _ kk_ => XS.iconst X0.here hx rfl (hb hby d13_0) kk_) ?_
  show G s₁ (mkF m 1 #[.val (.ref cb), .val (.int (0 : Int32)), .val (.ref db), .val (.int (0 : Int32)), .val (.int (1 : Int32)), .unset, .unset] [(.int (0 : Int32))])
  refine hs.go (fun _ kk_ => XS.istore X0.here hx rfl (hb hby d13_1) rfl (l' := #[.val (.ref cb), .val (.int (0 : Int32)), .val (.ref db), .val (.int (0 : Int32)), .val (.int (1 : Int32)), .val (.int (0 : Int32)), .unset]) rfl kk_) ?_
  show G s₁ (mkF m 3 #[.val (.ref cb), .val (.int (0 : Int32)), .val (.ref db), .val (.int (0 : Int32)), .val (.int (1 : Int32)), .val (.int (0 : Int32)), .unset] [])
  refine hs.go (fun _ kk_ => XS.iload X0.here hx rfl (hb hby d13_3) rfl  kk_) ?_
  show G s₁ (mkF m 5 #[.val (.ref cb), .val (.int (0 : Int32)), .val (.ref db), .val (.int (0 : Int32)), .val (.int (1 : Int32)), .val (.int (0 : Int32)), .unset] [(.int (0 : Int32))])
  refine hs.go (fun _ kk_ => XS.iload X0.here hx rfl (hb hby d13_5) rfl  kk_) ?_
  show G s₁ (mkF m 7 #[.val (.ref cb), .val (.int (0 : Int32)), .val (.ref db), .val (.int (0 : Int32)), .val (.int (1 : Int32)), .val (.int (0 : Int32)), .unset] [(.int (1 : Int32)), (.int (0 : Int32))])
  refine hs.go (fun _ kk_ => XS.icmpNo X0.here hx rfl (hb hby d13_7) rfl (tlt ((by decide) : (0 : Int32) < (1 : Int32))).2.1 kk_) ?_
  show G s₁ (mkF m 10 #[.val (.ref cb), .val (.int (0 : Int32)), .val (.ref db), .val (.int (0 : Int32)), .val (.int (1 : Int32)), .val (.int (0 : Int32)), .unset] [])
  refine hs.go (fun _ kk_ => XS.aloadN X0.here hx rfl (hb hby d13_10) rfl rfl kk_) ?_
  show G s₁ (mkF m 11 #[.val (.ref cb), .val (.int (0 : Int32)), .val (.ref db), .val (.int (0 : Int32)), .val (.int (1 : Int32)), .val (.int (0 : Int32)), .unset] [(.ref cb)])
  refine hs.go (fun _ kk_ => XS.iloadN X0.here hx rfl (hb hby d13_11) rfl  kk_) ?_
  show G s₁ (mkF m 12 #[.val (.ref cb), .val (.int (0 : Int32)), .val (.ref db), .val (.int (0 : Int32)), .val (.int (1 : Int32)), .val (.int (0 : Int32)), .unset] [(.int (0 : Int32)), (.ref cb)])
  refine rLdC hs X0 hx hZ V_cb ⟨by decide, by decide⟩ (v := (.int x0)) rfl rfl rfl (hb hby d13_12) ?_
  show G s₁ (mkF m 13 #[.val (.ref cb), .val (.int (0 : Int32)), .val (.ref db), .val (.int (0 : Int32)), .val (.int (1 : Int32)), .val (.int (0 : Int32)), .unset] [(.int x0)])
  refine hs.go (fun _ kk_ => XS.istore X0.here hx rfl (hb hby d13_13) rfl (l' := #[.val (.ref cb), .val (.int (0 : Int32)), .val (.ref db), .val (.int (0 : Int32)), .val (.int (1 : Int32)), .val (.int (0 : Int32)), .val (.int x0)]) rfl kk_) ?_
  show G s₁ (mkF m 15 #[.val (.ref cb), .val (.int (0 : Int32)), .val (.ref db), .val (.int (0 : Int32)), .val (.int (1 : Int32)), .val (.int (0 : Int32)), .val (.int x0)] [])
  refine hs.go (fun _ kk_ => XS.iload X0.here hx rfl (hb hby d13_15) rfl  kk_) ?_
  show G s₁ (mkF m 17 #[.val (.ref cb), .val (.int (0 : Int32)), .val (.ref db), .val (.int (0 : Int32)), .val (.int (1 : Int32)), .val (.int (0 : Int32)), .val (.int x0)] [(.int x0)])
  refine hs.go (fun _ kk_ => XS.sipush X0.here hx rfl (hb hby d13_17) kk_) ?_
  show G s₁ (mkF m 20 #[.val (.ref cb), .val (.int (0 : Int32)), .val (.ref db), .val (.int (0 : Int32)), .val (.int (1 : Int32)), .val (.int (0 : Int32)), .val (.int x0)] [(.int (255 : Int32)), (.int x0)])
  refine hs.go (fun _ kk_ => XS.icmpYes X0.here hx rfl (pc0 := 20) (pc' := 26) rfl (hb hby d13_20) rfl (flt (hx0 : ¬ ((255 : Int32) < x0))).2.2.2 (by decide) (by decide) kk_) ?_
  show G s₁ (mkF m 26 #[.val (.ref cb), .val (.int (0 : Int32)), .val (.ref db), .val (.int (0 : Int32)), .val (.int (1 : Int32)), .val (.int (0 : Int32)), .val (.int x0)] [])
  refine hs.go (fun _ kk_ => XS.aloadN X0.here hx rfl (hb hby d13_26) rfl rfl kk_) ?_
  show G s₁ (mkF m 27 #[.val (.ref cb), .val (.int (0 : Int32)), .val (.ref db), .val (.int (0 : Int32)), .val (.int (1 : Int32)), .val (.int (0 : Int32)), .val (.int x0)] [(.ref db)])
  refine hs.go (fun _ kk_ => XS.iloadN X0.here hx rfl (hb hby d13_27) rfl  kk_) ?_
  show G s₁ (mkF m 28 #[.val (.ref cb), .val (.int (0 : Int32)), .val (.ref db), .val (.int (0 : Int32)), .val (.int (1 : Int32)), .val (.int (0 : Int32)), .val (.int x0)] [(.int (0 : Int32)), (.ref db)])
  refine hs.go (fun _ kk_ => XS.iload X0.here hx rfl (hb hby d13_28) rfl  kk_) ?_
  show G s₁ (mkF m 30 #[.val (.ref cb), .val (.int (0 : Int32)), .val (.ref db), .val (.int (0 : Int32)), .val (.int (1 : Int32)), .val (.int (0 : Int32)), .val (.int x0)] [(.int x0), (.int (0 : Int32)), (.ref db)])
  refine hs.go (fun _ kk_ => XS.i2b X0.here hx rfl (hb hby d13_30) rfl kk_) ?_
  show G s₁ (mkF m 31 #[.val (.ref cb), .val (.int (0 : Int32)), .val (.ref db), .val (.int (0 : Int32)), .val (.int (1 : Int32)), .val (.int (0 : Int32)), .val (.int x0)] [(.int (x0.toInt8.toInt32)), (.int (0 : Int32)), (.ref db)])
  refine rStB hs X0 hx hZ V_db g_db ⟨by decide, by decide⟩ 0 (by decide) (by simp) (x' := (x0.toInt8.toInt32)) (nar_byte _) rfl rfl (hb hby d13_31) (fun T1 h1 X1 W1 V_db => ?_)
  have V_db : Arv Z h1 db kd .byte (1 : Int32) [(.int (x0.toInt8.toInt32))] (.int (0 : Int32)) := V_db
  have V_cb := V_cb.other W1 hne
  have K := K.wr W1 (Or.inl (by simp))
  have Ksz := K.1
  have Z0 := Nat.le_trans Z0 (Keep.of_wr W1).1
  show G T1 (mkF m 32 #[.val (.ref cb), .val (.int (0 : Int32)), .val (.ref db), .val (.int (0 : Int32)), .val (.int (1 : Int32)), .val (.int (0 : Int32)), .val (.int x0)] [])
  refine hs.go (fun _ kk_ => XS.iinc X1.here hx rfl (hb hby d13_32) rfl (l' := #[.val (.ref cb), .val (.int (1 : Int32)), .val (.ref db), .val (.int (0 : Int32)), .val (.int (1 : Int32)), .val (.int (0 : Int32)), .val (.int x0)]) rfl kk_) ?_
  show G T1 (mkF m 35 #[.val (.ref cb), .val (.int (1 : Int32)), .val (.ref db), .val (.int (0 : Int32)), .val (.int (1 : Int32)), .val (.int (0 : Int32)), .val (.int x0)] [])
  refine hs.go (fun _ kk_ => XS.iinc X1.here hx rfl (hb hby d13_35) rfl (l' := #[.val (.ref cb), .val (.int (1 : Int32)), .val (.ref db), .val (.int (1 : Int32)), .val (.int (1 : Int32)), .val (.int (0 : Int32)), .val (.int x0)]) rfl kk_) ?_
  show G T1 (mkF m 38 #[.val (.ref cb), .val (.int (1 : Int32)), .val (.ref db), .val (.int (1 : Int32)), .val (.int (1 : Int32)), .val (.int (0 : Int32)), .val (.int x0)] [])
  refine hs.go (fun _ kk_ => XS.iinc X1.here hx rfl (hb hby d13_38) rfl (l' := #[.val (.ref cb), .val (.int (1 : Int32)), .val (.ref db), .val (.int (1 : Int32)), .val (.int (1 : Int32)), .val (.int (1 : Int32)), .val (.int x0)]) rfl kk_) ?_
  show G T1 (mkF m 41 #[.val (.ref cb), .val (.int (1 : Int32)), .val (.ref db), .val (.int (1 : Int32)), .val (.int (1 : Int32)), .val (.int (1 : Int32)), .val (.int x0)] [])
  refine hs.go (fun _ kk_ => XS.goto X1.here hx rfl (pc0 := 41) (pc' := 3) rfl (hb hby d13_41) (by decide) (by decide) kk_) ?_
  show G T1 (mkF m 3 #[.val (.ref cb), .val (.int (1 : Int32)), .val (.ref db), .val (.int (1 : Int32)), .val (.int (1 : Int32)), .val (.int (1 : Int32)), .val (.int x0)] [])
  refine hs.go (fun _ kk_ => XS.iload X1.here hx rfl (hb hby d13_3) rfl  kk_) ?_
  show G T1 (mkF m 5 #[.val (.ref cb), .val (.int (1 : Int32)), .val (.ref db), .val (.int (1 : Int32)), .val (.int (1 : Int32)), .val (.int (1 : Int32)), .val (.int x0)] [(.int (1 : Int32))])
  refine hs.go (fun _ kk_ => XS.iload X1.here hx rfl (hb hby d13_5) rfl  kk_) ?_
  show G T1 (mkF m 7 #[.val (.ref cb), .val (.int (1 : Int32)), .val (.ref db), .val (.int (1 : Int32)), .val (.int (1 : Int32)), .val (.int (1 : Int32)), .val (.int x0)] [(.int (1 : Int32)), (.int (1 : Int32))])
  refine hs.go (fun _ kk_ => XS.icmpYes X1.here hx rfl (pc0 := 7) (pc' := 44) rfl (hb hby d13_7) rfl (flt ((by decide) : ¬ ((1 : Int32) < (1 : Int32)))).2.1 (by decide) (by decide) kk_) ?_
  show G T1 (mkF m 44 #[.val (.ref cb), .val (.int (1 : Int32)), .val (.ref db), .val (.int (1 : Int32)), .val (.int (1 : Int32)), .val (.int (1 : Int32)), .val (.int x0)] [])
  refine hs.go (fun _ kk_ => XS.iload X1.here hx rfl (hb hby d13_44) rfl  kk_) ?_
  show G T1 (mkF m 46 #[.val (.ref cb), .val (.int (1 : Int32)), .val (.ref db), .val (.int (1 : Int32)), .val (.int (1 : Int32)), .val (.int (1 : Int32)), .val (.int x0)] [(.int (1 : Int32))])
  exact rRetI fin hJ X1 hx (by decide) (by decide) hret (hb hby d13_46) (fun vm' hj => ⟨rfl, K, V_db, hj⟩)
theorem pd_0 : parseMethodDescriptor "([CI[BII)I" = some ⟨[(.array .char), .int, (.array .byte), .int, .int], some .int⟩ := by decide +kernel
theorem d12_0 : decode jdk_52_method_16_code 0 = .ok (.iload_n 2, 1) := by decide +kernel
theorem d12_1 : decode jdk_52_method_16_code 1 = .ok (.newarray .byte, 2) := by decide +kernel
theorem d12_3 : decode jdk_52_method_16_code 3 = .ok (.astore_n 3, 1) := by decide +kernel
theorem d12_4 : decode jdk_52_method_16_code 4 = .ok (.aload_n 0, 1) := by decide +kernel
theorem d12_5 : decode jdk_52_method_16_code 5 = .ok (.iload_n 1, 1) := by decide +kernel
theorem d12_6 : decode jdk_52_method_16_code 6 = .ok (.aload_n 3, 1) := by decide +kernel
theorem d12_7 : decode jdk_52_method_16_code 7 = .ok (.iconst 0, 1) := by decide +kernel
theorem d12_8 : decode jdk_52_method_16_code 8 = .ok (.iload_n 2, 1) := by decide +kernel
theorem d12_9 : decode jdk_52_method_16_code 9 = .ok (.invokestatic 115, 3) := by decide +kernel
theorem d12_12 : decode jdk_52_method_16_code 12 = .ok (.istore 4, 2) := by decide +kernel
theorem d12_14 : decode jdk_52_method_16_code 14 = .ok (.iload 4, 2) := by decide +kernel
theorem d12_16 : decode jdk_52_method_16_code 16 = .ok (.iload_n 2, 1) := by decide +kernel
theorem d12_17 : decode jdk_52_method_16_code 17 = .ok (.if_icmp .eq 40, 3) := by decide +kernel
theorem d12_57 : decode jdk_52_method_16_code 57 = .ok (.aload_n 3, 1) := by decide +kernel
theorem d12_58 : decode jdk_52_method_16_code 58 = .ok (.areturn, 1) := by decide +kernel
theorem pn_12 : plainFor (⟨"java/lang/StringUTF16", "compress", "([CII)[B"⟩ : MethodName) = true := plainFor_of_name (by first | (simp [plainName, overriddenIn]; done) | decide +kernel)
theorem ef_12 (m : MethodId) (x0 : Addr) (x1 : Int32) (x2 : Int32) : entryFrame m #[(.ref x0), (.int x1), (.int x2)] 6 = mkF m 0 #[.val (.ref x0), .val (.int x1), .val (.int x2), .unset, .unset, .unset] [] := by first | (simp [entryFrame, mkF, argsToLocals, Value.category]; done) | rfl
theorem hy_12 : ((⟨"java/lang/StringUTF16", "compress", "([CII)[B"⟩ : MethodName)).cls ≠ "java/lang/invoke/MethodHandle" ∧ ((⟨"java/lang/StringUTF16", "compress", "([CII)[B"⟩ : MethodName)).cls ≠ "java/lang/invoke/VarHandle" := by decide
set_option maxRecDepth 65536 in
set_option maxHeartbeats 40000000 in
theorem c3_1 (l : Launch) (Z : State) (a0 : Array Value) (hw : ∀ d ∈ tables_1, d.before a0 Z = true) (ws : List Jvm.Cond) (J : Vm → Prop) (hJ : Stb J) (cb : Addr) (x0 : Int32) (kc : ClassId) (h0 : Heap) (n0 : Nat) (Z0 : n0 ≤ h0.size) (V_cb : Arv Z h0 cb kc .char (1 : Int32) [(.int x0)] (.int (0 : Int32))) (hx0 : ¬ ((255 : Int32) < x0)) :
    Con l Z (⟨"java/lang/StringUTF16", "compress", "([CII)[B"⟩ : MethodName) jdk_52_method_16_code 6 (some (.array .byte)) ws ({ frames := 1, cells := 1, slots := 1, locals := 18 } : Room) #[(.ref cb), (.int (0 : Int32)), (.int (1 : Int32))] h0 n0 J (fun v h vm => ∃ (db : Addr) (kd : ClassId), v = some (.ref db) ∧ Keep h0 h [] ∧ Arv Z h db kd .byte (1 : Int32) [(.int (x0.toInt8.toInt32))] (.int (0 : Int32)) ∧ h0.size ≤ db ∧ J vm) := by
  refine Con.of pn_12 ?_
  intro G p e s m below meth c s₁ hs hx hby hml hown hnm hret hZ X0 XR hh0 hJ0 fin
  have hml : c.maxLocals = 6 := hml
  have hown : s.vm.findClass "java/lang/StringUTF16" = some m.cls := hown
  rw [ef_12]
  have K := Keep.refl h0 ([] : List Addr)
  have Ksz := K.1
  show G s₁ (mkF m 0 #[.val (.ref cb), .val (.int (0 : Int32)), .val (.int (1 : Int32)), .unset, .unset, .unset] [])
  refine hs.go (fun _ kk_ => XS.iloadN X0.here hx rfl (hb hby d12_0) rfl  kk_) ?_
  show G s₁ (mkF m 1 #[.val (.ref cb), .val (.int (0 : Int32)), .val (.int (1 : Int32)), .unset, .unset, .unset] [(.int (1 : Int32))])
  refine rNewP hs X0 hx hZ (hw _ (List.mem_of_getElem? (i := 17) rfl)) rfl (hb hby d12_1) rfl (by decide) 1 1 (by decide) (by decide) (by decide) (by decide) (fun T1 h1 k1 db g1 X1 E1 V_db => ?_)
  have V_db : Arv Z h1 db k1 .byte (1 : Int32) [(.int (0 : Int32))] (.int (0 : Int32)) := V_db
  have g_db : n0 ≤ db := by rw [g1]; exact Z0
  have Z0 := Nat.le_trans Z0 E1.1
  have ne_cb_db : cb ≠ db := Nat.ne_of_lt (Nat.lt_of_lt_of_le V_cb.lt (Nat.le_of_eq g1.symm))
  have V_cb := V_cb.ext E1
  have K := K.ext E1
  have sz_db : h0.size ≤ db := by rw [g1]; exact Ksz
  have Ksz := K.1
  show G T1 (mkF m 3 #[.val (.ref cb), .val (.int (0 : Int32)), .val (.int (1 : Int32)), .unset, .unset, .unset] [(.ref db)])
  refine hs.go (fun _ kk_ => XS.astoreN X1.here hx rfl (hb hby d12_3) rfl rfl (l' := #[.val (.ref cb), .val (.int (0 : Int32)), .val (.int (1 : Int32)), .val (.ref db), .unset, .unset]) rfl kk_) ?_
  show G T1 (mkF m 4 #[.val (.ref cb), .val (.int (0 : Int32)), .val (.int (1 : Int32)), .val (.ref db), .unset, .unset] [])
  refine hs.go (fun _ kk_ => XS.aloadN X1.here hx rfl (hb hby d12_4) rfl rfl kk_) ?_
  show G T1 (mkF m 5 #[.val (.ref cb), .val (.int (0 : Int32)), .val (.int (1 : Int32)), .val (.ref db), .unset, .unset] [(.ref cb)])
  refine hs.go (fun _ kk_ => XS.iloadN X1.here hx rfl (hb hby d12_5) rfl  kk_) ?_
  show G T1 (mkF m 6 #[.val (.ref cb), .val (.int (0 : Int32)), .val (.int (1 : Int32)), .val (.ref db), .unset, .unset] [(.int (0 : Int32)), (.ref cb)])
  refine hs.go (fun _ kk_ => XS.aloadN X1.here hx rfl (hb hby d12_6) rfl rfl kk_) ?_
  show G T1 (mkF m 7 #[.val (.ref cb), .val (.int (0 : Int32)), .val (.int (1 : Int32)), .val (.ref db), .unset, .unset] [(.ref db), (.int (0 : Int32)), (.ref cb)])
  refine hs.go (fun _ kk_ => XS.iconst X1.here hx rfl (hb hby d12_7) kk_) ?_
  show G T1 (mkF m 8 #[.val (.ref cb), .val (.int (0 : Int32)), .val (.int (1 : Int32)), .val (.ref db), .unset, .unset] [(.int (0 : Int32)), (.ref db), (.int (0 : Int32)), (.ref cb)])
  refine hs.go (fun _ kk_ => XS.iloadN X1.here hx rfl (hb hby d12_8) rfl  kk_) ?_
  show G T1 (mkF m 9 #[.val (.ref cb), .val (.int (0 : Int32)), .val (.int (1 : Int32)), .val (.ref db), .unset, .unset] [(.int (1 : Int32)), (.int (0 : Int32)), (.ref db), (.int (0 : Int32)), (.ref cb)])
  refine rCallS hs X1 hx hZ (as' := [(.ref cb), (.int (0 : Int32)), (.ref db), (.int (0 : Int32)), (.int (1 : Int32))]) hJ (c5_1 l Z a0 hw [] (J) hJ cb db x0 kc k1 h1 n0 Z0 V_cb V_db g_db hx0) hown (hw _ (List.mem_of_getElem? (i := 79) rfl)) (hw _ (List.mem_of_getElem? (i := 80) rfl)) (hw _ (List.mem_of_getElem? (i := 77) rfl)) (hw _ (List.mem_of_getElem? (i := 81) rfl)) hy_13 rfl (by rw [hml]; rfl) [] (lenOf pd_0 rfl) rfl 0 (by show 2 * 0 + _ ≤ _; exact Nat.le_of_eq rfl) (hb hby d12_9) (by decide) (by decide) (by decide) (by decide) (fun r2 T2 h2 vm2 X2 q2 => ?_)
  obtain ⟨rfl, Kc2, V_db, hj2⟩ := q2
  have X2 := X2 _ hj2
  have K := K.trans Kc2 (fun x hx => Or.inr (by cases List.mem_singleton.mp hx; exact sz_db))
  have Ksz := K.1
  have Z0 := Nat.le_trans Z0 Kc2.1
  show G T2 (mkF m 12 #[.val (.ref cb), .val (.int (0 : Int32)), .val (.int (1 : Int32)), .val (.ref db), .unset, .unset] [(.int (1 : Int32))])
  refine hs.go (fun _ kk_ => XS.istore X2.here hx rfl (hb hby d12_12) rfl (l' := #[.val (.ref cb), .val (.int (0 : Int32)), .val (.int (1 : Int32)), .val (.ref db), .val (.int (1 : Int32)), .unset]) rfl kk_) ?_
  show G T2 (mkF m 14 #[.val (.ref cb), .val (.int (0 : Int32)), .val (.int (1 : Int32)), .val (.ref db), .val (.int (1 : Int32)), .unset] [])
  refine hs.go (fun _ kk_ => XS.iload X2.here hx rfl (hb hby d12_14) rfl  kk_) ?_
  show G T2 (mkF m 16 #[.val (.ref cb), .val (.int (0 : Int32)), .val (.int (1 : Int32)), .val (.ref db), .val (.int (1 : Int32)), .unset] [(.int (1 : Int32))])
  refine hs.go (fun _ kk_ => XS.iloadN X2.here hx rfl (hb hby d12_16) rfl  kk_) ?_
  show G T2 (mkF m 17 #[.val (.ref cb), .val (.int (0 : Int32)), .val (.int (1 : Int32)), .val (.ref db), .val (.int (1 : Int32)), .unset] [(.int (1 : Int32)), (.int (1 : Int32))])
  refine hs.go (fun _ kk_ => XS.icmpYes X2.here hx rfl (pc0 := 17) (pc' := 57) rfl (hb hby d12_17) rfl (teq (rfl : (1 : Int32) = (1 : Int32))).1 (by decide) (by decide) kk_) ?_
  show G T2 (mkF m 57 #[.val (.ref cb), .val (.int (0 : Int32)), .val (.int (1 : Int32)), .val (.ref db), .val (.int (1 : Int32)), .unset] [])
  refine hs.go (fun _ kk_ => XS.aloadN X2.here hx rfl (hb hby d12_57) rfl rfl kk_) ?_
  show G T2 (mkF m 58 #[.val (.ref cb), .val (.int (0 : Int32)), .val (.int (1 : Int32)), .val (.ref db), .val (.int (1 : Int32)), .unset] [(.ref db)])
  exact rRetA fin hJ X2 hx (by decide) (by decide) hret rfl rfl rfl (hb hby d12_58) (fun vm' hj => ⟨db, _, rfl, K, V_db, sz_db, hj⟩)
theorem d14_0 : decode jdk_52_method_15_code 0 = .ok (.iload_n 1, 1) := by decide +kernel
theorem d14_1 : decode jdk_52_method_15_code 1 = .ok (.aload_n 0, 1) := by decide +kernel
theorem d14_2 : decode jdk_52_method_15_code 2 = .ok (.arraylength, 1) := by decide +kernel
theorem d14_3 : decode jdk_52_method_15_code 3 = .ok (.isub, 1) := by decide +kernel
theorem d14_4 : decode jdk_52_method_15_code 4 = .ok (.bipush 31, 2) := by decide +kernel
theorem d14_6 : decode jdk_52_method_15_code 6 = .ok (.iushr, 1) := by decide +kernel
theorem d14_7 : decode jdk_52_method_15_code 7 = .ok (.i2b, 1) := by decide +kernel
theorem d14_8 : decode jdk_52_method_15_code 8 = .ok (.ireturn, 1) := by decide +kernel
theorem pn_14 : plainFor (⟨"java/lang/StringUTF16", "coderFromArrayLen", "([BI)B"⟩ : MethodName) = true := plainFor_of_name (by first | (simp [plainName, overriddenIn]; done) | decide +kernel)
theorem ef_14 (m : MethodId) (x0 : Addr) (x1 : Int32) : entryFrame m #[(.ref x0), (.int x1)] 2 = mkF m 0 #[.val (.ref x0), .val (.int x1)] [] := by first | (simp [entryFrame, mkF, argsToLocals, Value.category]; done) | rfl
theorem hy_14 : ((⟨"java/lang/StringUTF16", "coderFromArrayLen", "([BI)B"⟩ : MethodName)).cls ≠ "java/lang/invoke/MethodHandle" ∧ ((⟨"java/lang/StringUTF16", "coderFromArrayLen", "([BI)B"⟩ : MethodName)).cls ≠ "java/lang/invoke/VarHandle" := by decide
set_option maxRecDepth 65536 in
set_option maxHeartbeats 40000000 in
theorem cf_1 (l : Launch) (Z : State) (a0 : Array Value) (hw : ∀ d ∈ tables_1, d.before a0 Z = true) (ws : List Jvm.Cond) (J : Vm → Prop) (hJ : Stb J) (db : Addr) (vs : List Value) (kd : ClassId) (h0 : Heap) (n0 : Nat) (Z0 : n0 ≤ h0.size) (V_db : Arv Z h0 db kd .byte (1 : Int32) vs (.int (0 : Int32))) :
    Con l Z (⟨"java/lang/StringUTF16", "coderFromArrayLen", "([BI)B"⟩ : MethodName) jdk_52_method_15_code 2 (some .byte) ws ({ frames := 0, cells := 0, slots := 0, locals := 0 } : Room) #[(.ref db), (.int (1 : Int32))] h0 n0 J (fun v h vm => v = some (.int (0 : Int32)) ∧ h = h0 ∧ J vm) := by
  refine Con.of pn_14 ?_
  intro G p e s m below meth c s₁ hs hx hby hml hown hnm hret hZ X0 XR hh0 hJ0 fin
  have hml : c.maxLocals = 2 := hml
  have hown : s.vm.findClass "java/lang/StringUTF16" = some m.cls := hown
  rw [ef_14]
  show G s₁ (mkF m 0 #[.val (.ref db), .val (.int (1 : Int32))] [])
  refine hs.go (fun _ kk_ => XS.iloadN X0.here hx rfl (hb hby d14_0) rfl  kk_) ?_
  show G s₁ (mkF m 1 #[.val (.ref db), .val (.int (1 : Int32))] [(.int (1 : Int32))])
  refine hs.go (fun _ kk_ => XS.aloadN X0.here hx rfl (hb hby d14_1) rfl rfl kk_) ?_
  show G s₁ (mkF m 2 #[.val (.ref db), .val (.int (1 : Int32))] [(.ref db), (.int (1 : Int32))])
  refine rLen hs X0 hx hZ V_db rfl rfl (hb hby d14_2) ?_
  show G s₁ (mkF m 3 #[.val (.ref db), .val (.int (1 : Int32))] [(.int (1 : Int32)), (.int (1 : Int32))])
  refine hs.go (fun _ kk_ => XS.isub X0.here hx rfl (hb hby d14_3) rfl kk_) ?_
  show G s₁ (mkF m 4 #[.val (.ref db), .val (.int (1 : Int32))] [(.int ((1 : Int32) - (1 : Int32)))])
  refine hs.go (fun _ kk_ => XS.bipush X0.here hx rfl (hb hby d14_4) kk_) ?_
  show G s₁ (mkF m 6 #[.val (.ref db), .val (.int (1 : Int32))] [(.int (31 : Int32)), (.int ((1 : Int32) - (1 : Int32)))])
  refine hs.go (fun _ kk_ => XS.iushr X0.here hx rfl (hb hby d14_6) rfl kk_) ?_
  show G s₁ (mkF m 7 #[.val (.ref db), .val (.int (1 : Int32))] [(.int ((((1 : Int32) - (1 : Int32)).toUInt32 >>> ((31 : Int32) &&& 31).toUInt32).toInt32))])
  refine hs.go (fun _ kk_ => XS.i2b X0.here hx rfl (hb hby d14_7) rfl kk_) ?_
  show G s₁ (mkF m 8 #[.val (.ref db), .val (.int (1 : Int32))] [(.int (((((1 : Int32) - (1 : Int32)).toUInt32 >>> ((31 : Int32) &&& 31).toUInt32).toInt32).toInt8.toInt32))])
  exact rRetN fin hJ X0 hx (by decide) (by decide) hret (by simp) (hb hby d14_8) (z' := (0 : Int32)) (by decide) (fun vm' hj => ⟨rfl, rfl, hj⟩)
theorem pd_1 : parseMethodDescriptor "([CII)[B" = some ⟨[(.array .char), .int, .int], some (.array .byte)⟩ := by decide +kernel
theorem pd_2 : parseMethodDescriptor "([BI)B" = some ⟨[(.array .byte), .int], some .byte⟩ := by decide +kernel
theorem d2_0 : decode jdk_42_method_149_code 0 = .ok (.aload_n 0, 1) := by decide +kernel
theorem d2_1 : decode jdk_42_method_149_code 1 = .ok (.invokespecial 1, 3) := by decide +kernel
theorem d2_4 : decode jdk_42_method_149_code 4 = .ok (.iload_n 3, 1) := by decide +kernel
theorem d2_5 : decode jdk_42_method_149_code 5 = .ok (.ifCond .ne 22, 3) := by decide +kernel
theorem d2_27 : decode jdk_42_method_149_code 27 = .ok (.getstatic 38, 3) := by decide +kernel
theorem d2_30 : decode jdk_42_method_149_code 30 = .ok (.ifCond .eq 28, 3) := by decide +kernel
theorem d2_33 : decode jdk_42_method_149_code 33 = .ok (.aload_n 1, 1) := by decide +kernel
theorem d2_34 : decode jdk_42_method_149_code 34 = .ok (.iload_n 2, 1) := by decide +kernel
theorem d2_35 : decode jdk_42_method_149_code 35 = .ok (.iload_n 3, 1) := by decide +kernel
theorem d2_36 : decode jdk_42_method_149_code 36 = .ok (.invokestatic 177, 3) := by decide +kernel
theorem d2_39 : decode jdk_42_method_149_code 39 = .ok (.astore 5, 2) := by decide +kernel
theorem d2_41 : decode jdk_42_method_149_code 41 = .ok (.aload_n 0, 1) := by decide +kernel
theorem d2_42 : decode jdk_42_method_149_code 42 = .ok (.aload 5, 2) := by decide +kernel
theorem d2_44 : decode jdk_42_method_149_code 44 = .ok (.iload_n 3, 1) := by decide +kernel
theorem d2_45 : decode jdk_42_method_149_code 45 = .ok (.invokestatic 47, 3) := by decide +kernel
theorem d2_48 : decode jdk_42_method_149_code 48 = .ok (.putfield 15, 3) := by decide +kernel
theorem d2_51 : decode jdk_42_method_149_code 51 = .ok (.aload_n 0, 1) := by decide +kernel
theorem d2_52 : decode jdk_42_method_149_code 52 = .ok (.aload 5, 2) := by decide +kernel
theorem d2_54 : decode jdk_42_method_149_code 54 = .ok (.putfield 9, 3) := by decide +kernel
theorem d2_57 : decode jdk_42_method_149_code 57 = .ok (.return_, 1) := by decide +kernel
theorem pn_2 : plainFor (⟨"java/lang/String", "<init>", "([CIILjava/lang/Void;)V"⟩ : MethodName) = true := plainFor_of_name (by first | (simp [plainName, overriddenIn]; done) | decide +kernel)
theorem ef_2_xxxxn (m : MethodId) (x0 : Addr) (x1 : Addr) (x2 : Int32) (x3 : Int32) : entryFrame m #[(.ref x0), (.ref x1), (.int x2), (.int x3), .null] 6 = mkF m 0 #[.val (.ref x0), .val (.ref x1), .val (.int x2), .val (.int x3), .val .null, .unset] [] := by first | (simp [entryFrame, mkF, argsToLocals, Value.category]; done) | rfl
theorem hy_2 : ((⟨"java/lang/String", "<init>", "([CIILjava/lang/Void;)V"⟩ : MethodName)).cls ≠ "java/lang/invoke/MethodHandle" ∧ ((⟨"java/lang/String", "<init>", "([CIILjava/lang/Void;)V"⟩ : MethodName)).cls ≠ "java/lang/invoke/VarHandle" := by decide
set_option maxRecDepth 65536 in
set_option maxHeartbeats 40000000 in
theorem i4_1 (l : Launch) (Z : State) (a0 : Array Value) (hw : ∀ d ∈ tables_1, d.before a0 Z = true) (ws : List Jvm.Cond) (J : Vm → Prop) (hJ : Stb J) (a cb : Addr) (x0 : Int32) (kc : ClassId) (h0 : Heap) (n0 : Nat) (Z0 : n0 ≤ h0.size) (O : Old Z n0 h0) (cw : Int32) (S0 : Sta Z Z.heap "java/lang/String" "COMPACT_STRINGS" "Z" (.int cw)) (hcw : ¬ (cw = (0 : Int32))) (E_a : Exa Z h0 a "java/lang/String") (g_a : n0 ≤ a) (F_value_a : Fld Z h0 a "java/lang/String" "value" "[B" .null) (F_coder_a : Fld Z h0 a "java/lang/String" "coder" "B" (.int (0 : Int32))) (V_cb : Arv Z h0 cb kc .char (1 : Int32) [(.int x0)] (.int (0 : Int32))) (hx0 : ¬ ((255 : Int32) < x0)) :
    Con l Z (⟨"java/lang/String", "<init>", "([CIILjava/lang/Void;)V"⟩ : MethodName) jdk_42_method_149_code 6 none ws ({ frames := 2, cells := 1, slots := 1, locals := 35 } : Room) #[(.ref a), (.ref cb), (.int (0 : Int32)), (.int (1 : Int32)), .null] h0 n0 J (fun v h vm => v = none ∧ Keep h0 h [a] ∧ Exa Z h a "java/lang/String" ∧ (∃ (b : Addr) (k : ClassId) (vs : List Value), Fld Z h a "java/lang/String" "value" "[B" (.ref b) ∧ Arv Z h b k .byte (1 : Int32) vs (.int (0 : Int32))) ∧ J vm) := by
  refine Con.of pn_2 ?_
  intro G p e s m below meth c s₁ hs hx hby hml hown hnm hret hZ X0 XR hh0 hJ0 fin
  have hml : c.maxLocals = 6 := hml
  have hown : s.vm.findClass "java/lang/String" = some m.cls := hown
  rw [ef_2_xxxxn]
  have K := Keep.refl h0 ([a] : List Addr)
  have Ksz := K.1
  show G s₁ (mkF m 0 #[.val (.ref a), .val (.ref cb), .val (.int (0 : Int32)), .val (.int (1 : Int32)), .val .null, .unset] [])
  refine hs.go (fun _ kk_ => XS.aloadN X0.here hx rfl (hb hby d2_0) rfl rfl kk_) ?_
  show G s₁ (mkF m 1 #[.val (.ref a), .val (.ref cb), .val (.int (0 : Int32)), .val (.int (1 : Int32)), .val .null, .unset] [(.ref a)])
  refine rInitO hs X0 hx hZ hown (hw _ (List.mem_of_getElem? (i := 13) rfl)) (hw _ (List.mem_of_getElem? (i := 14) rfl)) (hw _ (List.mem_of_getElem? (i := 15) rfl)) rfl (by rw [hml]; rfl) rfl (hb hby d2_1) (by decide) (W := 0) (by show 2 * 0 + _ ≤ _; exact Nat.le_of_eq rfl) (by decide) (fun T1 X1 => ?_)
  show G T1 (mkF m 4 #[.val (.ref a), .val (.ref cb), .val (.int (0 : Int32)), .val (.int (1 : Int32)), .val .null, .unset] [])
  refine hs.go (fun _ kk_ => XS.iloadN X1.here hx rfl (hb hby d2_4) rfl  kk_) ?_
  show G T1 (mkF m 5 #[.val (.ref a), .val (.ref cb), .val (.int (0 : Int32)), .val (.int (1 : Int32)), .val .null, .unset] [(.int (1 : Int32))])
  refine hs.go (fun _ kk_ => XS.ifYes X1.here hx rfl (pc0 := 5) (pc' := 27) rfl (hb hby d2_5) rfl ((if0 _ _).trans (feq ((by decide) : ¬ ((1 : Int32) = (0 : Int32)))).2) (by decide) (by decide) kk_) ?_
  show G T1 (mkF m 27 #[.val (.ref a), .val (.ref cb), .val (.int (0 : Int32)), .val (.int (1 : Int32)), .val .null, .unset] [])
  refine rGetS hs X1 hx hZ hown (host := "") (Or.inl (hw _ (List.mem_of_getElem? (i := 74) rfl))) Via.refl (S0.ext O.2) rfl (hb hby d2_27) (fun T2 X2 => ?_)
  show G T2 (mkF m 30 #[.val (.ref a), .val (.ref cb), .val (.int (0 : Int32)), .val (.int (1 : Int32)), .val .null, .unset] [(.int cw)])
  refine hs.go (fun _ kk_ => XS.ifNo X2.here hx rfl (hb hby d2_30) rfl ((if0 _ _).trans (feq (hcw : ¬ (cw = (0 : Int32)))).1) kk_) ?_
  show G T2 (mkF m 33 #[.val (.ref a), .val (.ref cb), .val (.int (0 : Int32)), .val (.int (1 : Int32)), .val .null, .unset] [])
  refine hs.go (fun _ kk_ => XS.aloadN X2.here hx rfl (hb hby d2_33) rfl rfl kk_) ?_
  show G T2 (mkF m 34 #[.val (.ref a), .val (.ref cb), .val (.int (0 : Int32)), .val (.int (1 : Int32)), .val .null, .unset] [(.ref cb)])
  refine hs.go (fun _ kk_ => XS.iloadN X2.here hx rfl (hb hby d2_34) rfl  kk_) ?_
  show G T2 (mkF m 35 #[.val (.ref a), .val (.ref cb), .val (.int (0 : Int32)), .val (.int (1 : Int32)), .val .null, .unset] [(.int (0 : Int32)), (.ref cb)])
  refine hs.go (fun _ kk_ => XS.iloadN X2.here hx rfl (hb hby d2_35) rfl  kk_) ?_
  show G T2 (mkF m 36 #[.val (.ref a), .val (.ref cb), .val (.int (0 : Int32)), .val (.int (1 : Int32)), .val .null, .unset] [(.int (1 : Int32)), (.int (0 : Int32)), (.ref cb)])
  refine rCallS hs X2 hx hZ (as' := [(.ref cb), (.int (0 : Int32)), (.int (1 : Int32))]) hJ (c3_1 l Z a0 hw [] (J) hJ cb x0 kc h0 n0 Z0 V_cb hx0) hown (hw _ (List.mem_of_getElem? (i := 75) rfl)) (hw _ (List.mem_of_getElem? (i := 76) rfl)) (hw _ (List.mem_of_getElem? (i := 77) rfl)) (hw _ (List.mem_of_getElem? (i := 78) rfl)) hy_12 rfl (by rw [hml]; rfl) [] (lenOf pd_1 rfl) rfl 0 (by show 2 * 0 + _ ≤ _; exact Nat.le_of_eq rfl) (hb hby d2_36) (by decide) (by decide) (by decide) (by decide) (fun r3 T3 h3 vm3 X3 q3 => ?_)
  obtain ⟨db, kd, rfl, Kc3, V_db, hge, hj3⟩ := q3
  have X3 := X3 _ hj3
  have ne_a_db : a ≠ db := Nat.ne_of_lt (Nat.lt_of_lt_of_le E_a.lt hge)
  have ne_cb_db : cb ≠ db := Nat.ne_of_lt (Nat.lt_of_lt_of_le V_cb.lt hge)
  have g_db : n0 ≤ db := Nat.le_trans Z0 hge
  have O := O.keep Kc3 all0
  have E_a := E_a.keep Kc3
  have F_value_a := F_value_a.keep Kc3 nin0
  have F_coder_a := F_coder_a.keep Kc3 nin0
  have K := K.trans Kc3 (fun x hx => by simp at hx)
  have Ksz := K.1
  have Z0 := Nat.le_trans Z0 Kc3.1
  show G T3 (mkF m 39 #[.val (.ref a), .val (.ref cb), .val (.int (0 : Int32)), .val (.int (1 : Int32)), .val .null, .unset] [(.ref db)])
  refine hs.go (fun _ kk_ => XS.astore X3.here hx rfl (hb hby d2_39) rfl rfl (l' := #[.val (.ref a), .val (.ref cb), .val (.int (0 : Int32)), .val (.int (1 : Int32)), .val .null, .val (.ref db)]) rfl kk_) ?_
  show G T3 (mkF m 41 #[.val (.ref a), .val (.ref cb), .val (.int (0 : Int32)), .val (.int (1 : Int32)), .val .null, .val (.ref db)] [])
  refine hs.go (fun _ kk_ => XS.aloadN X3.here hx rfl (hb hby d2_41) rfl rfl kk_) ?_
  show G T3 (mkF m 42 #[.val (.ref a), .val (.ref cb), .val (.int (0 : Int32)), .val (.int (1 : Int32)), .val .null, .val (.ref db)] [(.ref a)])
  refine hs.go (fun _ kk_ => XS.aload X3.here hx rfl (hb hby d2_42) rfl rfl kk_) ?_
  show G T3 (mkF m 44 #[.val (.ref a), .val (.ref cb), .val (.int (0 : Int32)), .val (.int (1 : Int32)), .val .null, .val (.ref db)] [(.ref db), (.ref a)])
  refine hs.go (fun _ kk_ => XS.iloadN X3.here hx rfl (hb hby d2_44) rfl  kk_) ?_
  show G T3 (mkF m 45 #[.val (.ref a), .val (.ref cb), .val (.int (0 : Int32)), .val (.int (1 : Int32)), .val .null, .val (.ref db)] [(.int (1 : Int32)), (.ref db), (.ref a)])
  refine rCallS hs X3 hx hZ (as' := [(.ref db), (.int (1 : Int32))]) hJ (cf_1 l Z a0 hw [] (J) hJ db [(.int (x0.toInt8.toInt32))] kd h3 n0 Z0 V_db) hown (hw _ (List.mem_of_getElem? (i := 82) rfl)) (hw _ (List.mem_of_getElem? (i := 83) rfl)) (hw _ (List.mem_of_getElem? (i := 77) rfl)) (hw _ (List.mem_of_getElem? (i := 84) rfl)) hy_14 rfl (by rw [hml]; rfl) [(.ref a)] (lenOf pd_2 rfl) rfl 1 (by show 2 * 0 + _ ≤ _; exact Nat.le_of_eq rfl) (hb hby d2_45) (by decide) (by decide) (by decide) (by decide) (fun r4 T4 h4 vm4 X4 q4 => ?_)
  obtain ⟨rfl, qh4, hj4⟩ := q4
  have X4 := X4 _ hj4
  rw [qh4] at X4
  show G T4 (mkF m 48 #[.val (.ref a), .val (.ref cb), .val (.int (0 : Int32)), .val (.int (1 : Int32)), .val .null, .val (.ref db)] [(.int (0 : Int32)), (.ref a)])
  refine rPutF hs X4 hx hZ .byte hown (host := "") (Or.inl (hw _ (List.mem_of_getElem? (i := 23) rfl))) Via.refl F_coder_a E_a g_a (Or.inr ⟨(hw _ (List.mem_of_getElem? (i := 19) rfl)), rfl, hnm⟩) (hw _ (List.mem_of_getElem? (i := 4) rfl)) (by decide) rfl rfl rfl rfl (hb hby d2_48) (fun T5 h5 X5 W5 F_coder_a => ?_)
  have O := O.wr W5 g_a
  have E_a := E_a.wr W5
  have F_value_a := F_value_a.other W5 (Or.inr (slot_ne (Or.inr (hw _ (List.mem_of_getElem? (i := 18) rfl))) (Or.inr (hw _ (List.mem_of_getElem? (i := 19) rfl))) (by decide) (t := (.array .byte)) (t' := .byte) (by decide) (by decide)))
  have V_db := V_db.other W5 ne_a_db.symm
  have K := K.wr W5 (Or.inl (by simp))
  have Ksz := K.1
  have Z0 := Nat.le_trans Z0 (Keep.of_wr W5).1
  show G T5 (mkF m 51 #[.val (.ref a), .val (.ref cb), .val (.int (0 : Int32)), .val (.int (1 : Int32)), .val .null, .val (.ref db)] [])
  refine hs.go (fun _ kk_ => XS.aloadN X5.here hx rfl (hb hby d2_51) rfl rfl kk_) ?_
  show G T5 (mkF m 52 #[.val (.ref a), .val (.ref cb), .val (.int (0 : Int32)), .val (.int (1 : Int32)), .val .null, .val (.ref db)] [(.ref a)])
  refine hs.go (fun _ kk_ => XS.aload X5.here hx rfl (hb hby d2_52) rfl rfl kk_) ?_
  show G T5 (mkF m 54 #[.val (.ref a), .val (.ref cb), .val (.int (0 : Int32)), .val (.int (1 : Int32)), .val .null, .val (.ref db)] [(.ref db), (.ref a)])
  refine rPutF hs X5 hx hZ (.array .byte) hown (host := "") (Or.inl (hw _ (List.mem_of_getElem? (i := 22) rfl))) Via.refl F_value_a E_a g_a (Or.inr ⟨(hw _ (List.mem_of_getElem? (i := 18) rfl)), rfl, hnm⟩) (hw _ (List.mem_of_getElem? (i := 4) rfl)) (by decide) rfl rfl rfl rfl (hb hby d2_54) (fun T6 h6 X6 W6 F_value_a => ?_)
  have O := O.wr W6 g_a
  have E_a := E_a.wr W6
  have F_coder_a := F_coder_a.other W6 (Or.inr (slot_ne (Or.inr (hw _ (List.mem_of_getElem? (i := 19) rfl))) (Or.inr (hw _ (List.mem_of_getElem? (i := 18) rfl))) (by decide) (t := .byte) (t' := (.array .byte)) (by decide) (by decide)))
  have V_db := V_db.other W6 ne_a_db.symm
  have K := K.wr W6 (Or.inl (by simp))
  have Ksz := K.1
  have Z0 := Nat.le_trans Z0 (Keep.of_wr W6).1
  show G T6 (mkF m 57 #[.val (.ref a), .val (.ref cb), .val (.int (0 : Int32)), .val (.int (1 : Int32)), .val .null, .val (.ref db)] [])
  exact rRetV fin hJ X6 hx (by decide) (by decide) hret (hb hby d2_57) (fun vm' hj => ⟨rfl, K, E_a, ⟨db, _, _, F_value_a, V_db⟩, hj⟩)
theorem pd_3 : parseMethodDescriptor "([CIILjava/lang/Void;)V" = some ⟨[(.array .char), .int, .int, (.object "java/lang/Void")], none⟩ := by decide +kernel
theorem d1_0 : decode jdk_42_method_3_code 0 = .ok (.aload_n 0, 1) := by decide +kernel
theorem d1_1 : decode jdk_42_method_3_code 1 = .ok (.aload_n 1, 1) := by decide +kernel
theorem d1_2 : decode jdk_42_method_3_code 2 = .ok (.iconst 0, 1) := by decide +kernel
theorem d1_3 : decode jdk_42_method_3_code 3 = .ok (.aload_n 1, 1) := by decide +kernel
theorem d1_4 : decode jdk_42_method_3_code 4 = .ok (.arraylength, 1) := by decide +kernel
theorem d1_5 : decode jdk_42_method_3_code 5 = .ok (.aconst_null, 1) := by decide +kernel
theorem d1_6 : decode jdk_42_method_3_code 6 = .ok (.invokespecial 27, 3) := by decide +kernel
theorem d1_9 : decode jdk_42_method_3_code 9 = .ok (.return_, 1) := by decide +kernel
theorem pn_1 : plainFor (⟨"java/lang/String", "<init>", "([C)V"⟩ : MethodName) = true := plainFor_of_name (by first | (simp [plainName, overriddenIn]; done) | decide +kernel)
theorem ef_1 (m : MethodId) (x0 : Addr) (x1 : Addr) : entryFrame m #[(.ref x0), (.ref x1)] 2 = mkF m 0 #[.val (.ref x0), .val (.ref x1)] [] := by first | (simp [entryFrame, mkF, argsToLocals, Value.category]; done) | rfl
theorem hy_1 : ((⟨"java/lang/String", "<init>", "([C)V"⟩ : MethodName)).cls ≠ "java/lang/invoke/MethodHandle" ∧ ((⟨"java/lang/String", "<init>", "([C)V"⟩ : MethodName)).cls ≠ "java/lang/invoke/VarHandle" := by decide
set_option maxRecDepth 65536 in
set_option maxHeartbeats 40000000 in
theorem i1_1 (l : Launch) (Z : State) (a0 : Array Value) (hw : ∀ d ∈ tables_1, d.before a0 Z = true) (ws : List Jvm.Cond) (J : Vm → Prop) (hJ : Stb J) (a cb : Addr) (x0 : Int32) (kc : ClassId) (h0 : Heap) (n0 : Nat) (Z0 : n0 ≤ h0.size) (O : Old Z n0 h0) (cw : Int32) (S0 : Sta Z Z.heap "java/lang/String" "COMPACT_STRINGS" "Z" (.int cw)) (hcw : ¬ (cw = (0 : Int32))) (E_a : Exa Z h0 a "java/lang/String") (g_a : n0 ≤ a) (F_value_a : Fld Z h0 a "java/lang/String" "value" "[B" .null) (F_coder_a : Fld Z h0 a "java/lang/String" "coder" "B" (.int (0 : Int32))) (V_cb : Arv Z h0 cb kc .char (1 : Int32) [(.int x0)] (.int (0 : Int32))) (hx0 : ¬ ((255 : Int32) < x0)) :
    Con l Z (⟨"java/lang/String", "<init>", "([C)V"⟩ : MethodName) jdk_42_method_3_code 2 none ws ({ frames := 3, cells := 1, slots := 1, locals := 52 } : Room) #[(.ref a), (.ref cb)] h0 n0 J (fun v h vm => v = none ∧ Keep h0 h [a] ∧ Exa Z h a "java/lang/String" ∧ (∃ (b : Addr) (k : ClassId) (vs : List Value), Fld Z h a "java/lang/String" "value" "[B" (.ref b) ∧ Arv Z h b k .byte (1 : Int32) vs (.int (0 : Int32))) ∧ J vm) := by
  refine Con.of pn_1 ?_
  intro G p e s m below meth c s₁ hs hx hby hml hown hnm hret hZ X0 XR hh0 hJ0 fin
  have hml : c.maxLocals = 2 := hml
  have hown : s.vm.findClass "java/lang/String" = some m.cls := hown
  rw [ef_1]
  have K := Keep.refl h0 ([a] : List Addr)
  have Ksz := K.1
  show G s₁ (mkF m 0 #[.val (.ref a), .val (.ref cb)] [])
  refine hs.go (fun _ kk_ => XS.aloadN X0.here hx rfl (hb hby d1_0) rfl rfl kk_) ?_
  show G s₁ (mkF m 1 #[.val (.ref a), .val (.ref cb)] [(.ref a)])
  refine hs.go (fun _ kk_ => XS.aloadN X0.here hx rfl (hb hby d1_1) rfl rfl kk_) ?_
  show G s₁ (mkF m 2 #[.val (.ref a), .val (.ref cb)] [(.ref cb), (.ref a)])
  refine hs.go (fun _ kk_ => XS.iconst X0.here hx rfl (hb hby d1_2) kk_) ?_
  show G s₁ (mkF m 3 #[.val (.ref a), .val (.ref cb)] [(.int (0 : Int32)), (.ref cb), (.ref a)])
  refine hs.go (fun _ kk_ => XS.aloadN X0.here hx rfl (hb hby d1_3) rfl rfl kk_) ?_
  show G s₁ (mkF m 4 #[.val (.ref a), .val (.ref cb)] [(.ref cb), (.int (0 : Int32)), (.ref cb), (.ref a)])
  refine rLen hs X0 hx hZ V_cb rfl rfl (hb hby d1_4) ?_
  show G s₁ (mkF m 5 #[.val (.ref a), .val (.ref cb)] [(.int (1 : Int32)), (.int (0 : Int32)), (.ref cb), (.ref a)])
  refine hs.go (fun _ kk_ => XS.aconstNull X0.here hx rfl (hb hby d1_5) kk_) ?_
  show G s₁ (mkF m 6 #[.val (.ref a), .val (.ref cb)] [.null, (.int (1 : Int32)), (.int (0 : Int32)), (.ref cb), (.ref a)])
  refine rCallI hs X0 hx hZ (as' := [(.ref cb), (.int (0 : Int32)), (.int (1 : Int32)), .null]) hJ (i4_1 l Z a0 hw [] (J) hJ a cb x0 kc h0 n0 Z0 O cw S0 hcw E_a g_a F_value_a F_coder_a V_cb hx0) rfl hown (hw _ (List.mem_of_getElem? (i := 9) rfl)) (hw _ (List.mem_of_getElem? (i := 10) rfl)) (hw _ (List.mem_of_getElem? (i := 5) rfl)) (hw _ (List.mem_of_getElem? (i := 12) rfl)) hy_2 rfl (by rw [hml]; rfl) [] (lenOf pd_3 rfl) rfl 0 (by show 2 * 0 + _ ≤ _; exact Nat.le_of_eq rfl) (hb hby d1_6) (by decide) (by decide) (by decide) (by decide) (fun r1 T1 h1 vm1 X1 q1 => ?_)
  obtain ⟨rfl, Kc1, E_a, ⟨vb, kv, vv, F_value_a, V_vb⟩, hj1⟩ := q1
  have X1 := X1 _ hj1
  have O := O.keep Kc1 (allS g_a all0)
  have K := K.trans Kc1 (fun x hx => Or.inl hx)
  have Ksz := K.1
  have Z0 := Nat.le_trans Z0 Kc1.1
  show G T1 (mkF m 9 #[.val (.ref a), .val (.ref cb)] [])
  exact rRetV fin hJ X1 hx (by decide) (by decide) hret (hb hby d1_9) (fun vm' hj => ⟨rfl, K, E_a, ⟨vb, kv, vv, F_value_a, V_vb⟩, hj⟩)
set_option maxRecDepth 65536 in
set_option maxHeartbeats 40000000 in
theorem c5_2 (l : Launch) (Z : State) (a0 : Array Value) (hw : ∀ d ∈ tables_1, d.before a0 Z = true) (ws : List Jvm.Cond) (J : Vm → Prop) (hJ : Stb J) (cb db : Addr) (x0 x1 : Int32) (kc kd : ClassId) (h0 : Heap) (n0 : Nat) (Z0 : n0 ≤ h0.size) (V_cb : Arv Z h0 cb kc .char (2 : Int32) [(.int x0), (.int x1)] (.int (0 : Int32))) (V_db : Arv Z h0 db kd .byte (2 : Int32) [(.int (0 : Int32)), (.int (0 : Int32))] (.int (0 : Int32))) (g_db : n0 ≤ db) (hx0 : ¬ ((255 : Int32) < x0)) (hx1 : ¬ ((255 : Int32) < x1)) :
    Con l Z (⟨"java/lang/StringUTF16", "compress", "([CI[BII)I"⟩ : MethodName) jdk_52_method_21_code 7 (some .int) ws ({ frames := 0, cells := 0, slots := 0, locals := 0 } : Room) #[(.ref cb), (.int (0 : Int32)), (.ref db), (.int (0 : Int32)), (.int (2 : Int32))] h0 n0 J (fun v h vm => v = some (.int (2 : Int32)) ∧ Keep h0 h [db] ∧ Arv Z h db kd .byte (2 : Int32) [(.int (x0.toInt8.toInt32)), (.int (x1.toInt8.toInt32))] (.int (0 : Int32)) ∧ J vm) := by
  refine Con.of pn_13 ?_
  intro G p e s m below meth c s₁ hs hx hby hml hown hnm hret hZ X0 XR hh0 hJ0 fin
  have hml : c.maxLocals = 7 := hml
  have hown : s.vm.findClass "java/lang/StringUTF16" = some m.cls := hown
  rw [ef_13]
  have K := Keep.refl h0 ([db] : List Addr)
  have Ksz := K.1
  have hne : cb ≠ db := fun q => by subst q; exact own_cb V_cb V_db
  show G s₁ (mkF m 0 #[.val (.ref cb), .val (.int (0 : Int32)), .val (.ref db), .val (.int (0 : Int32)), .val (.int (2 : Int32)), .unset, .unset] [])
  refine hs.go (fun _ kk_ => XS.iconst X0.here hx rfl (hb hby d13_0) kk_) ?_
  show G s₁ (mkF m 1 #[.val (.ref cb), .val (.int (0 : Int32)), .val (.ref db), .val (.int (0 : Int32)), .val (.int (2 : Int32)), .unset, .unset] [(.int (0 : Int32))])
  refine hs.go (fun _ kk_ => XS.istore X0.here hx rfl (hb hby d13_1) rfl (l' := #[.val (.ref cb), .val (.int (0 : Int32)), .val (.ref db), .val (.int (0 : Int32)), .val (.int (2 : Int32)), .val (.int (0 : Int32)), .unset]) rfl kk_) ?_
  show G s₁ (mkF m 3 #[.val (.ref cb), .val (.int (0 : Int32)), .val (.ref db), .val (.int (0 : Int32)), .val (.int (2 : Int32)), .val (.int (0 : Int32)), .unset] [])
  refine hs.go (fun _ kk_ => XS.iload X0.here hx rfl (hb hby d13_3) rfl  kk_) ?_
  show G s₁ (mkF m 5 #[.val (.ref cb), .val (.int (0 : Int32)), .val (.ref db), .val (.int (0 : Int32)), .val (.int (2 : Int32)), .val (.int (0 : Int32)), .unset] [(.int (0 : Int32))])
  refine hs.go (fun _ kk_ => XS.iload X0.here hx rfl (hb hby d13_5) rfl  kk_) ?_
  show G s₁ (mkF m 7 #[.val (.ref cb), .val (.int (0 : Int32)), .val (.ref db), .val (.int (0 : Int32)), .val (.int (2 : Int32)), .val (.int (0 : Int32)), .unset] [(.int (2 : Int32)), (.int (0 : Int32))])
  refine hs.go (fun _ kk_ => XS.icmpNo X0.here hx rfl (hb hby d13_7) rfl (tlt ((by decide) : (0 : Int32) < (2 : Int32))).2.1 kk_) ?_
  show G s₁ (mkF m 10 #[.val (.ref cb), .val (.int (0 : Int32)), .val (.ref db), .val (.int (0 : Int32)), .val (.int (2 : Int32)), .val (.int (0 : Int32)), .unset] [])
  refine hs.go (fun _ kk_ => XS.aloadN X0.here hx rfl (hb hby d13_10) rfl rfl kk_) ?_
  show G s₁ (mkF m 11 #[.val (.ref cb), .val (.int (0 : Int32)), .val (.ref db), .val (.int (0 : Int32)), .val (.int (2 : Int32)), .val (.int (0 : Int32)), .unset] [(.ref cb)])
  refine hs.go (fun _ kk_ => XS.iloadN X0.here hx rfl (hb hby d13_11) rfl  kk_) ?_
  show G s₁ (mkF m 12 #[.val (.ref cb), .val (.int (0 : Int32)), .val (.ref db), .val (.int (0 : Int32)), .val (.int (2 : Int32)), .val (.int (0 : Int32)), .unset] [(.int (0 : Int32)), (.ref cb)])
  refine rLdC hs X0 hx hZ V_cb ⟨by decide, by decide⟩ (v := (.int x0)) rfl rfl rfl (hb hby d13_12) ?_
  show G s₁ (mkF m 13 #[.val (.ref cb), .val (.int (0 : Int32)), .val (.ref db), .val (.int (0 : Int32)), .val (.int (2 : Int32)), .val (.int (0 : Int32)), .unset] [(.int x0)])
  refine hs.go (fun _ kk_ => XS.istore X0.here hx rfl (hb hby d13_13) rfl (l' := #[.val (.ref cb), .val (.int (0 : Int32)), .val (.ref db), .val (.int (0 : Int32)), .val (.int (2 : Int32)), .val (.int (0 : Int32)), .val (.int x0)]) rfl kk_) ?_
  show G s₁ (mkF m 15 #[.val (.ref cb), .val (.int (0 : Int32)), .val (.ref db), .val (.int (0 : Int32)), .val (.int (2 : Int32)), .val (.int (0 : Int32)), .val (.int x0)] [])
  refine hs.go (fun _ kk_ => XS.iload X0.here hx rfl (hb hby d13_15) rfl  kk_) ?_
  show G s₁ (mkF m 17 #[.val (.ref cb), .val (.int (0 : Int32)), .val (.ref db), .val (.int (0 : Int32)), .val (.int (2 : Int32)), .val (.int (0 : Int32)), .val (.int x0)] [(.int x0)])
  refine hs.go (fun _ kk_ => XS.sipush X0.here hx rfl (hb hby d13_17) kk_) ?_
  show G s₁ (mkF m 20 #[.val (.ref cb), .val (.int (0 : Int32)), .val (.ref db), .val (.int (0 : Int32)), .val (.int (2 : Int32)), .val (.int (0 : Int32)), .val (.int x0)] [(.int (255 : Int32)), (.int x0)])
  refine hs.go (fun _ kk_ => XS.icmpYes X0.here hx rfl (pc0 := 20) (pc' := 26) rfl (hb hby d13_20) rfl (flt (hx0 : ¬ ((255 : Int32) < x0))).2.2.2 (by decide) (by decide) kk_) ?_
  show G s₁ (mkF m 26 #[.val (.ref cb), .val (.int (0 : Int32)), .val (.ref db), .val (.int (0 : Int32)), .val (.int (2 : Int32)), .val (.int (0 : Int32)), .val (.int x0)] [])
  refine hs.go (fun _ kk_ => XS.aloadN X0.here hx rfl (hb hby d13_26) rfl rfl kk_) ?_
  show G s₁ (mkF m 27 #[.val (.ref cb), .val (.int (0 : Int32)), .val (.ref db), .val (.int (0 : Int32)), .val (.int (2 : Int32)), .val (.int (0 : Int32)), .val (.int x0)] [(.ref db)])
  refine hs.go (fun _ kk_ => XS.iloadN X0.here hx rfl (hb hby d13_27) rfl  kk_) ?_
  show G s₁ (mkF m 28 #[.val (.ref cb), .val (.int (0 : Int32)), .val (.ref db), .val (.int (0 : Int32)), .val (.int (2 : Int32)), .val (.int (0 : Int32)), .val (.int x0)] [(.int (0 : Int32)), (.ref db)])
  refine hs.go (fun _ kk_ => XS.iload X0.here hx rfl (hb hby d13_28) rfl  kk_) ?_
  show G s₁ (mkF m 30 #[.val (.ref cb), .val (.int (0 : Int32)), .val (.ref db), .val (.int (0 : Int32)), .val (.int (2 : Int32)), .val (.int (0 : Int32)), .val (.int x0)] [(.int x0), (.int (0 : Int32)), (.ref db)])
  refine hs.go (fun _ kk_ => XS.i2b X0.here hx rfl (hb hby d13_30) rfl kk_) ?_
  show G s₁ (mkF m 31 #[.val (.ref cb), .val (.int (0 : Int32)), .val (.ref db), .val (.int (0 : Int32)), .val (.int (2 : Int32)), .val (.int (0 : Int32)), .val (.int x0)] [(.int (x0.toInt8.toInt32)), (.int (0 : Int32)), (.ref db)])
  refine rStB hs X0 hx hZ V_db g_db ⟨by decide, by decide⟩ 0 (by decide) (by simp) (x' := (x0.toInt8.toInt32)) (nar_byte _) rfl rfl (hb hby d13_31) (fun T1 h1 X1 W1 V_db => ?_)
  have V_db : Arv Z h1 db kd .byte (2 : Int32) [(.int (x0.toInt8.toInt32)), (.int (0 : Int32))] (.int (0 : Int32)) := V_db
  have V_cb := V_cb.other W1 hne
  have K := K.wr W1 (Or.inl (by simp))
  have Ksz := K.1
  have Z0 := Nat.le_trans Z0 (Keep.of_wr W1).1
  show G T1 (mkF m 32 #[.val (.ref cb), .val (.int (0 : Int32)), .val (.ref db), .val (.int (0 : Int32)), .val (.int (2 : Int32)), .val (.int (0 : Int32)), .val (.int x0)] [])
  refine hs.go (fun _ kk_ => XS.iinc X1.here hx rfl (hb hby d13_32) rfl (l' := #[.val (.ref cb), .val (.int (1 : Int32)), .val (.ref db), .val (.int (0 : Int32)), .val (.int (2 : Int32)), .val (.int (0 : Int32)), .val (.int x0)]) rfl kk_) ?_
  show G T1 (mkF m 35 #[.val (.ref cb), .val (.int (1 : Int32)), .val (.ref db), .val (.int (0 : Int32)), .val (.int (2 : Int32)), .val (.int (0 : Int32)), .val (.int x0)] [])
  refine hs.go (fun _ kk_ => XS.iinc X1.here hx rfl (hb hby d13_35) rfl (l' := #[.val (.ref cb), .val (.int (1 : Int32)), .val (.ref db), .val (.int (1 : Int32)), .val (.int (2 : Int32)), .val (.int (0 : Int32)), .val (.int x0)]) rfl kk_) ?_
  show G T1 (mkF m 38 #[.val (.ref cb), .val (.int (1 : Int32)), .val (.ref db), .val (.int (1 : Int32)), .val (.int (2 : Int32)), .val (.int (0 : Int32)), .val (.int x0)] [])
  refine hs.go (fun _ kk_ => XS.iinc X1.here hx rfl (hb hby d13_38) rfl (l' := #[.val (.ref cb), .val (.int (1 : Int32)), .val (.ref db), .val (.int (1 : Int32)), .val (.int (2 : Int32)), .val (.int (1 : Int32)), .val (.int x0)]) rfl kk_) ?_
  show G T1 (mkF m 41 #[.val (.ref cb), .val (.int (1 : Int32)), .val (.ref db), .val (.int (1 : Int32)), .val (.int (2 : Int32)), .val (.int (1 : Int32)), .val (.int x0)] [])
  refine hs.go (fun _ kk_ => XS.goto X1.here hx rfl (pc0 := 41) (pc' := 3) rfl (hb hby d13_41) (by decide) (by decide) kk_) ?_
  show G T1 (mkF m 3 #[.val (.ref cb), .val (.int (1 : Int32)), .val (.ref db), .val (.int (1 : Int32)), .val (.int (2 : Int32)), .val (.int (1 : Int32)), .val (.int x0)] [])
  refine hs.go (fun _ kk_ => XS.iload X1.here hx rfl (hb hby d13_3) rfl  kk_) ?_
  show G T1 (mkF m 5 #[.val (.ref cb), .val (.int (1 : Int32)), .val (.ref db), .val (.int (1 : Int32)), .val (.int (2 : Int32)), .val (.int (1 : Int32)), .val (.int x0)] [(.int (1 : Int32))])
  refine hs.go (fun _ kk_ => XS.iload X1.here hx rfl (hb hby d13_5) rfl  kk_) ?_
  show G T1 (mkF m 7 #[.val (.ref cb), .val (.int (1 : Int32)), .val (.ref db), .val (.int (1 : Int32)), .val (.int (2 : Int32)), .val (.int (1 : Int32)), .val (.int x0)] [(.int (2 : Int32)), (.int (1 : Int32))])
  refine hs.go (fun _ kk_ => XS.icmpNo X1.here hx rfl (hb hby d13_7) rfl (tlt ((by decide) : (1 : Int32) < (2 : Int32))).2.1 kk_) ?_
  show G T1 (mkF m 10 #[.val (.ref cb), .val (.int (1 : Int32)), .val (.ref db), .val (.int (1 : Int32)), .val (.int (2 : Int32)), .val (.int (1 : Int32)), .val (.int x0)] [])
  refine hs.go (fun _ kk_ => XS.aloadN X1.here hx rfl (hb hby d13_10) rfl rfl kk_) ?_
  show G T1 (mkF m 11 #[.val (.ref cb), .val (.int (1 : Int32)), .val (.ref db), .val (.int (1 : Int32)), .val (.int (2 : Int32)), .val (.int (1 : Int32)), .val (.int x0)] [(.ref cb)])
  refine hs.go (fun _ kk_ => XS.iloadN X1.here hx rfl (hb hby d13_11) rfl  kk_) ?_
  show G T1 (mkF m 12 #[.val (.ref cb), .val (.int (1 : Int32)), .val (.ref db), .val (.int (1 : Int32)), .val (.int (2 : Int32)), .val (.int (1 : Int32)), .val (.int x0)] [(.int (1 : Int32)), (.ref cb)])
  refine rLdC hs X1 hx hZ V_cb ⟨by decide, by decide⟩ (v := (.int x1)) rfl rfl rfl (hb hby d13_12) ?_
  show G T1 (mkF m 13 #[.val (.ref cb), .val (.int (1 : Int32)), .val (.ref db), .val (.int (1 : Int32)), .val (.int (2 : Int32)), .val (.int (1 : Int32)), .val (.int x0)] [(.int x1)])
  refine hs.go (fun _ kk_ => XS.istore X1.here hx rfl (hb hby d13_13) rfl (l' := #[.val (.ref cb), .val (.int (1 : Int32)), .val (.ref db), .val (.int (1 : Int32)), .val (.int (2 : Int32)), .val (.int (1 : Int32)), .val (.int x1)]) rfl kk_) ?_
  show G T1 (mkF m 15 #[.val (.ref cb), .val (.int (1 : Int32)), .val (.ref db), .val (.int (1 : Int32)), .val (.int (2 : Int32)), .val (.int (1 : Int32)), .val (.int x1)] [])
  refine hs.go (fun _ kk_ => XS.iload X1.here hx rfl (hb hby d13_15) rfl  kk_) ?_
  show G T1 (mkF m 17 #[.val (.ref cb), .val (.int (1 : Int32)), .val (.ref db), .val (.int (1 : Int32)), .val (.int (2 : Int32)), .val (.int (1 : Int32)), .val (.int x1)] [(.int x1)])
  refine hs.go (fun _ kk_ => XS.sipush X1.here hx rfl (hb hby d13_17) kk_) ?_
  show G T1 (mkF m 20 #[.val (.ref cb), .val (.int (1 : Int32)), .val (.ref db), .val (.int (1 : Int32)), .val (.int (2 : Int32)), .val (.int (1 : Int32)), .val (.int x1)] [(.int (255 : Int32)), (.int x1)])
  refine hs.go (fun _ kk_ => XS.icmpYes X1.here hx rfl (pc0 := 20) (pc' := 26) rfl (hb hby d13_20) rfl (flt (hx1 : ¬ ((255 : Int32) < x1))).2.2.2 (by decide) (by decide) kk_) ?_
  show G T1 (mkF m 26 #[.val (.ref cb), .val (.int (1 : Int32)), .val (.ref db), .val (.int (1 : Int32)), .val (.int (2 : Int32)), .val (.int (1 : Int32)), .val (.int x1)] [])
  refine hs.go (fun _ kk_ => XS.aloadN X1.here hx rfl (hb hby d13_26) rfl rfl kk_) ?_
  show G T1 (mkF m 27 #[.val (.ref cb), .val (.int (1 : Int32)), .val (.ref db), .val (.int (1 : Int32)), .val (.int (2 : Int32)), .val (.int (1 : Int32)), .val (.int x1)] [(.ref db)])
  refine hs.go (fun _ kk_ => XS.iloadN X1.here hx rfl (hb hby d13_27) rfl  kk_) ?_
  show G T1 (mkF m 28 #[.val (.ref cb), .val (.int (1 : Int32)), .val (.ref db), .val (.int (1 : Int32)), .val (.int (2 : Int32)), .val (.int (1 : Int32)), .val (.int x1)] [(.int (1 : Int32)), (.ref db)])
  refine hs.go (fun _ kk_ => XS.iload X1.here hx rfl (hb hby d13_28) rfl  kk_) ?_
  show G T1 (mkF m 30 #[.val (.ref cb), .val (.int (1 : Int32)), .val (.ref db), .val (.int (1 : Int32)), .val (.int (2 : Int32)), .val (.int (1 : Int32)), .val (.int x1)] [(.int x1), (.int (1 : Int32)), (.ref db)])
  refine hs.go (fun _ kk_ => XS.i2b X1.here hx rfl (hb hby d13_30) rfl kk_) ?_
  show G T1 (mkF m 31 #[.val (.ref cb), .val (.int (1 : Int32)), .val (.ref db), .val (.int (1 : Int32)), .val (.int (2 : Int32)), .val (.int (1 : Int32)), .val (.int x1)] [(.int (x1.toInt8.toInt32)), (.int (1 : Int32)), (.ref db)])
  refine rStB hs X1 hx hZ V_db g_db ⟨by decide, by decide⟩ 1 (by decide) (by simp) (x' := (x1.toInt8.toInt32)) (nar_byte _) rfl rfl (hb hby d13_31) (fun T2 h2 X2 W2 V_db => ?_)
  have V_db : Arv Z h2 db kd .byte (2 : Int32) [(.int (x0.toInt8.toInt32)), (.int (x1.toInt8.toInt32))] (.int (0 : Int32)) := V_db
  have V_cb := V_cb.other W2 hne
  have K := K.wr W2 (Or.inl (by simp))
  have Ksz := K.1
  have Z0 := Nat.le_trans Z0 (Keep.of_wr W2).1
  show G T2 (mkF m 32 #[.val (.ref cb), .val (.int (1 : Int32)), .val (.ref db), .val (.int (1 : Int32)), .val (.int (2 : Int32)), .val (.int (1 : Int32)), .val (.int x1)] [])
  refine hs.go (fun _ kk_ => XS.iinc X2.here hx rfl (hb hby d13_32) rfl (l' := #[.val (.ref cb), .val (.int (2 : Int32)), .val (.ref db), .val (.int (1 : Int32)), .val (.int (2 : Int32)), .val (.int (1 : Int32)), .val (.int x1)]) rfl kk_) ?_
  show G T2 (mkF m 35 #[.val (.ref cb), .val (.int (2 : Int32)), .val (.ref db), .val (.int (1 : Int32)), .val (.int (2 : Int32)), .val (.int (1 : Int32)), .val (.int x1)] [])
  refine hs.go (fun _ kk_ => XS.iinc X2.here hx rfl (hb hby d13_35) rfl (l' := #[.val (.ref cb), .val (.int (2 : Int32)), .val (.ref db), .val (.int (2 : Int32)), .val (.int (2 : Int32)), .val (.int (1 : Int32)), .val (.int x1)]) rfl kk_) ?_
  show G T2 (mkF m 38 #[.val (.ref cb), .val (.int (2 : Int32)), .val (.ref db), .val (.int (2 : Int32)), .val (.int (2 : Int32)), .val (.int (1 : Int32)), .val (.int x1)] [])
  refine hs.go (fun _ kk_ => XS.iinc X2.here hx rfl (hb hby d13_38) rfl (l' := #[.val (.ref cb), .val (.int (2 : Int32)), .val (.ref db), .val (.int (2 : Int32)), .val (.int (2 : Int32)), .val (.int (2 : Int32)), .val (.int x1)]) rfl kk_) ?_
  show G T2 (mkF m 41 #[.val (.ref cb), .val (.int (2 : Int32)), .val (.ref db), .val (.int (2 : Int32)), .val (.int (2 : Int32)), .val (.int (2 : Int32)), .val (.int x1)] [])
  refine hs.go (fun _ kk_ => XS.goto X2.here hx rfl (pc0 := 41) (pc' := 3) rfl (hb hby d13_41) (by decide) (by decide) kk_) ?_
  show G T2 (mkF m 3 #[.val (.ref cb), .val (.int (2 : Int32)), .val (.ref db), .val (.int (2 : Int32)), .val (.int (2 : Int32)), .val (.int (2 : Int32)), .val (.int x1)] [])
  refine hs.go (fun _ kk_ => XS.iload X2.here hx rfl (hb hby d13_3) rfl  kk_) ?_
  show G T2 (mkF m 5 #[.val (.ref cb), .val (.int (2 : Int32)), .val (.ref db), .val (.int (2 : Int32)), .val (.int (2 : Int32)), .val (.int (2 : Int32)), .val (.int x1)] [(.int (2 : Int32))])
  refine hs.go (fun _ kk_ => XS.iload X2.here hx rfl (hb hby d13_5) rfl  kk_) ?_
  show G T2 (mkF m 7 #[.val (.ref cb), .val (.int (2 : Int32)), .val (.ref db), .val (.int (2 : Int32)), .val (.int (2 : Int32)), .val (.int (2 : Int32)), .val (.int x1)] [(.int (2 : Int32)), (.int (2 : Int32))])
  refine hs.go (fun _ kk_ => XS.icmpYes X2.here hx rfl (pc0 := 7) (pc' := 44) rfl (hb hby d13_7) rfl (flt ((by decide) : ¬ ((2 : Int32) < (2 : Int32)))).2.1 (by decide) (by decide) kk_) ?_
  show G T2 (mkF m 44 #[.val (.ref cb), .val (.int (2 : Int32)), .val (.ref db), .val (.int (2 : Int32)), .val (.int (2 : Int32)), .val (.int (2 : Int32)), .val (.int x1)] [])
  refine hs.go (fun _ kk_ => XS.iload X2.here hx rfl (hb hby d13_44) rfl  kk_) ?_
  show G T2 (mkF m 46 #[.val (.ref cb), .val (.int (2 : Int32)), .val (.ref db), .val (.int (2 : Int32)), .val (.int (2 : Int32)), .val (.int (2 : Int32)), .val (.int x1)] [(.int (2 : Int32))])
  exact rRetI fin hJ X2 hx (by decide) (by decide) hret (hb hby d13_46) (fun vm' hj => ⟨rfl, K, V_db, hj⟩)
set_option maxRecDepth 65536 in
set_option maxHeartbeats 40000000 in
theorem c3_2 (l : Launch) (Z : State) (a0 : Array Value) (hw : ∀ d ∈ tables_1, d.before a0 Z = true) (ws : List Jvm.Cond) (J : Vm → Prop) (hJ : Stb J) (cb : Addr) (x0 x1 : Int32) (kc : ClassId) (h0 : Heap) (n0 : Nat) (Z0 : n0 ≤ h0.size) (V_cb : Arv Z h0 cb kc .char (2 : Int32) [(.int x0), (.int x1)] (.int (0 : Int32))) (hx0 : ¬ ((255 : Int32) < x0)) (hx1 : ¬ ((255 : Int32) < x1)) :
    Con l Z (⟨"java/lang/StringUTF16", "compress", "([CII)[B"⟩ : MethodName) jdk_52_method_16_code 6 (some (.array .byte)) ws ({ frames := 1, cells := 1, slots := 2, locals := 18 } : Room) #[(.ref cb), (.int (0 : Int32)), (.int (2 : Int32))] h0 n0 J (fun v h vm => ∃ (db : Addr) (kd : ClassId), v = some (.ref db) ∧ Keep h0 h [] ∧ Arv Z h db kd .byte (2 : Int32) [(.int (x0.toInt8.toInt32)), (.int (x1.toInt8.toInt32))] (.int (0 : Int32)) ∧ h0.size ≤ db ∧ J vm) := by
  refine Con.of pn_12 ?_
  intro G p e s m below meth c s₁ hs hx hby hml hown hnm hret hZ X0 XR hh0 hJ0 fin
  have hml : c.maxLocals = 6 := hml
  have hown : s.vm.findClass "java/lang/StringUTF16" = some m.cls := hown
  rw [ef_12]
  have K := Keep.refl h0 ([] : List Addr)
  have Ksz := K.1
  show G s₁ (mkF m 0 #[.val (.ref cb), .val (.int (0 : Int32)), .val (.int (2 : Int32)), .unset, .unset, .unset] [])
  refine hs.go (fun _ kk_ => XS.iloadN X0.here hx rfl (hb hby d12_0) rfl  kk_) ?_
  show G s₁ (mkF m 1 #[.val (.ref cb), .val (.int (0 : Int32)), .val (.int (2 : Int32)), .unset, .unset, .unset] [(.int (2 : Int32))])
  refine rNewP hs X0 hx hZ (hw _ (List.mem_of_getElem? (i := 17) rfl)) rfl (hb hby d12_1) rfl (by decide) 2 2 (by decide) (by decide) (by decide) (by decide) (fun T1 h1 k1 db g1 X1 E1 V_db => ?_)
  have V_db : Arv Z h1 db k1 .byte (2 : Int32) [(.int (0 : Int32)), (.int (0 : Int32))] (.int (0 : Int32)) := V_db
  have g_db : n0 ≤ db := by rw [g1]; exact Z0
  have Z0 := Nat.le_trans Z0 E1.1
  have ne_cb_db : cb ≠ db := Nat.ne_of_lt (Nat.lt_of_lt_of_le V_cb.lt (Nat.le_of_eq g1.symm))
  have V_cb := V_cb.ext E1
  have K := K.ext E1
  have sz_db : h0.size ≤ db := by rw [g1]; exact Ksz
  have Ksz := K.1
  show G T1 (mkF m 3 #[.val (.ref cb), .val (.int (0 : Int32)), .val (.int (2 : Int32)), .unset, .unset, .unset] [(.ref db)])
  refine hs.go (fun _ kk_ => XS.astoreN X1.here hx rfl (hb hby d12_3) rfl rfl (l' := #[.val (.ref cb), .val (.int (0 : Int32)), .val (.int (2 : Int32)), .val (.ref db), .unset, .unset]) rfl kk_) ?_
  show G T1 (mkF m 4 #[.val (.ref cb), .val (.int (0 : Int32)), .val (.int (2 : Int32)), .val (.ref db), .unset, .unset] [])
  refine hs.go (fun _ kk_ => XS.aloadN X1.here hx rfl (hb hby d12_4) rfl rfl kk_) ?_
  show G T1 (mkF m 5 #[.val (.ref cb), .val (.int (0 : Int32)), .val (.int (2 : Int32)), .val (.ref db), .unset, .unset] [(.ref cb)])
  refine hs.go (fun _ kk_ => XS.iloadN X1.here hx rfl (hb hby d12_5) rfl  kk_) ?_
  show G T1 (mkF m 6 #[.val (.ref cb), .val (.int (0 : Int32)), .val (.int (2 : Int32)), .val (.ref db), .unset, .unset] [(.int (0 : Int32)), (.ref cb)])
  refine hs.go (fun _ kk_ => XS.aloadN X1.here hx rfl (hb hby d12_6) rfl rfl kk_) ?_
  show G T1 (mkF m 7 #[.val (.ref cb), .val (.int (0 : Int32)), .val (.int (2 : Int32)), .val (.ref db), .unset, .unset] [(.ref db), (.int (0 : Int32)), (.ref cb)])
  refine hs.go (fun _ kk_ => XS.iconst X1.here hx rfl (hb hby d12_7) kk_) ?_
  show G T1 (mkF m 8 #[.val (.ref cb), .val (.int (0 : Int32)), .val (.int (2 : Int32)), .val (.ref db), .unset, .unset] [(.int (0 : Int32)), (.ref db), (.int (0 : Int32)), (.ref cb)])
  refine hs.go (fun _ kk_ => XS.iloadN X1.here hx rfl (hb hby d12_8) rfl  kk_) ?_
  show G T1 (mkF m 9 #[.val (.ref cb), .val (.int (0 : Int32)), .val (.int (2 : Int32)), .val (.ref db), .unset, .unset] [(.int (2 : Int32)), (.int (0 : Int32)), (.ref db), (.int (0 : Int32)), (.ref cb)])
  refine rCallS hs X1 hx hZ (as' := [(.ref cb), (.int (0 : Int32)), (.ref db), (.int (0 : Int32)), (.int (2 : Int32))]) hJ (c5_2 l Z a0 hw [] (J) hJ cb db x0 x1 kc k1 h1 n0 Z0 V_cb V_db g_db hx0 hx1) hown (hw _ (List.mem_of_getElem? (i := 79) rfl)) (hw _ (List.mem_of_getElem? (i := 80) rfl)) (hw _ (List.mem_of_getElem? (i := 77) rfl)) (hw _ (List.mem_of_getElem? (i := 81) rfl)) hy_13 rfl (by rw [hml]; rfl) [] (lenOf pd_0 rfl) rfl 0 (by show 2 * 0 + _ ≤ _; exact Nat.le_of_eq rfl) (hb hby d12_9) (by decide) (by decide) (by decide) (by decide) (fun r2 T2 h2 vm2 X2 q2 => ?_)
  obtain ⟨rfl, Kc2, V_db, hj2⟩ := q2
  have X2 := X2 _ hj2
  have K := K.trans Kc2 (fun x hx => Or.inr (by cases List.mem_singleton.mp hx; exact sz_db))
  have Ksz := K.1
  have Z0 := Nat.le_trans Z0 Kc2.1
  show G T2 (mkF m 12 #[.val (.ref cb), .val (.int (0 : Int32)), .val (.int (2 : Int32)), .val (.ref db), .unset, .unset] [(.int (2 : Int32))])
  refine hs.go (fun _ kk_ => XS.istore X2.here hx rfl (hb hby d12_12) rfl (l' := #[.val (.ref cb), .val (.int (0 : Int32)), .val (.int (2 : Int32)), .val (.ref db), .val (.int (2 : Int32)), .unset]) rfl kk_) ?_
  show G T2 (mkF m 14 #[.val (.ref cb), .val (.int (0 : Int32)), .val (.int (2 : Int32)), .val (.ref db), .val (.int (2 : Int32)), .unset] [])
  refine hs.go (fun _ kk_ => XS.iload X2.here hx rfl (hb hby d12_14) rfl  kk_) ?_
  show G T2 (mkF m 16 #[.val (.ref cb), .val (.int (0 : Int32)), .val (.int (2 : Int32)), .val (.ref db), .val (.int (2 : Int32)), .unset] [(.int (2 : Int32))])
  refine hs.go (fun _ kk_ => XS.iloadN X2.here hx rfl (hb hby d12_16) rfl  kk_) ?_
  show G T2 (mkF m 17 #[.val (.ref cb), .val (.int (0 : Int32)), .val (.int (2 : Int32)), .val (.ref db), .val (.int (2 : Int32)), .unset] [(.int (2 : Int32)), (.int (2 : Int32))])
  refine hs.go (fun _ kk_ => XS.icmpYes X2.here hx rfl (pc0 := 17) (pc' := 57) rfl (hb hby d12_17) rfl (teq (rfl : (2 : Int32) = (2 : Int32))).1 (by decide) (by decide) kk_) ?_
  show G T2 (mkF m 57 #[.val (.ref cb), .val (.int (0 : Int32)), .val (.int (2 : Int32)), .val (.ref db), .val (.int (2 : Int32)), .unset] [])
  refine hs.go (fun _ kk_ => XS.aloadN X2.here hx rfl (hb hby d12_57) rfl rfl kk_) ?_
  show G T2 (mkF m 58 #[.val (.ref cb), .val (.int (0 : Int32)), .val (.int (2 : Int32)), .val (.ref db), .val (.int (2 : Int32)), .unset] [(.ref db)])
  exact rRetA fin hJ X2 hx (by decide) (by decide) hret rfl rfl rfl (hb hby d12_58) (fun vm' hj => ⟨db, _, rfl, K, V_db, sz_db, hj⟩)
set_option maxRecDepth 65536 in
set_option maxHeartbeats 40000000 in
theorem cf_2 (l : Launch) (Z : State) (a0 : Array Value) (hw : ∀ d ∈ tables_1, d.before a0 Z = true) (ws : List Jvm.Cond) (J : Vm → Prop) (hJ : Stb J) (db : Addr) (vs : List Value) (kd : ClassId) (h0 : Heap) (n0 : Nat) (Z0 : n0 ≤ h0.size) (V_db : Arv Z h0 db kd .byte (2 : Int32) vs (.int (0 : Int32))) :
    Con l Z (⟨"java/lang/StringUTF16", "coderFromArrayLen", "([BI)B"⟩ : MethodName) jdk_52_method_15_code 2 (some .byte) ws ({ frames := 0, cells := 0, slots := 0, locals := 0 } : Room) #[(.ref db), (.int (2 : Int32))] h0 n0 J (fun v h vm => v = some (.int (0 : Int32)) ∧ h = h0 ∧ J vm) := by
  refine Con.of pn_14 ?_
  intro G p e s m below meth c s₁ hs hx hby hml hown hnm hret hZ X0 XR hh0 hJ0 fin
  have hml : c.maxLocals = 2 := hml
  have hown : s.vm.findClass "java/lang/StringUTF16" = some m.cls := hown
  rw [ef_14]
  show G s₁ (mkF m 0 #[.val (.ref db), .val (.int (2 : Int32))] [])
  refine hs.go (fun _ kk_ => XS.iloadN X0.here hx rfl (hb hby d14_0) rfl  kk_) ?_
  show G s₁ (mkF m 1 #[.val (.ref db), .val (.int (2 : Int32))] [(.int (2 : Int32))])
  refine hs.go (fun _ kk_ => XS.aloadN X0.here hx rfl (hb hby d14_1) rfl rfl kk_) ?_
  show G s₁ (mkF m 2 #[.val (.ref db), .val (.int (2 : Int32))] [(.ref db), (.int (2 : Int32))])
  refine rLen hs X0 hx hZ V_db rfl rfl (hb hby d14_2) ?_
  show G s₁ (mkF m 3 #[.val (.ref db), .val (.int (2 : Int32))] [(.int (2 : Int32)), (.int (2 : Int32))])
  refine hs.go (fun _ kk_ => XS.isub X0.here hx rfl (hb hby d14_3) rfl kk_) ?_
  show G s₁ (mkF m 4 #[.val (.ref db), .val (.int (2 : Int32))] [(.int ((2 : Int32) - (2 : Int32)))])
  refine hs.go (fun _ kk_ => XS.bipush X0.here hx rfl (hb hby d14_4) kk_) ?_
  show G s₁ (mkF m 6 #[.val (.ref db), .val (.int (2 : Int32))] [(.int (31 : Int32)), (.int ((2 : Int32) - (2 : Int32)))])
  refine hs.go (fun _ kk_ => XS.iushr X0.here hx rfl (hb hby d14_6) rfl kk_) ?_
  show G s₁ (mkF m 7 #[.val (.ref db), .val (.int (2 : Int32))] [(.int ((((2 : Int32) - (2 : Int32)).toUInt32 >>> ((31 : Int32) &&& 31).toUInt32).toInt32))])
  refine hs.go (fun _ kk_ => XS.i2b X0.here hx rfl (hb hby d14_7) rfl kk_) ?_
  show G s₁ (mkF m 8 #[.val (.ref db), .val (.int (2 : Int32))] [(.int (((((2 : Int32) - (2 : Int32)).toUInt32 >>> ((31 : Int32) &&& 31).toUInt32).toInt32).toInt8.toInt32))])
  exact rRetN fin hJ X0 hx (by decide) (by decide) hret (by simp) (hb hby d14_8) (z' := (0 : Int32)) (by decide) (fun vm' hj => ⟨rfl, rfl, hj⟩)
set_option maxRecDepth 65536 in
set_option maxHeartbeats 40000000 in
theorem i4_2 (l : Launch) (Z : State) (a0 : Array Value) (hw : ∀ d ∈ tables_1, d.before a0 Z = true) (ws : List Jvm.Cond) (J : Vm → Prop) (hJ : Stb J) (a cb : Addr) (x0 x1 : Int32) (kc : ClassId) (h0 : Heap) (n0 : Nat) (Z0 : n0 ≤ h0.size) (O : Old Z n0 h0) (cw : Int32) (S0 : Sta Z Z.heap "java/lang/String" "COMPACT_STRINGS" "Z" (.int cw)) (hcw : ¬ (cw = (0 : Int32))) (E_a : Exa Z h0 a "java/lang/String") (g_a : n0 ≤ a) (F_value_a : Fld Z h0 a "java/lang/String" "value" "[B" .null) (F_coder_a : Fld Z h0 a "java/lang/String" "coder" "B" (.int (0 : Int32))) (V_cb : Arv Z h0 cb kc .char (2 : Int32) [(.int x0), (.int x1)] (.int (0 : Int32))) (hx0 : ¬ ((255 : Int32) < x0)) (hx1 : ¬ ((255 : Int32) < x1)) :
    Con l Z (⟨"java/lang/String", "<init>", "([CIILjava/lang/Void;)V"⟩ : MethodName) jdk_42_method_149_code 6 none ws ({ frames := 2, cells := 1, slots := 2, locals := 35 } : Room) #[(.ref a), (.ref cb), (.int (0 : Int32)), (.int (2 : Int32)), .null] h0 n0 J (fun v h vm => v = none ∧ Keep h0 h [a] ∧ Exa Z h a "java/lang/String" ∧ (∃ (b : Addr) (k : ClassId) (vs : List Value), Fld Z h a "java/lang/String" "value" "[B" (.ref b) ∧ Arv Z h b k .byte (2 : Int32) vs (.int (0 : Int32))) ∧ J vm) := by
  refine Con.of pn_2 ?_
  intro G p e s m below meth c s₁ hs hx hby hml hown hnm hret hZ X0 XR hh0 hJ0 fin
  have hml : c.maxLocals = 6 := hml
  have hown : s.vm.findClass "java/lang/String" = some m.cls := hown
  rw [ef_2_xxxxn]
  have K := Keep.refl h0 ([a] : List Addr)
  have Ksz := K.1
  show G s₁ (mkF m 0 #[.val (.ref a), .val (.ref cb), .val (.int (0 : Int32)), .val (.int (2 : Int32)), .val .null, .unset] [])
  refine hs.go (fun _ kk_ => XS.aloadN X0.here hx rfl (hb hby d2_0) rfl rfl kk_) ?_
  show G s₁ (mkF m 1 #[.val (.ref a), .val (.ref cb), .val (.int (0 : Int32)), .val (.int (2 : Int32)), .val .null, .unset] [(.ref a)])
  refine rInitO hs X0 hx hZ hown (hw _ (List.mem_of_getElem? (i := 13) rfl)) (hw _ (List.mem_of_getElem? (i := 14) rfl)) (hw _ (List.mem_of_getElem? (i := 15) rfl)) rfl (by rw [hml]; rfl) rfl (hb hby d2_1) (by decide) (W := 0) (by show 2 * 0 + _ ≤ _; exact Nat.le_of_eq rfl) (by decide) (fun T1 X1 => ?_)
  show G T1 (mkF m 4 #[.val (.ref a), .val (.ref cb), .val (.int (0 : Int32)), .val (.int (2 : Int32)), .val .null, .unset] [])
  refine hs.go (fun _ kk_ => XS.iloadN X1.here hx rfl (hb hby d2_4) rfl  kk_) ?_
  show G T1 (mkF m 5 #[.val (.ref a), .val (.ref cb), .val (.int (0 : Int32)), .val (.int (2 : Int32)), .val .null, .unset] [(.int (2 : Int32))])
  refine hs.go (fun _ kk_ => XS.ifYes X1.here hx rfl (pc0 := 5) (pc' := 27) rfl (hb hby d2_5) rfl ((if0 _ _).trans (feq ((by decide) : ¬ ((2 : Int32) = (0 : Int32)))).2) (by decide) (by decide) kk_) ?_
  show G T1 (mkF m 27 #[.val (.ref a), .val (.ref cb), .val (.int (0 : Int32)), .val (.int (2 : Int32)), .val .null, .unset] [])
  refine rGetS hs X1 hx hZ hown (host := "") (Or.inl (hw _ (List.mem_of_getElem? (i := 74) rfl))) Via.refl (S0.ext O.2) rfl (hb hby d2_27) (fun T2 X2 => ?_)
  show G T2 (mkF m 30 #[.val (.ref a), .val (.ref cb), .val (.int (0 : Int32)), .val (.int (2 : Int32)), .val .null, .unset] [(.int cw)])
  refine hs.go (fun _ kk_ => XS.ifNo X2.here hx rfl (hb hby d2_30) rfl ((if0 _ _).trans (feq (hcw : ¬ (cw = (0 : Int32)))).1) kk_) ?_
  show G T2 (mkF m 33 #[.val (.ref a), .val (.ref cb), .val (.int (0 : Int32)), .val (.int (2 : Int32)), .val .null, .unset] [])
  refine hs.go (fun _ kk_ => XS.aloadN X2.here hx rfl (hb hby d2_33) rfl rfl kk_) ?_
  show G T2 (mkF m 34 #[.val (.ref a), .val (.ref cb), .val (.int (0 : Int32)), .val (.int (2 : Int32)), .val .null, .unset] [(.ref cb)])
  refine hs.go (fun _ kk_ => XS.iloadN X2.here hx rfl (hb hby d2_34) rfl  kk_) ?_
  show G T2 (mkF m 35 #[.val (.ref a), .val (.ref cb), .val (.int (0 : Int32)), .val (.int (2 : Int32)), .val .null, .unset] [(.int (0 : Int32)), (.ref cb)])
  refine hs.go (fun _ kk_ => XS.iloadN X2.here hx rfl (hb hby d2_35) rfl  kk_) ?_
  show G T2 (mkF m 36 #[.val (.ref a), .val (.ref cb), .val (.int (0 : Int32)), .val (.int (2 : Int32)), .val .null, .unset] [(.int (2 : Int32)), (.int (0 : Int32)), (.ref cb)])
  refine rCallS hs X2 hx hZ (as' := [(.ref cb), (.int (0 : Int32)), (.int (2 : Int32))]) hJ (c3_2 l Z a0 hw [] (J) hJ cb x0 x1 kc h0 n0 Z0 V_cb hx0 hx1) hown (hw _ (List.mem_of_getElem? (i := 75) rfl)) (hw _ (List.mem_of_getElem? (i := 76) rfl)) (hw _ (List.mem_of_getElem? (i := 77) rfl)) (hw _ (List.mem_of_getElem? (i := 78) rfl)) hy_12 rfl (by rw [hml]; rfl) [] (lenOf pd_1 rfl) rfl 0 (by show 2 * 0 + _ ≤ _; exact Nat.le_of_eq rfl) (hb hby d2_36) (by decide) (by decide) (by decide) (by decide) (fun r3 T3 h3 vm3 X3 q3 => ?_)
  obtain ⟨db, kd, rfl, Kc3, V_db, hge, hj3⟩ := q3
  have X3 := X3 _ hj3
  have ne_a_db : a ≠ db := Nat.ne_of_lt (Nat.lt_of_lt_of_le E_a.lt hge)
  have ne_cb_db : cb ≠ db := Nat.ne_of_lt (Nat.lt_of_lt_of_le V_cb.lt hge)
  have g_db : n0 ≤ db := Nat.le_trans Z0 hge
  have O := O.keep Kc3 all0
  have E_a := E_a.keep Kc3
  have F_value_a := F_value_a.keep Kc3 nin0
  have F_coder_a := F_coder_a.keep Kc3 nin0
  have K := K.trans Kc3 (fun x hx => by simp at hx)
  have Ksz := K.1
  have Z0 := Nat.le_trans Z0 Kc3.1
  show G T3 (mkF m 39 #[.val (.ref a), .val (.ref cb), .val (.int (0 : Int32)), .val (.int (2 : Int32)), .val .null, .unset] [(.ref db)])
  refine hs.go (fun _ kk_ => XS.astore X3.here hx rfl (hb hby d2_39) rfl rfl (l' := #[.val (.ref a), .val (.ref cb), .val (.int (0 : Int32)), .val (.int (2 : Int32)), .val .null, .val (.ref db)]) rfl kk_) ?_
  show G T3 (mkF m 41 #[.val (.ref a), .val (.ref cb), .val (.int (0 : Int32)), .val (.int (2 : Int32)), .val .null, .val (.ref db)] [])
  refine hs.go (fun _ kk_ => XS.aloadN X3.here hx rfl (hb hby d2_41) rfl rfl kk_) ?_
  show G T3 (mkF m 42 #[.val (.ref a), .val (.ref cb), .val (.int (0 : Int32)), .val (.int (2 : Int32)), .val .null, .val (.ref db)] [(.ref a)])
  refine hs.go (fun _ kk_ => XS.aload X3.here hx rfl (hb hby d2_42) rfl rfl kk_) ?_
  show G T3 (mkF m 44 #[.val (.ref a), .val (.ref cb), .val (.int (0 : Int32)), .val (.int (2 : Int32)), .val .null, .val (.ref db)] [(.ref db), (.ref a)])
  refine hs.go (fun _ kk_ => XS.iloadN X3.here hx rfl (hb hby d2_44) rfl  kk_) ?_
  show G T3 (mkF m 45 #[.val (.ref a), .val (.ref cb), .val (.int (0 : Int32)), .val (.int (2 : Int32)), .val .null, .val (.ref db)] [(.int (2 : Int32)), (.ref db), (.ref a)])
  refine rCallS hs X3 hx hZ (as' := [(.ref db), (.int (2 : Int32))]) hJ (cf_2 l Z a0 hw [] (J) hJ db [(.int (x0.toInt8.toInt32)), (.int (x1.toInt8.toInt32))] kd h3 n0 Z0 V_db) hown (hw _ (List.mem_of_getElem? (i := 82) rfl)) (hw _ (List.mem_of_getElem? (i := 83) rfl)) (hw _ (List.mem_of_getElem? (i := 77) rfl)) (hw _ (List.mem_of_getElem? (i := 84) rfl)) hy_14 rfl (by rw [hml]; rfl) [(.ref a)] (lenOf pd_2 rfl) rfl 1 (by show 2 * 0 + _ ≤ _; exact Nat.le_of_eq rfl) (hb hby d2_45) (by decide) (by decide) (by decide) (by decide) (fun r4 T4 h4 vm4 X4 q4 => ?_)
  obtain ⟨rfl, qh4, hj4⟩ := q4
  have X4 := X4 _ hj4
  rw [qh4] at X4
  show G T4 (mkF m 48 #[.val (.ref a), .val (.ref cb), .val (.int (0 : Int32)), .val (.int (2 : Int32)), .val .null, .val (.ref db)] [(.int (0 : Int32)), (.ref a)])
  refine rPutF hs X4 hx hZ .byte hown (host := "") (Or.inl (hw _ (List.mem_of_getElem? (i := 23) rfl))) Via.refl F_coder_a E_a g_a (Or.inr ⟨(hw _ (List.mem_of_getElem? (i := 19) rfl)), rfl, hnm⟩) (hw _ (List.mem_of_getElem? (i := 4) rfl)) (by decide) rfl rfl rfl rfl (hb hby d2_48) (fun T5 h5 X5 W5 F_coder_a => ?_)
  have O := O.wr W5 g_a
  have E_a := E_a.wr W5
  have F_value_a := F_value_a.other W5 (Or.inr (slot_ne (Or.inr (hw _ (List.mem_of_getElem? (i := 18) rfl))) (Or.inr (hw _ (List.mem_of_getElem? (i := 19) rfl))) (by decide) (t := (.array .byte)) (t' := .byte) (by decide) (by decide)))
  have V_db := V_db.other W5 ne_a_db.symm
  have K := K.wr W5 (Or.inl (by simp))
  have Ksz := K.1
  have Z0 := Nat.le_trans Z0 (Keep.of_wr W5).1
  show G T5 (mkF m 51 #[.val (.ref a), .val (.ref cb), .val (.int (0 : Int32)), .val (.int (2 : Int32)), .val .null, .val (.ref db)] [])
  refine hs.go (fun _ kk_ => XS.aloadN X5.here hx rfl (hb hby d2_51) rfl rfl kk_) ?_
  show G T5 (mkF m 52 #[.val (.ref a), .val (.ref cb), .val (.int (0 : Int32)), .val (.int (2 : Int32)), .val .null, .val (.ref db)] [(.ref a)])
  refine hs.go (fun _ kk_ => XS.aload X5.here hx rfl (hb hby d2_52) rfl rfl kk_) ?_
  show G T5 (mkF m 54 #[.val (.ref a), .val (.ref cb), .val (.int (0 : Int32)), .val (.int (2 : Int32)), .val .null, .val (.ref db)] [(.ref db), (.ref a)])
  refine rPutF hs X5 hx hZ (.array .byte) hown (host := "") (Or.inl (hw _ (List.mem_of_getElem? (i := 22) rfl))) Via.refl F_value_a E_a g_a (Or.inr ⟨(hw _ (List.mem_of_getElem? (i := 18) rfl)), rfl, hnm⟩) (hw _ (List.mem_of_getElem? (i := 4) rfl)) (by decide) rfl rfl rfl rfl (hb hby d2_54) (fun T6 h6 X6 W6 F_value_a => ?_)
  have O := O.wr W6 g_a
  have E_a := E_a.wr W6
  have F_coder_a := F_coder_a.other W6 (Or.inr (slot_ne (Or.inr (hw _ (List.mem_of_getElem? (i := 19) rfl))) (Or.inr (hw _ (List.mem_of_getElem? (i := 18) rfl))) (by decide) (t := .byte) (t' := (.array .byte)) (by decide) (by decide)))
  have V_db := V_db.other W6 ne_a_db.symm
  have K := K.wr W6 (Or.inl (by simp))
  have Ksz := K.1
  have Z0 := Nat.le_trans Z0 (Keep.of_wr W6).1
  show G T6 (mkF m 57 #[.val (.ref a), .val (.ref cb), .val (.int (0 : Int32)), .val (.int (2 : Int32)), .val .null, .val (.ref db)] [])
  exact rRetV fin hJ X6 hx (by decide) (by decide) hret (hb hby d2_57) (fun vm' hj => ⟨rfl, K, E_a, ⟨db, _, _, F_value_a, V_db⟩, hj⟩)
set_option maxRecDepth 65536 in
set_option maxHeartbeats 40000000 in
theorem i1_2 (l : Launch) (Z : State) (a0 : Array Value) (hw : ∀ d ∈ tables_1, d.before a0 Z = true) (ws : List Jvm.Cond) (J : Vm → Prop) (hJ : Stb J) (a cb : Addr) (x0 x1 : Int32) (kc : ClassId) (h0 : Heap) (n0 : Nat) (Z0 : n0 ≤ h0.size) (O : Old Z n0 h0) (cw : Int32) (S0 : Sta Z Z.heap "java/lang/String" "COMPACT_STRINGS" "Z" (.int cw)) (hcw : ¬ (cw = (0 : Int32))) (E_a : Exa Z h0 a "java/lang/String") (g_a : n0 ≤ a) (F_value_a : Fld Z h0 a "java/lang/String" "value" "[B" .null) (F_coder_a : Fld Z h0 a "java/lang/String" "coder" "B" (.int (0 : Int32))) (V_cb : Arv Z h0 cb kc .char (2 : Int32) [(.int x0), (.int x1)] (.int (0 : Int32))) (hx0 : ¬ ((255 : Int32) < x0)) (hx1 : ¬ ((255 : Int32) < x1)) :
    Con l Z (⟨"java/lang/String", "<init>", "([C)V"⟩ : MethodName) jdk_42_method_3_code 2 none ws ({ frames := 3, cells := 1, slots := 2, locals := 52 } : Room) #[(.ref a), (.ref cb)] h0 n0 J (fun v h vm => v = none ∧ Keep h0 h [a] ∧ Exa Z h a "java/lang/String" ∧ (∃ (b : Addr) (k : ClassId) (vs : List Value), Fld Z h a "java/lang/String" "value" "[B" (.ref b) ∧ Arv Z h b k .byte (2 : Int32) vs (.int (0 : Int32))) ∧ J vm) := by
  refine Con.of pn_1 ?_
  intro G p e s m below meth c s₁ hs hx hby hml hown hnm hret hZ X0 XR hh0 hJ0 fin
  have hml : c.maxLocals = 2 := hml
  have hown : s.vm.findClass "java/lang/String" = some m.cls := hown
  rw [ef_1]
  have K := Keep.refl h0 ([a] : List Addr)
  have Ksz := K.1
  show G s₁ (mkF m 0 #[.val (.ref a), .val (.ref cb)] [])
  refine hs.go (fun _ kk_ => XS.aloadN X0.here hx rfl (hb hby d1_0) rfl rfl kk_) ?_
  show G s₁ (mkF m 1 #[.val (.ref a), .val (.ref cb)] [(.ref a)])
  refine hs.go (fun _ kk_ => XS.aloadN X0.here hx rfl (hb hby d1_1) rfl rfl kk_) ?_
  show G s₁ (mkF m 2 #[.val (.ref a), .val (.ref cb)] [(.ref cb), (.ref a)])
  refine hs.go (fun _ kk_ => XS.iconst X0.here hx rfl (hb hby d1_2) kk_) ?_
  show G s₁ (mkF m 3 #[.val (.ref a), .val (.ref cb)] [(.int (0 : Int32)), (.ref cb), (.ref a)])
  refine hs.go (fun _ kk_ => XS.aloadN X0.here hx rfl (hb hby d1_3) rfl rfl kk_) ?_
  show G s₁ (mkF m 4 #[.val (.ref a), .val (.ref cb)] [(.ref cb), (.int (0 : Int32)), (.ref cb), (.ref a)])
  refine rLen hs X0 hx hZ V_cb rfl rfl (hb hby d1_4) ?_
  show G s₁ (mkF m 5 #[.val (.ref a), .val (.ref cb)] [(.int (2 : Int32)), (.int (0 : Int32)), (.ref cb), (.ref a)])
  refine hs.go (fun _ kk_ => XS.aconstNull X0.here hx rfl (hb hby d1_5) kk_) ?_
  show G s₁ (mkF m 6 #[.val (.ref a), .val (.ref cb)] [.null, (.int (2 : Int32)), (.int (0 : Int32)), (.ref cb), (.ref a)])
  refine rCallI hs X0 hx hZ (as' := [(.ref cb), (.int (0 : Int32)), (.int (2 : Int32)), .null]) hJ (i4_2 l Z a0 hw [] (J) hJ a cb x0 x1 kc h0 n0 Z0 O cw S0 hcw E_a g_a F_value_a F_coder_a V_cb hx0 hx1) rfl hown (hw _ (List.mem_of_getElem? (i := 9) rfl)) (hw _ (List.mem_of_getElem? (i := 10) rfl)) (hw _ (List.mem_of_getElem? (i := 5) rfl)) (hw _ (List.mem_of_getElem? (i := 12) rfl)) hy_2 rfl (by rw [hml]; rfl) [] (lenOf pd_3 rfl) rfl 0 (by show 2 * 0 + _ ≤ _; exact Nat.le_of_eq rfl) (hb hby d1_6) (by decide) (by decide) (by decide) (by decide) (fun r1 T1 h1 vm1 X1 q1 => ?_)
  obtain ⟨rfl, Kc1, E_a, ⟨vb, kv, vv, F_value_a, V_vb⟩, hj1⟩ := q1
  have X1 := X1 _ hj1
  have O := O.keep Kc1 (allS g_a all0)
  have K := K.trans Kc1 (fun x hx => Or.inl hx)
  have Ksz := K.1
  have Z0 := Nat.le_trans Z0 Kc1.1
  show G T1 (mkF m 9 #[.val (.ref a), .val (.ref cb)] [])
  exact rRetV fin hJ X1 hx (by decide) (by decide) hret (hb hby d1_9) (fun vm' hj => ⟨rfl, K, E_a, ⟨vb, kv, vv, F_value_a, V_vb⟩, hj⟩)
theorem d2_8 : decode jdk_42_method_149_code 8 = .ok (.aload_n 0, 1) := by decide +kernel
theorem d2_9 : decode jdk_42_method_149_code 9 = .ok (.ldc 7, 2) := by decide +kernel
theorem d2_11 : decode jdk_42_method_149_code 11 = .ok (.getfield 9, 3) := by decide +kernel
theorem d2_14 : decode jdk_42_method_149_code 14 = .ok (.putfield 9, 3) := by decide +kernel
theorem d2_17 : decode jdk_42_method_149_code 17 = .ok (.aload_n 0, 1) := by decide +kernel
theorem d2_18 : decode jdk_42_method_149_code 18 = .ok (.ldc 7, 2) := by decide +kernel
theorem d2_20 : decode jdk_42_method_149_code 20 = .ok (.getfield 15, 3) := by decide +kernel
theorem d2_23 : decode jdk_42_method_149_code 23 = .ok (.putfield 15, 3) := by decide +kernel
theorem d2_26 : decode jdk_42_method_149_code 26 = .ok (.return_, 1) := by decide +kernel
set_option maxRecDepth 65536 in
set_option maxHeartbeats 40000000 in
theorem i4_f (l : Launch) (Z : State) (a0 : Array Value) (hw : ∀ d ∈ tables_1, d.before a0 Z = true) (ws : List Jvm.Cond) (a cb : Addr) (kc : ClassId) (h0 : Heap) (n0 : Nat) (Z0 : n0 ≤ h0.size) (E_a : Exa Z h0 a "java/lang/String") (g_a : n0 ≤ a) (F_value_a : Fld Z h0 a "java/lang/String" "value" "[B" .null) (F_coder_a : Fld Z h0 a "java/lang/String" "coder" "B" (.int (0 : Int32))) (V_cb : Arv Z h0 cb kc .char (0 : Int32) [] (.int (0 : Int32))) (O : Old Z n0 h0) (HC : Jvm.Lit.constHeld Z "java/lang/String" 7) (HW : Jvm.Lit.compactW.before a0 Z = true) :
    Con l Z (⟨"java/lang/String", "<init>", "([CIILjava/lang/Void;)V"⟩ : MethodName) jdk_42_method_149_code 6 none ws ({ frames := 1, cells := 2, slots := 4, locals := 12 } : Room) #[(.ref a), (.ref cb), (.int (0 : Int32)), (.int (0 : Int32)), .null] h0 n0 (Jn Z []) (fun v h vm => ∃ (aL bL : Addr) (kL : ClassId), v = none ∧ Keep h0 h [a] ∧ Exa Z h a "java/lang/String" ∧ Fld Z h a "java/lang/String" "value" "[B" (.ref bL) ∧ Exa Z h aL "java/lang/String" ∧ Fld Z h aL "java/lang/String" "value" "[B" (.ref bL) ∧ Fld Z h aL "java/lang/String" "coder" "B" (.int 0) ∧ Arv Z h bL kL .byte (0 : Int32) [] (.int 0) ∧ Jl Z "java/lang/String" 7 aL vm) := by
  refine Con.of pn_2 ?_
  intro G p e s m below meth c s₁ hs hx hby hml hown hnm hret hZ X0 XR hh0 hJ0 fin
  have hml : c.maxLocals = 6 := hml
  have hown : s.vm.findClass "java/lang/String" = some m.cls := hown
  rw [ef_2_xxxxn]
  have K := Keep.refl h0 ([a] : List Addr)
  have Ksz := K.1
  have ne_cb_a : cb ≠ a := by obtain ⟨cl_, A_, -⟩ := V_cb; exact (ne_arr E_a (hw _ (List.mem_of_getElem? (i := 4) rfl)) A_).symm
  have eR : s₁.heap = h0 := by obtain ⟨_, _, _, _, _, q, _⟩ := X0; exact q
  show G s₁ (mkF m 0 #[.val (.ref a), .val (.ref cb), .val (.int (0 : Int32)), .val (.int (0 : Int32)), .val .null, .unset] [])
  refine hs.go (fun _ kk_ => XS.aloadN XR.here hx rfl (hb hby d2_0) rfl rfl kk_) ?_
  show G s₁ (mkF m 1 #[.val (.ref a), .val (.ref cb), .val (.int (0 : Int32)), .val (.int (0 : Int32)), .val .null, .unset] [(.ref a)])
  refine rInitR hs XR eR hx hZ hown (hw _ (List.mem_of_getElem? (i := 13) rfl)) (hw _ (List.mem_of_getElem? (i := 14) rfl)) (hw _ (List.mem_of_getElem? (i := 15) rfl)) rfl (by rw [hml]; rfl) rfl (hb hby d2_1) (by decide) (W := 0) (by show 2 * 0 + _ ≤ _; exact Nat.le_of_eq rfl) (by decide) (fun T1 X1 e1 => ?_)
  show G T1 (mkF m 4 #[.val (.ref a), .val (.ref cb), .val (.int (0 : Int32)), .val (.int (0 : Int32)), .val .null, .unset] [])
  refine hs.go (fun _ kk_ => XS.iloadN X1.here hx rfl (hb hby d2_4) rfl  kk_) ?_
  show G T1 (mkF m 5 #[.val (.ref a), .val (.ref cb), .val (.int (0 : Int32)), .val (.int (0 : Int32)), .val .null, .unset] [(.int (0 : Int32))])
  refine hs.go (fun _ kk_ => XS.ifNo X1.here hx rfl (hb hby d2_5) rfl ((if0 _ _).trans (teq (rfl : (0 : Int32) = (0 : Int32))).2) kk_) ?_
  show G T1 (mkF m 8 #[.val (.ref a), .val (.ref cb), .val (.int (0 : Int32)), .val (.int (0 : Int32)), .val .null, .unset] [])
  refine hs.go (fun _ kk_ => XS.aloadN X1.here hx rfl (hb hby d2_8) rfl rfl kk_) ?_
  show G T1 (mkF m 9 #[.val (.ref a), .val (.ref cb), .val (.int (0 : Int32)), .val (.int (0 : Int32)), .val .null, .unset] [(.ref a)])
  refine rLdcF (n0 := n0) hs X1 e1 hx hZ hown (hw _ (List.mem_of_getElem? (i := 16) rfl)) (fun d hd => hw d (own_sa d hd)) (by rw [hh0]; exact O.2) hJ0 (by simp) HC HW (vs := []) (z := (0 : Int32)) ⟨by decide, rfl⟩ (by decide) rfl rfl (hb hby d2_9) 0 (by decide) (by decide) (by decide) (by decide) (fun T2 h2 aL bL kL X2 E2 E_aL F_coder_aL F_value_aL V_bL => ?_)
  have Z0 := Nat.le_trans Z0 E2.1
  have E_a := E_a.ext E2
  have F_value_a := F_value_a.ext E2
  have F_coder_a := F_coder_a.ext E2
  have V_cb := V_cb.ext E2
  have O := O.ext E2
  have K := K.ext E2
  have Ksz := K.1
  have ne_aL_a : aL ≠ a := Fld.ne F_value_aL F_value_a nofun
  have ne_bL_a : bL ≠ a := by obtain ⟨cl_, A_, -⟩ := V_bL; exact (ne_arr E_a (hw _ (List.mem_of_getElem? (i := 4) rfl)) A_).symm
  show G T2 (mkF m 11 #[.val (.ref a), .val (.ref cb), .val (.int (0 : Int32)), .val (.int (0 : Int32)), .val .null, .unset] [(.ref aL), (.ref a)])
  refine rGetF hs X2 hx hZ hown (host := "") (Or.inl (hw _ (List.mem_of_getElem? (i := 22) rfl))) Via.refl F_value_aL rfl rfl (hb hby d2_11) (fun T3 X3 => ?_)
  show G T3 (mkF m 14 #[.val (.ref a), .val (.ref cb), .val (.int (0 : Int32)), .val (.int (0 : Int32)), .val .null, .unset] [(.ref bL), (.ref a)])
  refine rPutF hs X3 hx hZ (.array .byte) hown (host := "") (Or.inl (hw _ (List.mem_of_getElem? (i := 22) rfl))) Via.refl F_value_a E_a g_a (Or.inr ⟨(hw _ (List.mem_of_getElem? (i := 18) rfl)), rfl, hnm⟩) (hw _ (List.mem_of_getElem? (i := 4) rfl)) (by decide) rfl rfl rfl rfl (hb hby d2_14) (fun T4 h4 X4 W4 F_value_a => ?_)
  have E_a := E_a.wr W4
  have F_coder_a := F_coder_a.other W4 (Or.inr (slot_ne (Or.inr (hw _ (List.mem_of_getElem? (i := 19) rfl))) (Or.inr (hw _ (List.mem_of_getElem? (i := 18) rfl))) (by decide) (t := .byte) (t' := (.array .byte)) (by decide) (by decide)))
  have V_cb := V_cb.other W4 ne_cb_a
  have E_aL := E_aL.wr W4
  have F_value_aL := F_value_aL.other W4 (Or.inl ne_aL_a)
  have F_coder_aL := F_coder_aL.other W4 (Or.inl ne_aL_a)
  have V_bL := V_bL.other W4 ne_bL_a
  have K := K.wr W4 (Or.inl (by simp))
  have Ksz := K.1
  have Z0 := Nat.le_trans Z0 (Keep.of_wr W4).1
  show G T4 (mkF m 17 #[.val (.ref a), .val (.ref cb), .val (.int (0 : Int32)), .val (.int (0 : Int32)), .val .null, .unset] [])
  refine hs.go (fun _ kk_ => XS.aloadN X4.here hx rfl (hb hby d2_17) rfl rfl kk_) ?_
  show G T4 (mkF m 18 #[.val (.ref a), .val (.ref cb), .val (.int (0 : Int32)), .val (.int (0 : Int32)), .val .null, .unset] [(.ref a)])
  refine rLdcA hs X4 hx hZ hown (hw _ (List.mem_of_getElem? (i := 16) rfl)) rfl (hb hby d2_18) ?_
  show G T4 (mkF m 20 #[.val (.ref a), .val (.ref cb), .val (.int (0 : Int32)), .val (.int (0 : Int32)), .val .null, .unset] [(.ref aL), (.ref a)])
  refine rGetF hs X4 hx hZ hown (host := "") (Or.inl (hw _ (List.mem_of_getElem? (i := 23) rfl))) Via.refl F_coder_aL rfl rfl (hb hby d2_20) (fun T5 X5 => ?_)
  show G T5 (mkF m 23 #[.val (.ref a), .val (.ref cb), .val (.int (0 : Int32)), .val (.int (0 : Int32)), .val .null, .unset] [(.int 0), (.ref a)])
  refine rPutF hs X5 hx hZ .byte hown (host := "") (Or.inl (hw _ (List.mem_of_getElem? (i := 23) rfl))) Via.refl F_coder_a E_a g_a (Or.inr ⟨(hw _ (List.mem_of_getElem? (i := 19) rfl)), rfl, hnm⟩) (hw _ (List.mem_of_getElem? (i := 4) rfl)) (by decide) rfl rfl rfl rfl (hb hby d2_23) (fun T6 h6 X6 W6 F_coder_a => ?_)
  have E_a := E_a.wr W6
  have F_value_a := F_value_a.other W6 (Or.inr (slot_ne (Or.inr (hw _ (List.mem_of_getElem? (i := 18) rfl))) (Or.inr (hw _ (List.mem_of_getElem? (i := 19) rfl))) (by decide) (t := (.array .byte)) (t' := .byte) (by decide) (by decide)))
  have V_cb := V_cb.other W6 ne_cb_a
  have E_aL := E_aL.wr W6
  have F_value_aL := F_value_aL.other W6 (Or.inl ne_aL_a)
  have F_coder_aL := F_coder_aL.other W6 (Or.inl ne_aL_a)
  have V_bL := V_bL.other W6 ne_bL_a
  have K := K.wr W6 (Or.inl (by simp))
  have Ksz := K.1
  have Z0 := Nat.le_trans Z0 (Keep.of_wr W6).1
  show G T6 (mkF m 26 #[.val (.ref a), .val (.ref cb), .val (.int (0 : Int32)), .val (.int (0 : Int32)), .val .null, .unset] [])
  exact rRetV fin Jl.stb X6 hx (by decide) (by decide) hret (hb hby d2_26) (fun vm' hj => ⟨aL, bL, kL, rfl, K, E_a, F_value_a, E_aL, F_value_aL, F_coder_aL, V_bL, hj⟩)
set_option maxRecDepth 65536 in
set_option maxHeartbeats 40000000 in
theorem i1_f (l : Launch) (Z : State) (a0 : Array Value) (hw : ∀ d ∈ tables_1, d.before a0 Z = true) (ws : List Jvm.Cond) (a cb : Addr) (kc : ClassId) (h0 : Heap) (n0 : Nat) (Z0 : n0 ≤ h0.size) (E_a : Exa Z h0 a "java/lang/String") (g_a : n0 ≤ a) (F_value_a : Fld Z h0 a "java/lang/String" "value" "[B" .null) (F_coder_a : Fld Z h0 a "java/lang/String" "coder" "B" (.int (0 : Int32))) (V_cb : Arv Z h0 cb kc .char (0 : Int32) [] (.int (0 : Int32))) (O : Old Z n0 h0) (HC : Jvm.Lit.constHeld Z "java/lang/String" 7) (HW : Jvm.Lit.compactW.before a0 Z = true) :
    Con l Z (⟨"java/lang/String", "<init>", "([C)V"⟩ : MethodName) jdk_42_method_3_code 2 none ws ({ frames := 2, cells := 2, slots := 4, locals := 29 } : Room) #[(.ref a), (.ref cb)] h0 n0 (Jn Z []) (fun v h vm => ∃ (aL bL : Addr) (kL : ClassId), v = none ∧ Keep h0 h [a] ∧ Exa Z h a "java/lang/String" ∧ Fld Z h a "java/lang/String" "value" "[B" (.ref bL) ∧ Exa Z h aL "java/lang/String" ∧ Fld Z h aL "java/lang/String" "value" "[B" (.ref bL) ∧ Fld Z h aL "java/lang/String" "coder" "B" (.int 0) ∧ Arv Z h bL kL .byte (0 : Int32) [] (.int 0) ∧ Jl Z "java/lang/String" 7 aL vm) := by
  refine Con.of pn_1 ?_
  intro G p e s m below meth c s₁ hs hx hby hml hown hnm hret hZ X0 XR hh0 hJ0 fin
  have hml : c.maxLocals = 2 := hml
  have hown : s.vm.findClass "java/lang/String" = some m.cls := hown
  rw [ef_1]
  have K := Keep.refl h0 ([a] : List Addr)
  have Ksz := K.1
  show G s₁ (mkF m 0 #[.val (.ref a), .val (.ref cb)] [])
  refine hs.go (fun _ kk_ => XS.aloadN X0.here hx rfl (hb hby d1_0) rfl rfl kk_) ?_
  show G s₁ (mkF m 1 #[.val (.ref a), .val (.ref cb)] [(.ref a)])
  refine hs.go (fun _ kk_ => XS.aloadN X0.here hx rfl (hb hby d1_1) rfl rfl kk_) ?_
  show G s₁ (mkF m 2 #[.val (.ref a), .val (.ref cb)] [(.ref cb), (.ref a)])
  refine hs.go (fun _ kk_ => XS.iconst X0.here hx rfl (hb hby d1_2) kk_) ?_
  show G s₁ (mkF m 3 #[.val (.ref a), .val (.ref cb)] [(.int (0 : Int32)), (.ref cb), (.ref a)])
  refine hs.go (fun _ kk_ => XS.aloadN X0.here hx rfl (hb hby d1_3) rfl rfl kk_) ?_
  show G s₁ (mkF m 4 #[.val (.ref a), .val (.ref cb)] [(.ref cb), (.int (0 : Int32)), (.ref cb), (.ref a)])
  refine rLen hs X0 hx hZ V_cb rfl rfl (hb hby d1_4) ?_
  show G s₁ (mkF m 5 #[.val (.ref a), .val (.ref cb)] [(.int (0 : Int32)), (.int (0 : Int32)), (.ref cb), (.ref a)])
  refine hs.go (fun _ kk_ => XS.aconstNull X0.here hx rfl (hb hby d1_5) kk_) ?_
  show G s₁ (mkF m 6 #[.val (.ref a), .val (.ref cb)] [.null, (.int (0 : Int32)), (.int (0 : Int32)), (.ref cb), (.ref a)])
  refine rCallI hs X0 hx hZ (as' := [(.ref cb), (.int (0 : Int32)), (.int (0 : Int32)), .null]) Jn.stb (i4_f l Z a0 hw [] a cb kc h0 n0 Z0 E_a g_a F_value_a F_coder_a V_cb O HC HW) rfl hown (hw _ (List.mem_of_getElem? (i := 9) rfl)) (hw _ (List.mem_of_getElem? (i := 10) rfl)) (hw _ (List.mem_of_getElem? (i := 5) rfl)) (hw _ (List.mem_of_getElem? (i := 12) rfl)) hy_2 rfl (by rw [hml]; rfl) [] (lenOf pd_3 rfl) rfl 0 (by show 2 * 0 + _ ≤ _; exact Nat.le_of_eq rfl) (hb hby d1_6) (by decide) (by decide) (by decide) (by decide) (fun r1 T1 h1 vm1 X1 q1 => ?_)
  obtain ⟨aL, bL, kL, rfl, Kc1, E_a, F_value_a, E_aL, F_value_aL, F_coder_aL, V_bL, hj1⟩ := q1
  have X1 := X1 _ hj1
  have K := K.trans Kc1 (fun x hx => Or.inl hx)
  have Ksz := K.1
  have Z0 := Nat.le_trans Z0 Kc1.1
  show G T1 (mkF m 9 #[.val (.ref a), .val (.ref cb)] [])
  exact rRetV fin Jl.stb X1 hx (by decide) (by decide) hret (hb hby d1_9) (fun vm' hj => ⟨aL, bL, kL, rfl, K, E_a, F_value_a, E_aL, F_value_aL, F_coder_aL, V_bL, hj⟩)
set_option maxRecDepth 65536 in
set_option maxHeartbeats 40000000 in
theorem i4_g (l : Launch) (Z : State) (a0 : Array Value) (hw : ∀ d ∈ tables_1, d.before a0 Z = true) (ws : List Jvm.Cond) (a cb : Addr) (kc : ClassId) (aL bL : Addr) (kL : ClassId) (h0 : Heap) (n0 : Nat) (Z0 : n0 ≤ h0.size) (E_a : Exa Z h0 a "java/lang/String") (g_a : n0 ≤ a) (F_value_a : Fld Z h0 a "java/lang/String" "value" "[B" .null) (F_coder_a : Fld Z h0 a "java/lang/String" "coder" "B" (.int (0 : Int32))) (V_cb : Arv Z h0 cb kc .char (0 : Int32) [] (.int (0 : Int32))) (E_aL : Exa Z h0 aL "java/lang/String") (F_value_aL : Fld Z h0 aL "java/lang/String" "value" "[B" (.ref bL)) (F_coder_aL : Fld Z h0 aL "java/lang/String" "coder" "B" (.int 0)) (V_bL : Arv Z h0 bL kL .byte (0 : Int32) [] (.int 0)) :
    Con l Z (⟨"java/lang/String", "<init>", "([CIILjava/lang/Void;)V"⟩ : MethodName) jdk_42_method_149_code 6 none ws ({ frames := 1, cells := 0, slots := 0, locals := 12 } : Room) #[(.ref a), (.ref cb), (.int (0 : Int32)), (.int (0 : Int32)), .null] h0 n0 (Jl Z "java/lang/String" 7 aL) (fun v h vm => v = none ∧ Keep h0 h [a] ∧ Exa Z h a "java/lang/String" ∧ Fld Z h a "java/lang/String" "value" "[B" (.ref bL) ∧ Exa Z h aL "java/lang/String" ∧ Fld Z h aL "java/lang/String" "value" "[B" (.ref bL) ∧ Fld Z h aL "java/lang/String" "coder" "B" (.int 0) ∧ Arv Z h bL kL .byte (0 : Int32) [] (.int 0) ∧ Jl Z "java/lang/String" 7 aL vm) := by
  refine Con.of pn_2 ?_
  intro G p e s m below meth c s₁ hs hx hby hml hown hnm hret hZ X0 XR hh0 hJ0 fin
  have hml : c.maxLocals = 6 := hml
  have hown : s.vm.findClass "java/lang/String" = some m.cls := hown
  rw [ef_2_xxxxn]
  have K := Keep.refl h0 ([a] : List Addr)
  have Ksz := K.1
  have ne_cb_a : cb ≠ a := by obtain ⟨cl_, A_, -⟩ := V_cb; exact (ne_arr E_a (hw _ (List.mem_of_getElem? (i := 4) rfl)) A_).symm
  show G s₁ (mkF m 0 #[.val (.ref a), .val (.ref cb), .val (.int (0 : Int32)), .val (.int (0 : Int32)), .val .null, .unset] [])
  refine hs.go (fun _ kk_ => XS.aloadN X0.here hx rfl (hb hby d2_0) rfl rfl kk_) ?_
  show G s₁ (mkF m 1 #[.val (.ref a), .val (.ref cb), .val (.int (0 : Int32)), .val (.int (0 : Int32)), .val .null, .unset] [(.ref a)])
  refine rInitO hs X0 hx hZ hown (hw _ (List.mem_of_getElem? (i := 13) rfl)) (hw _ (List.mem_of_getElem? (i := 14) rfl)) (hw _ (List.mem_of_getElem? (i := 15) rfl)) rfl (by rw [hml]; rfl) rfl (hb hby d2_1) (by decide) (W := 0) (by show 2 * 0 + _ ≤ _; exact Nat.le_of_eq rfl) (by decide) (fun T1 X1 => ?_)
  show G T1 (mkF m 4 #[.val (.ref a), .val (.ref cb), .val (.int (0 : Int32)), .val (.int (0 : Int32)), .val .null, .unset] [])
  refine hs.go (fun _ kk_ => XS.iloadN X1.here hx rfl (hb hby d2_4) rfl  kk_) ?_
  show G T1 (mkF m 5 #[.val (.ref a), .val (.ref cb), .val (.int (0 : Int32)), .val (.int (0 : Int32)), .val .null, .unset] [(.int (0 : Int32))])
  refine hs.go (fun _ kk_ => XS.ifNo X1.here hx rfl (hb hby d2_5) rfl ((if0 _ _).trans (teq (rfl : (0 : Int32) = (0 : Int32))).2) kk_) ?_
  show G T1 (mkF m 8 #[.val (.ref a), .val (.ref cb), .val (.int (0 : Int32)), .val (.int (0 : Int32)), .val .null, .unset] [])
  refine hs.go (fun _ kk_ => XS.aloadN X1.here hx rfl (hb hby d2_8) rfl rfl kk_) ?_
  show G T1 (mkF m 9 #[.val (.ref a), .val (.ref cb), .val (.int (0 : Int32)), .val (.int (0 : Int32)), .val .null, .unset] [(.ref a)])
  refine rLdcA hs X1 hx hZ hown (hw _ (List.mem_of_getElem? (i := 16) rfl)) rfl (hb hby d2_9) ?_
  have ne_aL_a : aL ≠ a := Fld.ne F_value_aL F_value_a nofun
  have ne_bL_a : bL ≠ a := by obtain ⟨cl_, A_, -⟩ := V_bL; exact (ne_arr E_a (hw _ (List.mem_of_getElem? (i := 4) rfl)) A_).symm
  show G T1 (mkF m 11 #[.val (.ref a), .val (.ref cb), .val (.int (0 : Int32)), .val (.int (0 : Int32)), .val .null, .unset] [(.ref aL), (.ref a)])
  refine rGetF hs X1 hx hZ hown (host := "") (Or.inl (hw _ (List.mem_of_getElem? (i := 22) rfl))) Via.refl F_value_aL rfl rfl (hb hby d2_11) (fun T2 X2 => ?_)
  show G T2 (mkF m 14 #[.val (.ref a), .val (.ref cb), .val (.int (0 : Int32)), .val (.int (0 : Int32)), .val .null, .unset] [(.ref bL), (.ref a)])
  refine rPutF hs X2 hx hZ (.array .byte) hown (host := "") (Or.inl (hw _ (List.mem_of_getElem? (i := 22) rfl))) Via.refl F_value_a E_a g_a (Or.inr ⟨(hw _ (List.mem_of_getElem? (i := 18) rfl)), rfl, hnm⟩) (hw _ (List.mem_of_getElem? (i := 4) rfl)) (by decide) rfl rfl rfl rfl (hb hby d2_14) (fun T3 h3 X3 W3 F_value_a => ?_)
  have E_a := E_a.wr W3
  have F_coder_a := F_coder_a.other W3 (Or.inr (slot_ne (Or.inr (hw _ (List.mem_of_getElem? (i := 19) rfl))) (Or.inr (hw _ (List.mem_of_getElem? (i := 18) rfl))) (by decide) (t := .byte) (t' := (.array .byte)) (by decide) (by decide)))
  have V_cb := V_cb.other W3 ne_cb_a
  have E_aL := E_aL.wr W3
  have F_value_aL := F_value_aL.other W3 (Or.inl ne_aL_a)
  have F_coder_aL := F_coder_aL.other W3 (Or.inl ne_aL_a)
  have V_bL := V_bL.other W3 ne_bL_a
  have K := K.wr W3 (Or.inl (by simp))
  have Ksz := K.1
  have Z0 := Nat.le_trans Z0 (Keep.of_wr W3).1
  show G T3 (mkF m 17 #[.val (.ref a), .val (.ref cb), .val (.int (0 : Int32)), .val (.int (0 : Int32)), .val .null, .unset] [])
  refine hs.go (fun _ kk_ => XS.aloadN X3.here hx rfl (hb hby d2_17) rfl rfl kk_) ?_
  show G T3 (mkF m 18 #[.val (.ref a), .val (.ref cb), .val (.int (0 : Int32)), .val (.int (0 : Int32)), .val .null, .unset] [(.ref a)])
  refine rLdcA hs X3 hx hZ hown (hw _ (List.mem_of_getElem? (i := 16) rfl)) rfl (hb hby d2_18) ?_
  show G T3 (mkF m 20 #[.val (.ref a), .val (.ref cb), .val (.int (0 : Int32)), .val (.int (0 : Int32)), .val .null, .unset] [(.ref aL), (.ref a)])
  refine rGetF hs X3 hx hZ hown (host := "") (Or.inl (hw _ (List.mem_of_getElem? (i := 23) rfl))) Via.refl F_coder_aL rfl rfl (hb hby d2_20) (fun T4 X4 => ?_)
  show G T4 (mkF m 23 #[.val (.ref a), .val (.ref cb), .val (.int (0 : Int32)), .val (.int (0 : Int32)), .val .null, .unset] [(.int 0), (.ref a)])
  refine rPutF hs X4 hx hZ .byte hown (host := "") (Or.inl (hw _ (List.mem_of_getElem? (i := 23) rfl))) Via.refl F_coder_a E_a g_a (Or.inr ⟨(hw _ (List.mem_of_getElem? (i := 19) rfl)), rfl, hnm⟩) (hw _ (List.mem_of_getElem? (i := 4) rfl)) (by decide) rfl rfl rfl rfl (hb hby d2_23) (fun T5 h5 X5 W5 F_coder_a => ?_)
  have E_a := E_a.wr W5
  have F_value_a := F_value_a.other W5 (Or.inr (slot_ne (Or.inr (hw _ (List.mem_of_getElem? (i := 18) rfl))) (Or.inr (hw _ (List.mem_of_getElem? (i := 19) rfl))) (by decide) (t := (.array .byte)) (t' := .byte) (by decide) (by decide)))
  have V_cb := V_cb.other W5 ne_cb_a
  have E_aL := E_aL.wr W5
  have F_value_aL := F_value_aL.other W5 (Or.inl ne_aL_a)
  have F_coder_aL := F_coder_aL.other W5 (Or.inl ne_aL_a)
  have V_bL := V_bL.other W5 ne_bL_a
  have K := K.wr W5 (Or.inl (by simp))
  have Ksz := K.1
  have Z0 := Nat.le_trans Z0 (Keep.of_wr W5).1
  show G T5 (mkF m 26 #[.val (.ref a), .val (.ref cb), .val (.int (0 : Int32)), .val (.int (0 : Int32)), .val .null, .unset] [])
  exact rRetV fin Jl.stb X5 hx (by decide) (by decide) hret (hb hby d2_26) (fun vm' hj => ⟨rfl, K, E_a, F_value_a, E_aL, F_value_aL, F_coder_aL, V_bL, hj⟩)
set_option maxRecDepth 65536 in
set_option maxHeartbeats 40000000 in
theorem i1_g (l : Launch) (Z : State) (a0 : Array Value) (hw : ∀ d ∈ tables_1, d.before a0 Z = true) (ws : List Jvm.Cond) (a cb : Addr) (kc : ClassId) (aL bL : Addr) (kL : ClassId) (h0 : Heap) (n0 : Nat) (Z0 : n0 ≤ h0.size) (E_a : Exa Z h0 a "java/lang/String") (g_a : n0 ≤ a) (F_value_a : Fld Z h0 a "java/lang/String" "value" "[B" .null) (F_coder_a : Fld Z h0 a "java/lang/String" "coder" "B" (.int (0 : Int32))) (V_cb : Arv Z h0 cb kc .char (0 : Int32) [] (.int (0 : Int32))) (E_aL : Exa Z h0 aL "java/lang/String") (F_value_aL : Fld Z h0 aL "java/lang/String" "value" "[B" (.ref bL)) (F_coder_aL : Fld Z h0 aL "java/lang/String" "coder" "B" (.int 0)) (V_bL : Arv Z h0 bL kL .byte (0 : Int32) [] (.int 0)) :
    Con l Z (⟨"java/lang/String", "<init>", "([C)V"⟩ : MethodName) jdk_42_method_3_code 2 none ws ({ frames := 2, cells := 0, slots := 0, locals := 29 } : Room) #[(.ref a), (.ref cb)] h0 n0 (Jl Z "java/lang/String" 7 aL) (fun v h vm => v = none ∧ Keep h0 h [a] ∧ Exa Z h a "java/lang/String" ∧ Fld Z h a "java/lang/String" "value" "[B" (.ref bL) ∧ Exa Z h aL "java/lang/String" ∧ Fld Z h aL "java/lang/String" "value" "[B" (.ref bL) ∧ Fld Z h aL "java/lang/String" "coder" "B" (.int 0) ∧ Arv Z h bL kL .byte (0 : Int32) [] (.int 0) ∧ Jl Z "java/lang/String" 7 aL vm) := by
  refine Con.of pn_1 ?_
  intro G p e s m below meth c s₁ hs hx hby hml hown hnm hret hZ X0 XR hh0 hJ0 fin
  have hml : c.maxLocals = 2 := hml
  have hown : s.vm.findClass "java/lang/String" = some m.cls := hown
  rw [ef_1]
  have K := Keep.refl h0 ([a] : List Addr)
  have Ksz := K.1
  show G s₁ (mkF m 0 #[.val (.ref a), .val (.ref cb)] [])
  refine hs.go (fun _ kk_ => XS.aloadN X0.here hx rfl (hb hby d1_0) rfl rfl kk_) ?_
  show G s₁ (mkF m 1 #[.val (.ref a), .val (.ref cb)] [(.ref a)])
  refine hs.go (fun _ kk_ => XS.aloadN X0.here hx rfl (hb hby d1_1) rfl rfl kk_) ?_
  show G s₁ (mkF m 2 #[.val (.ref a), .val (.ref cb)] [(.ref cb), (.ref a)])
  refine hs.go (fun _ kk_ => XS.iconst X0.here hx rfl (hb hby d1_2) kk_) ?_
  show G s₁ (mkF m 3 #[.val (.ref a), .val (.ref cb)] [(.int (0 : Int32)), (.ref cb), (.ref a)])
  refine hs.go (fun _ kk_ => XS.aloadN X0.here hx rfl (hb hby d1_3) rfl rfl kk_) ?_
  show G s₁ (mkF m 4 #[.val (.ref a), .val (.ref cb)] [(.ref cb), (.int (0 : Int32)), (.ref cb), (.ref a)])
  refine rLen hs X0 hx hZ V_cb rfl rfl (hb hby d1_4) ?_
  show G s₁ (mkF m 5 #[.val (.ref a), .val (.ref cb)] [(.int (0 : Int32)), (.int (0 : Int32)), (.ref cb), (.ref a)])
  refine hs.go (fun _ kk_ => XS.aconstNull X0.here hx rfl (hb hby d1_5) kk_) ?_
  show G s₁ (mkF m 6 #[.val (.ref a), .val (.ref cb)] [.null, (.int (0 : Int32)), (.int (0 : Int32)), (.ref cb), (.ref a)])
  refine rCallI hs X0 hx hZ (as' := [(.ref cb), (.int (0 : Int32)), (.int (0 : Int32)), .null]) Jl.stb (i4_g l Z a0 hw [] a cb kc aL bL kL h0 n0 Z0 E_a g_a F_value_a F_coder_a V_cb E_aL F_value_aL F_coder_aL V_bL) rfl hown (hw _ (List.mem_of_getElem? (i := 9) rfl)) (hw _ (List.mem_of_getElem? (i := 10) rfl)) (hw _ (List.mem_of_getElem? (i := 5) rfl)) (hw _ (List.mem_of_getElem? (i := 12) rfl)) hy_2 rfl (by rw [hml]; rfl) [] (lenOf pd_3 rfl) rfl 0 (by show 2 * 0 + _ ≤ _; exact Nat.le_of_eq rfl) (hb hby d1_6) (by decide) (by decide) (by decide) (by decide) (fun r1 T1 h1 vm1 X1 q1 => ?_)
  obtain ⟨rfl, Kc1, E_a, F_value_a, E_aL, F_value_aL, F_coder_aL, V_bL, hj1⟩ := q1
  have X1 := X1 _ hj1
  have K := K.trans Kc1 (fun x hx => Or.inl hx)
  have Ksz := K.1
  have Z0 := Nat.le_trans Z0 Kc1.1
  show G T1 (mkF m 9 #[.val (.ref a), .val (.ref cb)] [])
  exact rRetV fin Jl.stb X1 hx (by decide) (by decide) hret (hb hby d1_9) (fun vm' hj => ⟨rfl, K, E_a, F_value_a, E_aL, F_value_aL, F_coder_aL, V_bL, hj⟩)
theorem d9_0 : decode jdk_31_method_11_code 0 = .ok (.aload_n 0, 1) := by decide +kernel
theorem d9_1 : decode jdk_31_method_11_code 1 = .ok (.ifnonnull 12, 3) := by decide +kernel
theorem d9_13 : decode jdk_31_method_11_code 13 = .ok (.aload_n 0, 1) := by decide +kernel
theorem d9_14 : decode jdk_31_method_11_code 14 = .ok (.areturn, 1) := by decide +kernel
theorem pn_9 : plainFor (⟨"java/util/Objects", "requireNonNull", "(Ljava/lang/Object;Ljava/lang/String;)Ljava/lang/Object;"⟩ : MethodName) = true := plainFor_of_name (by first | (simp [plainName, overriddenIn]; done) | decide +kernel)
theorem ef_9 (m : MethodId) (x0 : Addr) (x1 : Addr) : entryFrame m #[(.ref x0), (.ref x1)] 2 = mkF m 0 #[.val (.ref x0), .val (.ref x1)] [] := by first | (simp [entryFrame, mkF, argsToLocals, Value.category]; done) | rfl
theorem hy_9 : ((⟨"java/util/Objects", "requireNonNull", "(Ljava/lang/Object;Ljava/lang/String;)Ljava/lang/Object;"⟩ : MethodName)).cls ≠ "java/lang/invoke/MethodHandle" ∧ ((⟨"java/util/Objects", "requireNonNull", "(Ljava/lang/Object;Ljava/lang/String;)Ljava/lang/Object;"⟩ : MethodName)).cls ≠ "java/lang/invoke/VarHandle" := by decide
set_option maxRecDepth 65536 in
set_option maxHeartbeats 40000000 in
theorem rm9 (l : Launch) (Z : State) (a0 : Array Value) (hw : ∀ d ∈ tables_1, d.before a0 Z = true) (ws : List Jvm.Cond) (a b : Addr) (h0 : Heap) (n0 : Nat) (Z0 : n0 ≤ h0.size)  :
    Con l Z (⟨"java/util/Objects", "requireNonNull", "(Ljava/lang/Object;Ljava/lang/String;)Ljava/lang/Object;"⟩ : MethodName) jdk_31_method_11_code 2 (some (.object "java/lang/Object")) ws ({ frames := 0, cells := 0, slots := 0, locals := 0 } : Room) #[(.ref a), (.ref b)] h0 n0 (fun _ => True) (fun v h vm => v = some (.ref a) ∧ h = h0) := by
  refine Con.of pn_9 ?_
  intro G p e s m below meth c s₁ hs hx hby hml hown hnm hret hZ X0 XR hh0 hJ0 fin
  have hml : c.maxLocals = 2 := hml
  have hown : s.vm.findClass "java/util/Objects" = some m.cls := hown
  rw [ef_9]
  show G s₁ (mkF m 0 #[.val (.ref a), .val (.ref b)] [])
  refine hs.go (fun _ kk_ => XS.aloadN X0.here hx rfl (hb hby d9_0) rfl rfl kk_) ?_
  show G s₁ (mkF m 1 #[.val (.ref a), .val (.ref b)] [(.ref a)])
  refine hs.go (fun _ kk_ => XS.ifnonnullYes X0.here hx rfl (pc0 := 1) (pc' := 13) rfl (hb hby d9_1) rfl (by decide) (by decide) kk_) ?_
  show G s₁ (mkF m 13 #[.val (.ref a), .val (.ref b)] [])
  refine hs.go (fun _ kk_ => XS.aloadN X0.here hx rfl (hb hby d9_13) rfl rfl kk_) ?_
  show G s₁ (mkF m 14 #[.val (.ref a), .val (.ref b)] [(.ref a)])
  exact rRetA fin stbT X0 hx (by decide) (by decide) hret rfl rfl rfl (hb hby d9_14) (fun vm' hj => ⟨rfl, rfl⟩)
theorem d18_0 : decode prog_11_method_10_code 0 = .ok (.lload_n 0, 1) := by decide +kernel
theorem d18_1 : decode prog_11_method_10_code 1 = .ok (.lconst 0, 1) := by decide +kernel
theorem d18_2 : decode prog_11_method_10_code 2 = .ok (.lcmp, 1) := by decide +kernel
theorem d18_3 : decode prog_11_method_10_code 3 = .ok (.ifCond .ge 17, 3) := by decide +kernel
theorem d18_20 : decode prog_11_method_10_code 20 = .ok (.lload_n 0, 1) := by decide +kernel
theorem d18_21 : decode prog_11_method_10_code 21 = .ok (.lreturn, 1) := by decide +kernel
theorem pn_18 : plainFor (⟨"com/example/rowcall/rowcall/Cell", "checkTimestamp", "(J)J"⟩ : MethodName) = true := plainFor_of_name (by first | (simp [plainName, overriddenIn]; done) | decide +kernel)
theorem ef_18 (m : MethodId) (x0 : Int64) : entryFrame m #[(.long x0)] 2 = mkF m 0 #[.val (.long x0), .second] [] := by first | (simp [entryFrame, mkF, argsToLocals, Value.category]; done) | rfl
theorem hy_18 : ((⟨"com/example/rowcall/rowcall/Cell", "checkTimestamp", "(J)J"⟩ : MethodName)).cls ≠ "java/lang/invoke/MethodHandle" ∧ ((⟨"com/example/rowcall/rowcall/Cell", "checkTimestamp", "(J)J"⟩ : MethodName)).cls ≠ "java/lang/invoke/VarHandle" := by decide
set_option maxRecDepth 65536 in
set_option maxHeartbeats 40000000 in
theorem rm18 (l : Launch) (Z : State) (a0 : Array Value) (hw : ∀ d ∈ tables_1, d.before a0 Z = true) (ws : List Jvm.Cond) (x : Int64) (h0 : Heap) (n0 : Nat) (Z0 : n0 ≤ h0.size) (hq : ¬ (x < (0 : Int64))) :
    Con l Z (⟨"com/example/rowcall/rowcall/Cell", "checkTimestamp", "(J)J"⟩ : MethodName) prog_11_method_10_code 2 (some .long) ws ({ frames := 0, cells := 0, slots := 0, locals := 0 } : Room) #[(.long x)] h0 n0 (fun _ => True) (fun v h vm => v = some (.long x) ∧ h = h0) := by
  refine Con.of pn_18 ?_
  intro G p e s m below meth c s₁ hs hx hby hml hown hnm hret hZ X0 XR hh0 hJ0 fin
  have hml : c.maxLocals = 2 := hml
  have hown : s.vm.findClass "com/example/rowcall/rowcall/Cell" = some m.cls := hown
  rw [ef_18]
  show G s₁ (mkF m 0 #[.val (.long x), .second] [])
  refine hs.go (fun _ kk_ => XS.lloadN X0.here hx rfl (hb hby d18_0) rfl  kk_) ?_
  show G s₁ (mkF m 1 #[.val (.long x), .second] [(.long x)])
  refine hs.go (fun _ kk_ => XS.lconst X0.here hx rfl (hb hby d18_1) kk_) ?_
  show G s₁ (mkF m 2 #[.val (.long x), .second] [(.long (0 : Int64)), (.long x)])
  refine hs.go (fun _ kk_ => XS.lcmp X0.here hx rfl (hb hby d18_2) rfl kk_) ?_
  show G s₁ (mkF m 3 #[.val (.long x), .second] [(.int (lcmpW x (0 : Int64)))])
  refine hs.go (fun _ kk_ => XS.ifYes X0.here hx rfl (pc0 := 3) (pc' := 20) rfl (hb hby d18_3) rfl ((if0 _ _).trans (nltL (hq : ¬ (x < (0 : Int64)))).2) (by decide) (by decide) kk_) ?_
  show G s₁ (mkF m 20 #[.val (.long x), .second] [])
  refine hs.go (fun _ kk_ => XS.lloadN X0.here hx rfl (hb hby d18_20) rfl  kk_) ?_
  show G s₁ (mkF m 21 #[.val (.long x), .second] [(.long x)])
  exact rRetL fin stbT X0 hx (by decide) (by decide) hret (hb hby d18_21) (fun vm' hj => ⟨rfl, rfl⟩)
theorem d6_0 : decode prog_35_method_25_code 0 = .ok (.iload_n 0, 1) := by decide +kernel
theorem d6_1 : decode prog_35_method_25_code 1 = .ok (.iconst 2, 1) := by decide +kernel
theorem d6_2 : decode prog_35_method_25_code 2 = .ok (.if_icmp .eq 13, 3) := by decide +kernel
theorem d6_5 : decode prog_35_method_25_code 5 = .ok (.iload_n 0, 1) := by decide +kernel
theorem d6_6 : decode prog_35_method_25_code 6 = .ok (.iconst 3, 1) := by decide +kernel
theorem d6_7 : decode prog_35_method_25_code 7 = .ok (.if_icmp .eq 8, 3) := by decide +kernel
theorem d6_10 : decode prog_35_method_25_code 10 = .ok (.iload_n 0, 1) := by decide +kernel
theorem d6_11 : decode prog_35_method_25_code 11 = .ok (.iconst 4, 1) := by decide +kernel
theorem d6_12 : decode prog_35_method_25_code 12 = .ok (.if_icmp .ne 7, 3) := by decide +kernel
theorem d6_15 : decode prog_35_method_25_code 15 = .ok (.iconst 1, 1) := by decide +kernel
theorem d6_16 : decode prog_35_method_25_code 16 = .ok (.goto 4, 3) := by decide +kernel
theorem d6_19 : decode prog_35_method_25_code 19 = .ok (.iconst 0, 1) := by decide +kernel
theorem d6_20 : decode prog_35_method_25_code 20 = .ok (.ireturn, 1) := by decide +kernel
theorem pn_6 : plainFor (⟨"com/example/rowcall/rowcall/TableFiles", "isMarkerKind", "(B)Z"⟩ : MethodName) = true := plainFor_of_name (by first | (simp [plainName, overriddenIn]; done) | decide +kernel)
theorem ef_6 (m : MethodId) (x0 : Int32) : entryFrame m #[(.int x0)] 1 = mkF m 0 #[.val (.int x0)] [] := by first | (simp [entryFrame, mkF, argsToLocals, Value.category]; done) | rfl
theorem hy_6 : ((⟨"com/example/rowcall/rowcall/TableFiles", "isMarkerKind", "(B)Z"⟩ : MethodName)).cls ≠ "java/lang/invoke/MethodHandle" ∧ ((⟨"com/example/rowcall/rowcall/TableFiles", "isMarkerKind", "(B)Z"⟩ : MethodName)).cls ≠ "java/lang/invoke/VarHandle" := by decide
set_option maxRecDepth 65536 in
set_option maxHeartbeats 40000000 in
theorem rm6 (l : Launch) (Z : State) (a0 : Array Value) (hw : ∀ d ∈ tables_1, d.before a0 Z = true) (ws : List Jvm.Cond) (x : Int32) (h0 : Heap) (n0 : Nat) (Z0 : n0 ≤ h0.size)  :
    Con l Z (⟨"com/example/rowcall/rowcall/TableFiles", "isMarkerKind", "(B)Z"⟩ : MethodName) prog_35_method_25_code 1 (some .boolean) ws ({ frames := 0, cells := 0, slots := 0, locals := 0 } : Room) #[(.int x)] h0 n0 (fun _ => True) (fun v h vm => v = some (.int (fmk x)) ∧ h = h0) := by
  refine Con.of pn_6 ?_
  intro G p e s m below meth c s₁ hs hx hby hml hown hnm hret hZ X0 XR hh0 hJ0 fin
  have hml : c.maxLocals = 1 := hml
  have hown : s.vm.findClass "com/example/rowcall/rowcall/TableFiles" = some m.cls := hown
  rw [ef_6]
  show G s₁ (mkF m 0 #[.val (.int x)] [])
  refine hs.go (fun _ kk_ => XS.iloadN X0.here hx rfl (hb hby d6_0) rfl  kk_) ?_
  show G s₁ (mkF m 1 #[.val (.int x)] [(.int x)])
  refine hs.go (fun _ kk_ => XS.iconst X0.here hx rfl (hb hby d6_1) kk_) ?_
  show G s₁ (mkF m 2 #[.val (.int x)] [(.int (2 : Int32)), (.int x)])
  by_cases c2 : x = (2 : Int32)
  · refine hs.go (fun _ kk_ => XS.icmpYes X0.here hx rfl (pc0 := 2) (pc' := 15) rfl (hb hby d6_2) rfl (teq c2).1 (by decide) (by decide) kk_) ?_
    show G s₁ (mkF m 15 #[.val (.int x)] [])
    refine hs.go (fun _ kk_ => XS.iconst X0.here hx rfl (hb hby d6_15) kk_) ?_
    show G s₁ (mkF m 16 #[.val (.int x)] [(.int (1 : Int32))])
    refine hs.go (fun _ kk_ => XS.goto X0.here hx rfl (pc0 := 16) (pc' := 20) rfl (hb hby d6_16) (by decide) (by decide) kk_) ?_
    show G s₁ (mkF m 20 #[.val (.int x)] [(.int (1 : Int32))])
    exact rRetN fin stbT X0 hx (by decide) (by decide) hret (by simp) (hb hby d6_20) (z' := (1 : Int32)) (by decide) (fun vm' hj => ⟨by rw [fmk, if_pos c2], rfl⟩)
  · refine hs.go (fun _ kk_ => XS.icmpNo X0.here hx rfl (hb hby d6_2) rfl (feq c2).1 kk_) ?_
    show G s₁ (mkF m 5 #[.val (.int x)] [])
    refine hs.go (fun _ kk_ => XS.iloadN X0.here hx rfl (hb hby d6_5) rfl  kk_) ?_
    show G s₁ (mkF m 6 #[.val (.int x)] [(.int x)])
    refine hs.go (fun _ kk_ => XS.iconst X0.here hx rfl (hb hby d6_6) kk_) ?_
    show G s₁ (mkF m 7 #[.val (.int x)] [(.int (3 : Int32)), (.int x)])
    by_cases c7 : x = (3 : Int32)
    · refine hs.go (fun _ kk_ => XS.icmpYes X0.here hx rfl (pc0 := 7) (pc' := 15) rfl (hb hby d6_7) rfl (teq c7).1 (by decide) (by decide) kk_) ?_
      show G s₁ (mkF m 15 #[.val (.int x)] [])
      refine hs.go (fun _ kk_ => XS.iconst X0.here hx rfl (hb hby d6_15) kk_) ?_
      show G s₁ (mkF m 16 #[.val (.int x)] [(.int (1 : Int32))])
      refine hs.go (fun _ kk_ => XS.goto X0.here hx rfl (pc0 := 16) (pc' := 20) rfl (hb hby d6_16) (by decide) (by decide) kk_) ?_
      show G s₁ (mkF m 20 #[.val (.int x)] [(.int (1 : Int32))])
      exact rRetN fin stbT X0 hx (by decide) (by decide) hret (by simp) (hb hby d6_20) (z' := (1 : Int32)) (by decide) (fun vm' hj => ⟨by rw [fmk, if_neg c2, if_pos c7], rfl⟩)
    · refine hs.go (fun _ kk_ => XS.icmpNo X0.here hx rfl (hb hby d6_7) rfl (feq c7).1 kk_) ?_
      show G s₁ (mkF m 10 #[.val (.int x)] [])
      refine hs.go (fun _ kk_ => XS.iloadN X0.here hx rfl (hb hby d6_10) rfl  kk_) ?_
      show G s₁ (mkF m 11 #[.val (.int x)] [(.int x)])
      refine hs.go (fun _ kk_ => XS.iconst X0.here hx rfl (hb hby d6_11) kk_) ?_
      show G s₁ (mkF m 12 #[.val (.int x)] [(.int (4 : Int32)), (.int x)])
      by_cases c12 : x = (4 : Int32)
      · refine hs.go (fun _ kk_ => XS.icmpNo X0.here hx rfl (hb hby d6_12) rfl (teq c12).2 kk_) ?_
        show G s₁ (mkF m 15 #[.val (.int x)] [])
        refine hs.go (fun _ kk_ => XS.iconst X0.here hx rfl (hb hby d6_15) kk_) ?_
        show G s₁ (mkF m 16 #[.val (.int x)] [(.int (1 : Int32))])
        refine hs.go (fun _ kk_ => XS.goto X0.here hx rfl (pc0 := 16) (pc' := 20) rfl (hb hby d6_16) (by decide) (by decide) kk_) ?_
        show G s₁ (mkF m 20 #[.val (.int x)] [(.int (1 : Int32))])
        exact rRetN fin stbT X0 hx (by decide) (by decide) hret (by simp) (hb hby d6_20) (z' := (1 : Int32)) (by decide) (fun vm' hj => ⟨by rw [fmk, if_neg c2, if_neg c7, if_pos c12], rfl⟩)
      · refine hs.go (fun _ kk_ => XS.icmpYes X0.here hx rfl (pc0 := 12) (pc' := 19) rfl (hb hby d6_12) rfl (feq c12).2 (by decide) (by decide) kk_) ?_
        show G s₁ (mkF m 19 #[.val (.int x)] [])
        refine hs.go (fun _ kk_ => XS.iconst X0.here hx rfl (hb hby d6_19) kk_) ?_
        show G s₁ (mkF m 20 #[.val (.int x)] [(.int (0 : Int32))])
        exact rRetN fin stbT X0 hx (by decide) (by decide) hret (by simp) (hb hby d6_20) (z' := (0 : Int32)) (by decide) (fun vm' hj => ⟨by rw [fmk, if_neg c2, if_neg c7, if_neg c12], rfl⟩)
theorem d5_0 : decode prog_35_method_24_code 0 = .ok (.aload_n 0, 1) := by decide +kernel
theorem d5_1 : decode prog_35_method_24_code 1 = .ok (.getfield 501, 3) := by decide +kernel
theorem d5_4 : decode prog_35_method_24_code 4 = .ok (.getfield 507, 3) := by decide +kernel
theorem d5_7 : decode prog_35_method_24_code 7 = .ok (.ifnonnull 8, 3) := by decide +kernel
theorem d5_10 : decode prog_35_method_24_code 10 = .ok (.iconst 2, 1) := by decide +kernel
theorem d5_11 : decode prog_35_method_24_code 11 = .ok (.istore_n 1, 1) := by decide +kernel
theorem d5_12 : decode prog_35_method_24_code 12 = .ok (.goto 20, 3) := by decide +kernel
theorem d5_32 : decode prog_35_method_24_code 32 = .ok (.iload_n 1, 1) := by decide +kernel
theorem d5_33 : decode prog_35_method_24_code 33 = .ok (.ireturn, 1) := by decide +kernel
theorem pn_5 : plainFor (⟨"com/example/rowcall/rowcall/TableFiles", "markerKind", "(Lcom/example/rowcall/rowcall/DeleteMarker;)B"⟩ : MethodName) = true := plainFor_of_name (by first | (simp [plainName, overriddenIn]; done) | decide +kernel)
theorem ef_5 (m : MethodId) (x0 : Addr) : entryFrame m #[(.ref x0)] 2 = mkF m 0 #[.val (.ref x0), .unset] [] := by first | (simp [entryFrame, mkF, argsToLocals, Value.category]; done) | rfl
theorem hy_5 : ((⟨"com/example/rowcall/rowcall/TableFiles", "markerKind", "(Lcom/example/rowcall/rowcall/DeleteMarker;)B"⟩ : MethodName)).cls ≠ "java/lang/invoke/MethodHandle" ∧ ((⟨"com/example/rowcall/rowcall/TableFiles", "markerKind", "(Lcom/example/rowcall/rowcall/DeleteMarker;)B"⟩ : MethodName)).cls ≠ "java/lang/invoke/VarHandle" := by decide
set_option maxRecDepth 65536 in
set_option maxHeartbeats 40000000 in
theorem mk_2 (l : Launch) (Z : State) (a0 : Array Value) (hw : ∀ d ∈ tables_1, d.before a0 Z = true) (ws : List Jvm.Cond) (a cc f q : Addr) (h0 : Heap) (n0 : Nat) (Z0 : n0 ≤ h0.size) (F_columns_a : Fld Z h0 a "com/example/rowcall/rowcall/DeleteMarker" "columns" "Lcom/example/rowcall/rowcall/Columns;" (.ref cc)) (F_family_cc : Fld Z h0 cc "com/example/rowcall/rowcall/Columns" "family" "Ljava/lang/String;" .null) :
    Con l Z (⟨"com/example/rowcall/rowcall/TableFiles", "markerKind", "(Lcom/example/rowcall/rowcall/DeleteMarker;)B"⟩ : MethodName) prog_35_method_24_code 2 (some .byte) ws ({ frames := 0, cells := 0, slots := 0, locals := 0 } : Room) #[(.ref a)] h0 n0 (fun _ => True) (fun v h vm => v = some (.int (2 : Int32)) ∧ h = h0) := by
  refine Con.of pn_5 ?_
  intro G p e s m below meth c s₁ hs hx hby hml hown hnm hret hZ X0 XR hh0 hJ0 fin
  have hml : c.maxLocals = 2 := hml
  have hown : s.vm.findClass "com/example/rowcall/rowcall/TableFiles" = some m.cls := hown
  rw [ef_5]
  show G s₁ (mkF m 0 #[.val (.ref a), .unset] [])
  refine hs.go (fun _ kk_ => XS.aloadN X0.here hx rfl (hb hby d5_0) rfl rfl kk_) ?_
  show G s₁ (mkF m 1 #[.val (.ref a), .unset] [(.ref a)])
  refine rGetF hs X0 hx hZ hown (host := "") (Or.inl (hw _ (List.mem_of_getElem? (i := 34) rfl))) Via.refl F_columns_a rfl rfl (hb hby d5_1) (fun T1 X1 => ?_)
  show G T1 (mkF m 4 #[.val (.ref a), .unset] [(.ref cc)])
  refine rGetF hs X1 hx hZ hown (host := "") (Or.inl (hw _ (List.mem_of_getElem? (i := 36) rfl))) Via.refl F_family_cc rfl rfl (hb hby d5_4) (fun T2 X2 => ?_)
  show G T2 (mkF m 7 #[.val (.ref a), .unset] [.null])
  refine hs.go (fun _ kk_ => XS.ifnonnullNo X2.here hx rfl (hb hby d5_7) rfl kk_) ?_
  show G T2 (mkF m 10 #[.val (.ref a), .unset] [])
  refine hs.go (fun _ kk_ => XS.iconst X2.here hx rfl (hb hby d5_10) kk_) ?_
  show G T2 (mkF m 11 #[.val (.ref a), .unset] [(.int (2 : Int32))])
  refine hs.go (fun _ kk_ => XS.istoreN X2.here hx rfl (hb hby d5_11) rfl (l' := #[.val (.ref a), .val (.int (2 : Int32))]) rfl kk_) ?_
  show G T2 (mkF m 12 #[.val (.ref a), .val (.int (2 : Int32))] [])
  refine hs.go (fun _ kk_ => XS.goto X2.here hx rfl (pc0 := 12) (pc' := 32) rfl (hb hby d5_12) (by decide) (by decide) kk_) ?_
  show G T2 (mkF m 32 #[.val (.ref a), .val (.int (2 : Int32))] [])
  refine hs.go (fun _ kk_ => XS.iloadN X2.here hx rfl (hb hby d5_32) rfl  kk_) ?_
  show G T2 (mkF m 33 #[.val (.ref a), .val (.int (2 : Int32))] [(.int (2 : Int32))])
  exact rRetN fin stbT X2 hx (by decide) (by decide) hret (by simp) (hb hby d5_33) (z' := (2 : Int32)) (by decide) (fun vm' hj => ⟨rfl, rfl⟩)
theorem d5_15 : decode prog_35_method_24_code 15 = .ok (.aload_n 0, 1) := by decide +kernel
theorem d5_16 : decode prog_35_method_24_code 16 = .ok (.getfield 501, 3) := by decide +kernel
theorem d5_19 : decode prog_35_method_24_code 19 = .ok (.getfield 510, 3) := by decide +kernel
theorem d5_22 : decode prog_35_method_24_code 22 = .ok (.ifnonnull 8, 3) := by decide +kernel
theorem d5_25 : decode prog_35_method_24_code 25 = .ok (.iconst 3, 1) := by decide +kernel
theorem d5_26 : decode prog_35_method_24_code 26 = .ok (.istore_n 1, 1) := by decide +kernel
theorem d5_27 : decode prog_35_method_24_code 27 = .ok (.goto 5, 3) := by decide +kernel
set_option maxRecDepth 65536 in
set_option maxHeartbeats 40000000 in
theorem mk_3 (l : Launch) (Z : State) (a0 : Array Value) (hw : ∀ d ∈ tables_1, d.before a0 Z = true) (ws : List Jvm.Cond) (a cc f q : Addr) (h0 : Heap) (n0 : Nat) (Z0 : n0 ≤ h0.size) (F_columns_a : Fld Z h0 a "com/example/rowcall/rowcall/DeleteMarker" "columns" "Lcom/example/rowcall/rowcall/Columns;" (.ref cc)) (F_family_cc : Fld Z h0 cc "com/example/rowcall/rowcall/Columns" "family" "Ljava/lang/String;" (.ref f)) (F_qualifier_cc : Fld Z h0 cc "com/example/rowcall/rowcall/Columns" "qualifier" "[B" .null) :
    Con l Z (⟨"com/example/rowcall/rowcall/TableFiles", "markerKind", "(Lcom/example/rowcall/rowcall/DeleteMarker;)B"⟩ : MethodName) prog_35_method_24_code 2 (some .byte) ws ({ frames := 0, cells := 0, slots := 0, locals := 0 } : Room) #[(.ref a)] h0 n0 (fun _ => True) (fun v h vm => v = some (.int (3 : Int32)) ∧ h = h0) := by
  refine Con.of pn_5 ?_
  intro G p e s m below meth c s₁ hs hx hby hml hown hnm hret hZ X0 XR hh0 hJ0 fin
  have hml : c.maxLocals = 2 := hml
  have hown : s.vm.findClass "com/example/rowcall/rowcall/TableFiles" = some m.cls := hown
  rw [ef_5]
  show G s₁ (mkF m 0 #[.val (.ref a), .unset] [])
  refine hs.go (fun _ kk_ => XS.aloadN X0.here hx rfl (hb hby d5_0) rfl rfl kk_) ?_
  show G s₁ (mkF m 1 #[.val (.ref a), .unset] [(.ref a)])
  refine rGetF hs X0 hx hZ hown (host := "") (Or.inl (hw _ (List.mem_of_getElem? (i := 34) rfl))) Via.refl F_columns_a rfl rfl (hb hby d5_1) (fun T1 X1 => ?_)
  show G T1 (mkF m 4 #[.val (.ref a), .unset] [(.ref cc)])
  refine rGetF hs X1 hx hZ hown (host := "") (Or.inl (hw _ (List.mem_of_getElem? (i := 36) rfl))) Via.refl F_family_cc rfl rfl (hb hby d5_4) (fun T2 X2 => ?_)
  show G T2 (mkF m 7 #[.val (.ref a), .unset] [(.ref f)])
  refine hs.go (fun _ kk_ => XS.ifnonnullYes X2.here hx rfl (pc0 := 7) (pc' := 15) rfl (hb hby d5_7) rfl (by decide) (by decide) kk_) ?_
  show G T2 (mkF m 15 #[.val (.ref a), .unset] [])
  refine hs.go (fun _ kk_ => XS.aloadN X2.here hx rfl (hb hby d5_15) rfl rfl kk_) ?_
  show G T2 (mkF m 16 #[.val (.ref a), .unset] [(.ref a)])
  refine rGetF hs X2 hx hZ hown (host := "") (Or.inl (hw _ (List.mem_of_getElem? (i := 34) rfl))) Via.refl F_columns_a rfl rfl (hb hby d5_16) (fun T3 X3 => ?_)
  show G T3 (mkF m 19 #[.val (.ref a), .unset] [(.ref cc)])
  refine rGetF hs X3 hx hZ hown (host := "") (Or.inl (hw _ (List.mem_of_getElem? (i := 73) rfl))) Via.refl F_qualifier_cc rfl rfl (hb hby d5_19) (fun T4 X4 => ?_)
  show G T4 (mkF m 22 #[.val (.ref a), .unset] [.null])
  refine hs.go (fun _ kk_ => XS.ifnonnullNo X4.here hx rfl (hb hby d5_22) rfl kk_) ?_
  show G T4 (mkF m 25 #[.val (.ref a), .unset] [])
  refine hs.go (fun _ kk_ => XS.iconst X4.here hx rfl (hb hby d5_25) kk_) ?_
  show G T4 (mkF m 26 #[.val (.ref a), .unset] [(.int (3 : Int32))])
  refine hs.go (fun _ kk_ => XS.istoreN X4.here hx rfl (hb hby d5_26) rfl (l' := #[.val (.ref a), .val (.int (3 : Int32))]) rfl kk_) ?_
  show G T4 (mkF m 27 #[.val (.ref a), .val (.int (3 : Int32))] [])
  refine hs.go (fun _ kk_ => XS.goto X4.here hx rfl (pc0 := 27) (pc' := 32) rfl (hb hby d5_27) (by decide) (by decide) kk_) ?_
  show G T4 (mkF m 32 #[.val (.ref a), .val (.int (3 : Int32))] [])
  refine hs.go (fun _ kk_ => XS.iloadN X4.here hx rfl (hb hby d5_32) rfl  kk_) ?_
  show G T4 (mkF m 33 #[.val (.ref a), .val (.int (3 : Int32))] [(.int (3 : Int32))])
  exact rRetN fin stbT X4 hx (by decide) (by decide) hret (by simp) (hb hby d5_33) (z' := (3 : Int32)) (by decide) (fun vm' hj => ⟨rfl, rfl⟩)
theorem d5_30 : decode prog_35_method_24_code 30 = .ok (.iconst 4, 1) := by decide +kernel
theorem d5_31 : decode prog_35_method_24_code 31 = .ok (.istore_n 1, 1) := by decide +kernel
set_option maxRecDepth 65536 in
set_option maxHeartbeats 40000000 in
theorem mk_4 (l : Launch) (Z : State) (a0 : Array Value) (hw : ∀ d ∈ tables_1, d.before a0 Z = true) (ws : List Jvm.Cond) (a cc f q : Addr) (h0 : Heap) (n0 : Nat) (Z0 : n0 ≤ h0.size) (F_columns_a : Fld Z h0 a "com/example/rowcall/rowcall/DeleteMarker" "columns" "Lcom/example/rowcall/rowcall/Columns;" (.ref cc)) (F_family_cc : Fld Z h0 cc "com/example/rowcall/rowcall/Columns" "family" "Ljava/lang/String;" (.ref f)) (F_qualifier_cc : Fld Z h0 cc "com/example/rowcall/rowcall/Columns" "qualifier" "[B" (.ref q)) :
    Con l Z (⟨"com/example/rowcall/rowcall/TableFiles", "markerKind", "(Lcom/example/rowcall/rowcall/DeleteMarker;)B"⟩ : MethodName) prog_35_method_24_code 2 (some .byte) ws ({ frames := 0, cells := 0, slots := 0, locals := 0 } : Room) #[(.ref a)] h0 n0 (fun _ => True) (fun v h vm => v = some (.int (4 : Int32)) ∧ h = h0) := by
  refine Con.of pn_5 ?_
  intro G p e s m below meth c s₁ hs hx hby hml hown hnm hret hZ X0 XR hh0 hJ0 fin
  have hml : c.maxLocals = 2 := hml
  have hown : s.vm.findClass "com/example/rowcall/rowcall/TableFiles" = some m.cls := hown
  rw [ef_5]
  show G s₁ (mkF m 0 #[.val (.ref a), .unset] [])
  refine hs.go (fun _ kk_ => XS.aloadN X0.here hx rfl (hb hby d5_0) rfl rfl kk_) ?_
  show G s₁ (mkF m 1 #[.val (.ref a), .unset] [(.ref a)])
  refine rGetF hs X0 hx hZ hown (host := "") (Or.inl (hw _ (List.mem_of_getElem? (i := 34) rfl))) Via.refl F_columns_a rfl rfl (hb hby d5_1) (fun T1 X1 => ?_)
  show G T1 (mkF m 4 #[.val (.ref a), .unset] [(.ref cc)])
  refine rGetF hs X1 hx hZ hown (host := "") (Or.inl (hw _ (List.mem_of_getElem? (i := 36) rfl))) Via.refl F_family_cc rfl rfl (hb hby d5_4) (fun T2 X2 => ?_)
  show G T2 (mkF m 7 #[.val (.ref a), .unset] [(.ref f)])
  refine hs.go (fun _ kk_ => XS.ifnonnullYes X2.here hx rfl (pc0 := 7) (pc' := 15) rfl (hb hby d5_7) rfl (by decide) (by decide) kk_) ?_
  show G T2 (mkF m 15 #[.val (.ref a), .unset] [])
  refine hs.go (fun _ kk_ => XS.aloadN X2.here hx rfl (hb hby d5_15) rfl rfl kk_) ?_
  show G T2 (mkF m 16 #[.val (.ref a), .unset] [(.ref a)])
  refine rGetF hs X2 hx hZ hown (host := "") (Or.inl (hw _ (List.mem_of_getElem? (i := 34) rfl))) Via.refl F_columns_a rfl rfl (hb hby d5_16) (fun T3 X3 => ?_)
  show G T3 (mkF m 19 #[.val (.ref a), .unset] [(.ref cc)])
  refine rGetF hs X3 hx hZ hown (host := "") (Or.inl (hw _ (List.mem_of_getElem? (i := 73) rfl))) Via.refl F_qualifier_cc rfl rfl (hb hby d5_19) (fun T4 X4 => ?_)
  show G T4 (mkF m 22 #[.val (.ref a), .unset] [(.ref q)])
  refine hs.go (fun _ kk_ => XS.ifnonnullYes X4.here hx rfl (pc0 := 22) (pc' := 30) rfl (hb hby d5_22) rfl (by decide) (by decide) kk_) ?_
  show G T4 (mkF m 30 #[.val (.ref a), .unset] [])
  refine hs.go (fun _ kk_ => XS.iconst X4.here hx rfl (hb hby d5_30) kk_) ?_
  show G T4 (mkF m 31 #[.val (.ref a), .unset] [(.int (4 : Int32))])
  refine hs.go (fun _ kk_ => XS.istoreN X4.here hx rfl (hb hby d5_31) rfl (l' := #[.val (.ref a), .val (.int (4 : Int32))]) rfl kk_) ?_
  show G T4 (mkF m 32 #[.val (.ref a), .val (.int (4 : Int32))] [])
  refine hs.go (fun _ kk_ => XS.iloadN X4.here hx rfl (hb hby d5_32) rfl  kk_) ?_
  show G T4 (mkF m 33 #[.val (.ref a), .val (.int (4 : Int32))] [(.int (4 : Int32))])
  exact rRetN fin stbT X4 hx (by decide) (by decide) hret (by simp) (hb hby d5_33) (z' := (4 : Int32)) (by decide) (fun vm' hj => ⟨rfl, rfl⟩)
theorem d10_0 : decode prog_12_method_1_code 0 = .ok (.aload_n 0, 1) := by decide +kernel
theorem d10_1 : decode prog_12_method_1_code 1 = .ok (.invokespecial 1, 3) := by decide +kernel
theorem d10_4 : decode prog_12_method_1_code 4 = .ok (.aload_n 0, 1) := by decide +kernel
theorem d10_5 : decode prog_12_method_1_code 5 = .ok (.aload_n 1, 1) := by decide +kernel
theorem d10_6 : decode prog_12_method_1_code 6 = .ok (.putfield 7, 3) := by decide +kernel
theorem d10_9 : decode prog_12_method_1_code 9 = .ok (.aload_n 0, 1) := by decide +kernel
theorem d10_10 : decode prog_12_method_1_code 10 = .ok (.aload_n 2, 1) := by decide +kernel
theorem d10_11 : decode prog_12_method_1_code 11 = .ok (.putfield 13, 3) := by decide +kernel
theorem d10_14 : decode prog_12_method_1_code 14 = .ok (.return_, 1) := by decide +kernel
theorem pn_10 : plainFor (⟨"com/example/rowcall/rowcall/Columns", "<init>", "(Ljava/lang/String;[B)V"⟩ : MethodName) = true := plainFor_of_name (by first | (simp [plainName, overriddenIn]; done) | decide +kernel)
theorem ef_10 (m : MethodId) (x0 : Addr) (x1 : Addr) (x2 : Addr) : entryFrame m #[(.ref x0), (.ref x1), (.ref x2)] 3 = mkF m 0 #[.val (.ref x0), .val (.ref x1), .val (.ref x2)] [] := by first | (simp [entryFrame, mkF, argsToLocals, Value.category]; done) | rfl
theorem hy_10 : ((⟨"com/example/rowcall/rowcall/Columns", "<init>", "(Ljava/lang/String;[B)V"⟩ : MethodName)).cls ≠ "java/lang/invoke/MethodHandle" ∧ ((⟨"com/example/rowcall/rowcall/Columns", "<init>", "(Ljava/lang/String;[B)V"⟩ : MethodName)).cls ≠ "java/lang/invoke/VarHandle" := by decide
set_option maxRecDepth 65536 in
set_option maxHeartbeats 40000000 in
theorem ci_q (l : Launch) (Z : State) (a0 : Array Value) (hw : ∀ d ∈ tables_1, d.before a0 Z = true) (ws : List Jvm.Cond) (a f q : Addr) (h0 : Heap) (n0 : Nat) (Z0 : n0 ≤ h0.size) (E_a : Exa Z h0 a "com/example/rowcall/rowcall/Columns") (g_a : n0 ≤ a) (F_family_a : Fld Z h0 a "com/example/rowcall/rowcall/Columns" "family" "Ljava/lang/String;" .null) (F_qualifier_a : Fld Z h0 a "com/example/rowcall/rowcall/Columns" "qualifier" "[B" .null) :
    Con l Z (⟨"com/example/rowcall/rowcall/Columns", "<init>", "(Ljava/lang/String;[B)V"⟩ : MethodName) prog_12_method_1_code 3 none ws ({ frames := 1, cells := 0, slots := 0, locals := 12 } : Room) #[(.ref a), (.ref f), (.ref q)] h0 n0 (fun _ => True) (fun v h vm => v = none ∧ Keep h0 h [a] ∧ Exa Z h a "com/example/rowcall/rowcall/Columns" ∧ Fld Z h a "com/example/rowcall/rowcall/Columns" "family" "Ljava/lang/String;" (.ref f) ∧ Fld Z h a "com/example/rowcall/rowcall/Columns" "qualifier" "[B" (.ref q)) := by
  refine Con.of pn_10 ?_
  intro G p e s m below meth c s₁ hs hx hby hml hown hnm hret hZ X0 XR hh0 hJ0 fin
  have hml : c.maxLocals = 3 := hml
  have hown : s.vm.findClass "com/example/rowcall/rowcall/Columns" = some m.cls := hown
  rw [ef_10]
  have K := Keep.refl h0 ([a] : List Addr)
  have Ksz := K.1
  show G s₁ (mkF m 0 #[.val (.ref a), .val (.ref f), .val (.ref q)] [])
  refine hs.go (fun _ kk_ => XS.aloadN X0.here hx rfl (hb hby d10_0) rfl rfl kk_) ?_
  show G s₁ (mkF m 1 #[.val (.ref a), .val (.ref f), .val (.ref q)] [(.ref a)])
  refine rInitO hs X0 hx hZ hown (hw _ (List.mem_of_getElem? (i := 61) rfl)) (hw _ (List.mem_of_getElem? (i := 14) rfl)) (hw _ (List.mem_of_getElem? (i := 15) rfl)) rfl (by rw [hml]; rfl) rfl (hb hby d10_1) (by decide) (W := 0) (by show 2 * 0 + _ ≤ _; exact Nat.le_of_eq rfl) (by decide) (fun T1 X1 => ?_)
  show G T1 (mkF m 4 #[.val (.ref a), .val (.ref f), .val (.ref q)] [])
  refine hs.go (fun _ kk_ => XS.aloadN X1.here hx rfl (hb hby d10_4) rfl rfl kk_) ?_
  show G T1 (mkF m 5 #[.val (.ref a), .val (.ref f), .val (.ref q)] [(.ref a)])
  refine hs.go (fun _ kk_ => XS.aloadN X1.here hx rfl (hb hby d10_5) rfl rfl kk_) ?_
  show G T1 (mkF m 6 #[.val (.ref a), .val (.ref f), .val (.ref q)] [(.ref f), (.ref a)])
  refine rPutF hs X1 hx hZ (.object "java/lang/String") hown (host := "") (Or.inl (hw _ (List.mem_of_getElem? (i := 62) rfl))) Via.refl F_family_a E_a g_a (Or.inr ⟨(hw _ (List.mem_of_getElem? (i := 37) rfl)), rfl, hnm⟩) (hw _ (List.mem_of_getElem? (i := 51) rfl)) (by decide) rfl rfl rfl rfl (hb hby d10_6) (fun T2 h2 X2 W2 F_family_a => ?_)
  have E_a := E_a.wr W2
  have F_qualifier_a := F_qualifier_a.other W2 (Or.inr (slot_ne (Or.inr (hw _ (List.mem_of_getElem? (i := 64) rfl))) (Or.inr (hw _ (List.mem_of_getElem? (i := 37) rfl))) (by decide) (t := (.array .byte)) (t' := (.object "java/lang/String")) (by decide) (by decide)))
  have K := K.wr W2 (Or.inl (by simp))
  have Ksz := K.1
  have Z0 := Nat.le_trans Z0 (Keep.of_wr W2).1
  show G T2 (mkF m 9 #[.val (.ref a), .val (.ref f), .val (.ref q)] [])
  refine hs.go (fun _ kk_ => XS.aloadN X2.here hx rfl (hb hby d10_9) rfl rfl kk_) ?_
  show G T2 (mkF m 10 #[.val (.ref a), .val (.ref f), .val (.ref q)] [(.ref a)])
  refine hs.go (fun _ kk_ => XS.aloadN X2.here hx rfl (hb hby d10_10) rfl rfl kk_) ?_
  show G T2 (mkF m 11 #[.val (.ref a), .val (.ref f), .val (.ref q)] [(.ref q), (.ref a)])
  refine rPutF hs X2 hx hZ (.array .byte) hown (host := "") (Or.inl (hw _ (List.mem_of_getElem? (i := 63) rfl))) Via.refl F_qualifier_a E_a g_a (Or.inr ⟨(hw _ (List.mem_of_getElem? (i := 64) rfl)), rfl, hnm⟩) (hw _ (List.mem_of_getElem? (i := 51) rfl)) (by decide) rfl rfl rfl rfl (hb hby d10_11) (fun T3 h3 X3 W3 F_qualifier_a => ?_)
  have E_a := E_a.wr W3
  have F_family_a := F_family_a.other W3 (Or.inr (slot_ne (Or.inr (hw _ (List.mem_of_getElem? (i := 37) rfl))) (Or.inr (hw _ (List.mem_of_getElem? (i := 64) rfl))) (by decide) (t := (.object "java/lang/String")) (t' := (.array .byte)) (by decide) (by decide)))
  have K := K.wr W3 (Or.inl (by simp))
  have Ksz := K.1
  have Z0 := Nat.le_trans Z0 (Keep.of_wr W3).1
  show G T3 (mkF m 14 #[.val (.ref a), .val (.ref f), .val (.ref q)] [])
  exact rRetV fin stbT X3 hx (by decide) (by decide) hret (hb hby d10_14) (fun vm' hj => ⟨rfl, K, E_a, F_family_a, F_qualifier_a⟩)
theorem ef_10_xxn (m : MethodId) (x0 : Addr) (x1 : Addr) : entryFrame m #[(.ref x0), (.ref x1), .null] 3 = mkF m 0 #[.val (.ref x0), .val (.ref x1), .val .null] [] := by first | (simp [entryFrame, mkF, argsToLocals, Value.category]; done) | rfl
set_option maxRecDepth 65536 in
set_option maxHeartbeats 40000000 in
theorem ci_n (l : Launch) (Z : State) (a0 : Array Value) (hw : ∀ d ∈ tables_1, d.before a0 Z = true) (ws : List Jvm.Cond) (a f : Addr) (h0 : Heap) (n0 : Nat) (Z0 : n0 ≤ h0.size) (E_a : Exa Z h0 a "com/example/rowcall/rowcall/Columns") (g_a : n0 ≤ a) (F_family_a : Fld Z h0 a "com/example/rowcall/rowcall/Columns" "family" "Ljava/lang/String;" .null) (F_qualifier_a : Fld Z h0 a "com/example/rowcall/rowcall/Columns" "qualifier" "[B" .null) :
    Con l Z (⟨"com/example/rowcall/rowcall/Columns", "<init>", "(Ljava/lang/String;[B)V"⟩ : MethodName) prog_12_method_1_code 3 none ws ({ frames := 1, cells := 0, slots := 0, locals := 12 } : Room) #[(.ref a), (.ref f), .null] h0 n0 (fun _ => True) (fun v h vm => v = none ∧ Keep h0 h [a] ∧ Exa Z h a "com/example/rowcall/rowcall/Columns" ∧ Fld Z h a "com/example/rowcall/rowcall/Columns" "family" "Ljava/lang/String;" (.ref f) ∧ Fld Z h a "com/example/rowcall/rowcall/Columns" "qualifier" "[B" .null) := by
  refine Con.of pn_10 ?_
  intro G p e s m below meth c s₁ hs hx hby hml hown hnm hret hZ X0 XR hh0 hJ0 fin
  have hml : c.maxLocals = 3 := hml
  have hown : s.vm.findClass "com/example/rowcall/rowcall/Columns" = some m.cls := hown
  rw [ef_10_xxn]
  have K := Keep.refl h0 ([a] : List Addr)
  have Ksz := K.1
  show G s₁ (mkF m 0 #[.val (.ref a), .val (.ref f), .val .null] [])
  refine hs.go (fun _ kk_ => XS.aloadN X0.here hx rfl (hb hby d10_0) rfl rfl kk_) ?_
  show G s₁ (mkF m 1 #[.val (.ref a), .val (.ref f), .val .null] [(.ref a)])
  refine rInitO hs X0 hx hZ hown (hw _ (List.mem_of_getElem? (i := 61) rfl)) (hw _ (List.mem_of_getElem? (i := 14) rfl)) (hw _ (List.mem_of_getElem? (i := 15) rfl)) rfl (by rw [hml]; rfl) rfl (hb hby d10_1) (by decide) (W := 0) (by show 2 * 0 + _ ≤ _; exact Nat.le_of_eq rfl) (by decide) (fun T1 X1 => ?_)
  show G T1 (mkF m 4 #[.val (.ref a), .val (.ref f), .val .null] [])
  refine hs.go (fun _ kk_ => XS.aloadN X1.here hx rfl (hb hby d10_4) rfl rfl kk_) ?_
  show G T1 (mkF m 5 #[.val (.ref a), .val (.ref f), .val .null] [(.ref a)])
  refine hs.go (fun _ kk_ => XS.aloadN X1.here hx rfl (hb hby d10_5) rfl rfl kk_) ?_
  show G T1 (mkF m 6 #[.val (.ref a), .val (.ref f), .val .null] [(.ref f), (.ref a)])
  refine rPutF hs X1 hx hZ (.object "java/lang/String") hown (host := "") (Or.inl (hw _ (List.mem_of_getElem? (i := 62) rfl))) Via.refl F_family_a E_a g_a (Or.inr ⟨(hw _ (List.mem_of_getElem? (i := 37) rfl)), rfl, hnm⟩) (hw _ (List.mem_of_getElem? (i := 51) rfl)) (by decide) rfl rfl rfl rfl (hb hby d10_6) (fun T2 h2 X2 W2 F_family_a => ?_)
  have E_a := E_a.wr W2
  have F_qualifier_a := F_qualifier_a.other W2 (Or.inr (slot_ne (Or.inr (hw _ (List.mem_of_getElem? (i := 64) rfl))) (Or.inr (hw _ (List.mem_of_getElem? (i := 37) rfl))) (by decide) (t := (.array .byte)) (t' := (.object "java/lang/String")) (by decide) (by decide)))
  have K := K.wr W2 (Or.inl (by simp))
  have Ksz := K.1
  have Z0 := Nat.le_trans Z0 (Keep.of_wr W2).1
  show G T2 (mkF m 9 #[.val (.ref a), .val (.ref f), .val .null] [])
  refine hs.go (fun _ kk_ => XS.aloadN X2.here hx rfl (hb hby d10_9) rfl rfl kk_) ?_
  show G T2 (mkF m 10 #[.val (.ref a), .val (.ref f), .val .null] [(.ref a)])
  refine hs.go (fun _ kk_ => XS.aloadN X2.here hx rfl (hb hby d10_10) rfl rfl kk_) ?_
  show G T2 (mkF m 11 #[.val (.ref a), .val (.ref f), .val .null] [.null, (.ref a)])
  refine rPutF hs X2 hx hZ (.array .byte) hown (host := "") (Or.inl (hw _ (List.mem_of_getElem? (i := 63) rfl))) Via.refl F_qualifier_a E_a g_a (Or.inr ⟨(hw _ (List.mem_of_getElem? (i := 64) rfl)), rfl, hnm⟩) (hw _ (List.mem_of_getElem? (i := 51) rfl)) (by decide) rfl rfl rfl rfl (hb hby d10_11) (fun T3 h3 X3 W3 F_qualifier_a => ?_)
  have E_a := E_a.wr W3
  have F_family_a := F_family_a.other W3 (Or.inr (slot_ne (Or.inr (hw _ (List.mem_of_getElem? (i := 37) rfl))) (Or.inr (hw _ (List.mem_of_getElem? (i := 64) rfl))) (by decide) (t := (.object "java/lang/String")) (t' := (.array .byte)) (by decide) (by decide)))
  have K := K.wr W3 (Or.inl (by simp))
  have Ksz := K.1
  have Z0 := Nat.le_trans Z0 (Keep.of_wr W3).1
  show G T3 (mkF m 14 #[.val (.ref a), .val (.ref f), .val .null] [])
  exact rRetV fin stbT X3 hx (by decide) (by decide) hret (hb hby d10_14) (fun vm' hj => ⟨rfl, K, E_a, F_family_a, F_qualifier_a⟩)
theorem d11_0 : decode prog_14_method_1_code 0 = .ok (.aload_n 0, 1) := by decide +kernel
theorem d11_1 : decode prog_14_method_1_code 1 = .ok (.invokespecial 1, 3) := by decide +kernel
theorem d11_4 : decode prog_14_method_1_code 4 = .ok (.aload_n 0, 1) := by decide +kernel
theorem d11_5 : decode prog_14_method_1_code 5 = .ok (.aload_n 1, 1) := by decide +kernel
theorem d11_6 : decode prog_14_method_1_code 6 = .ok (.putfield 7, 3) := by decide +kernel
theorem d11_9 : decode prog_14_method_1_code 9 = .ok (.aload_n 0, 1) := by decide +kernel
theorem d11_10 : decode prog_14_method_1_code 10 = .ok (.lload_n 2, 1) := by decide +kernel
theorem d11_11 : decode prog_14_method_1_code 11 = .ok (.putfield 13, 3) := by decide +kernel
theorem d11_14 : decode prog_14_method_1_code 14 = .ok (.return_, 1) := by decide +kernel
theorem pn_11 : plainFor (⟨"com/example/rowcall/rowcall/DeleteMarker", "<init>", "(Lcom/example/rowcall/rowcall/Columns;J)V"⟩ : MethodName) = true := plainFor_of_name (by first | (simp [plainName, overriddenIn]; done) | decide +kernel)
theorem ef_11 (m : MethodId) (x0 : Addr) (x1 : Addr) (x2 : Int64) : entryFrame m #[(.ref x0), (.ref x1), (.long x2)] 4 = mkF m 0 #[.val (.ref x0), .val (.ref x1), .val (.long x2), .second] [] := by first | (simp [entryFrame, mkF, argsToLocals, Value.category]; done) | rfl
theorem hy_11 : ((⟨"com/example/rowcall/rowcall/DeleteMarker", "<init>", "(Lcom/example/rowcall/rowcall/Columns;J)V"⟩ : MethodName)).cls ≠ "java/lang/invoke/MethodHandle" ∧ ((⟨"com/example/rowcall/rowcall/DeleteMarker", "<init>", "(Lcom/example/rowcall/rowcall/Columns;J)V"⟩ : MethodName)).cls ≠ "java/lang/invoke/VarHandle" := by decide
set_option maxRecDepth 65536 in
set_option maxHeartbeats 40000000 in
theorem rm11 (l : Launch) (Z : State) (a0 : Array Value) (hw : ∀ d ∈ tables_1, d.before a0 Z = true) (ws : List Jvm.Cond) (a cc : Addr) (x : Int64) (h0 : Heap) (n0 : Nat) (Z0 : n0 ≤ h0.size) (E_a : Exa Z h0 a "com/example/rowcall/rowcall/DeleteMarker") (g_a : n0 ≤ a) (F_columns_a : Fld Z h0 a "com/example/rowcall/rowcall/DeleteMarker" "columns" "Lcom/example/rowcall/rowcall/Columns;" .null) (F_timestamp_a : Fld Z h0 a "com/example/rowcall/rowcall/DeleteMarker" "timestamp" "J" (.long (0 : Int64))) :
    Con l Z (⟨"com/example/rowcall/rowcall/DeleteMarker", "<init>", "(Lcom/example/rowcall/rowcall/Columns;J)V"⟩ : MethodName) prog_14_method_1_code 4 none ws ({ frames := 1, cells := 0, slots := 0, locals := 12 } : Room) #[(.ref a), (.ref cc), (.long x)] h0 n0 (fun _ => True) (fun v h vm => v = none ∧ Keep h0 h [a] ∧ Exa Z h a "com/example/rowcall/rowcall/DeleteMarker" ∧ Fld Z h a "com/example/rowcall/rowcall/DeleteMarker" "columns" "Lcom/example/rowcall/rowcall/Columns;" (.ref cc)) := by
  refine Con.of pn_11 ?_
  intro G p e s m below meth c s₁ hs hx hby hml hown hnm hret hZ X0 XR hh0 hJ0 fin
  have hml : c.maxLocals = 4 := hml
  have hown : s.vm.findClass "com/example/rowcall/rowcall/DeleteMarker" = some m.cls := hown
  rw [ef_11]
  have K := Keep.refl h0 ([a] : List Addr)
  have Ksz := K.1
  show G s₁ (mkF m 0 #[.val (.ref a), .val (.ref cc), .val (.long x), .second] [])
  refine hs.go (fun _ kk_ => XS.aloadN X0.here hx rfl (hb hby d11_0) rfl rfl kk_) ?_
  show G s₁ (mkF m 1 #[.val (.ref a), .val (.ref cc), .val (.long x), .second] [(.ref a)])
  refine rInitO hs X0 hx hZ hown (hw _ (List.mem_of_getElem? (i := 69) rfl)) (hw _ (List.mem_of_getElem? (i := 14) rfl)) (hw _ (List.mem_of_getElem? (i := 15) rfl)) rfl (by rw [hml]; rfl) rfl (hb hby d11_1) (by decide) (W := 0) (by show 2 * 0 + _ ≤ _; exact Nat.le_of_eq rfl) (by decide) (fun T1 X1 => ?_)
  show G T1 (mkF m 4 #[.val (.ref a), .val (.ref cc), .val (.long x), .second] [])
  refine hs.go (fun _ kk_ => XS.aloadN X1.here hx rfl (hb hby d11_4) rfl rfl kk_) ?_
  show G T1 (mkF m 5 #[.val (.ref a), .val (.ref cc), .val (.long x), .second] [(.ref a)])
  refine hs.go (fun _ kk_ => XS.aloadN X1.here hx rfl (hb hby d11_5) rfl rfl kk_) ?_
  show G T1 (mkF m 6 #[.val (.ref a), .val (.ref cc), .val (.long x), .second] [(.ref cc), (.ref a)])
  refine rPutF hs X1 hx hZ (.object "com/example/rowcall/rowcall/Columns") hown (host := "") (Or.inl (hw _ (List.mem_of_getElem? (i := 70) rfl))) Via.refl F_columns_a E_a g_a (Or.inr ⟨(hw _ (List.mem_of_getElem? (i := 35) rfl)), rfl, hnm⟩) (hw _ (List.mem_of_getElem? (i := 45) rfl)) (by decide) rfl rfl rfl rfl (hb hby d11_6) (fun T2 h2 X2 W2 F_columns_a => ?_)
  have E_a := E_a.wr W2
  have F_timestamp_a := F_timestamp_a.other W2 (Or.inr (slot_ne (Or.inr (hw _ (List.mem_of_getElem? (i := 72) rfl))) (Or.inr (hw _ (List.mem_of_getElem? (i := 35) rfl))) (by decide) (t := .long) (t' := (.object "com/example/rowcall/rowcall/Columns")) (by decide) (by decide)))
  have K := K.wr W2 (Or.inl (by simp))
  have Ksz := K.1
  have Z0 := Nat.le_trans Z0 (Keep.of_wr W2).1
  show G T2 (mkF m 9 #[.val (.ref a), .val (.ref cc), .val (.long x), .second] [])
  refine hs.go (fun _ kk_ => XS.aloadN X2.here hx rfl (hb hby d11_9) rfl rfl kk_) ?_
  show G T2 (mkF m 10 #[.val (.ref a), .val (.ref cc), .val (.long x), .second] [(.ref a)])
  refine hs.go (fun _ kk_ => XS.lloadN X2.here hx rfl (hb hby d11_10) rfl  kk_) ?_
  show G T2 (mkF m 11 #[.val (.ref a), .val (.ref cc), .val (.long x), .second] [(.long x), (.ref a)])
  refine rPutF hs X2 hx hZ .long hown (host := "") (Or.inl (hw _ (List.mem_of_getElem? (i := 71) rfl))) Via.refl F_timestamp_a E_a g_a (Or.inr ⟨(hw _ (List.mem_of_getElem? (i := 72) rfl)), rfl, hnm⟩) (hw _ (List.mem_of_getElem? (i := 45) rfl)) (by decide) rfl rfl rfl rfl (hb hby d11_11) (fun T3 h3 X3 W3 F_timestamp_a => ?_)
  have E_a := E_a.wr W3
  have F_columns_a := F_columns_a.other W3 (Or.inr (slot_ne (Or.inr (hw _ (List.mem_of_getElem? (i := 35) rfl))) (Or.inr (hw _ (List.mem_of_getElem? (i := 72) rfl))) (by decide) (t := (.object "com/example/rowcall/rowcall/Columns")) (t' := .long) (by decide) (by decide)))
  have K := K.wr W3 (Or.inl (by simp))
  have Ksz := K.1
  have Z0 := Nat.le_trans Z0 (Keep.of_wr W3).1
  show G T3 (mkF m 14 #[.val (.ref a), .val (.ref cc), .val (.long x), .second] [])
  exact rRetV fin stbT X3 hx (by decide) (by decide) hret (hb hby d11_14) (fun vm' hj => ⟨rfl, K, E_a, F_columns_a⟩)
theorem pd_4 : parseMethodDescriptor "(Ljava/lang/Object;Ljava/lang/String;)Ljava/lang/Object;" = some ⟨[(.object "java/lang/Object"), (.object "java/lang/String")], some (.object "java/lang/Object")⟩ := by decide +kernel
theorem pd_5 : parseMethodDescriptor "(Ljava/lang/String;[B)V" = some ⟨[(.object "java/lang/String"), (.array .byte)], none⟩ := by decide +kernel
theorem d8_0 : decode prog_12_method_2_code 0 = .ok (.new 8, 3) := by decide +kernel
theorem d8_3 : decode prog_12_method_2_code 3 = .ok (.dup, 1) := by decide +kernel
theorem d8_4 : decode prog_12_method_2_code 4 = .ok (.aload_n 0, 1) := by decide +kernel
theorem d8_5 : decode prog_12_method_2_code 5 = .ok (.ldc 17, 2) := by decide +kernel
theorem d8_7 : decode prog_12_method_2_code 7 = .ok (.invokestatic 18, 3) := by decide +kernel
theorem d8_10 : decode prog_12_method_2_code 10 = .ok (.checkcast 24, 3) := by decide +kernel
theorem d8_13 : decode prog_12_method_2_code 13 = .ok (.aconst_null, 1) := by decide +kernel
theorem d8_14 : decode prog_12_method_2_code 14 = .ok (.invokespecial 26, 3) := by decide +kernel
theorem d8_17 : decode prog_12_method_2_code 17 = .ok (.areturn, 1) := by decide +kernel
theorem pn_8 : plainFor (⟨"com/example/rowcall/rowcall/Columns", "family", "(Ljava/lang/String;)Lcom/example/rowcall/rowcall/Columns;"⟩ : MethodName) = true := plainFor_of_name (by first | (simp [plainName, overriddenIn]; done) | decide +kernel)
theorem ef_8 (m : MethodId) (x0 : Addr) : entryFrame m #[(.ref x0)] 1 = mkF m 0 #[.val (.ref x0)] [] := by first | (simp [entryFrame, mkF, argsToLocals, Value.category]; done) | rfl
theorem hy_8 : ((⟨"com/example/rowcall/rowcall/Columns", "family", "(Ljava/lang/String;)Lcom/example/rowcall/rowcall/Columns;"⟩ : MethodName)).cls ≠ "java/lang/invoke/MethodHandle" ∧ ((⟨"com/example/rowcall/rowcall/Columns", "family", "(Ljava/lang/String;)Lcom/example/rowcall/rowcall/Columns;"⟩ : MethodName)).cls ≠ "java/lang/invoke/VarHandle" := by decide
set_option maxRecDepth 65536 in
set_option maxHeartbeats 40000000 in
theorem rm8 (l : Launch) (Z : State) (a0 : Array Value) (hw : ∀ d ∈ tables_1, d.before a0 Z = true) (ws : List Jvm.Cond) (f : Addr) (h0 : Heap) (n0 : Nat) (Z0 : n0 ≤ h0.size) (E_f : Exa Z h0 f "java/lang/String") :
    Con l Z (⟨"com/example/rowcall/rowcall/Columns", "family", "(Ljava/lang/String;)Lcom/example/rowcall/rowcall/Columns;"⟩ : MethodName) prog_12_method_2_code 1 (some (.object "com/example/rowcall/rowcall/Columns")) ws ({ frames := 2, cells := 3, slots := 30, locals := 27 } : Room) #[(.ref f)] h0 n0 (fun _ => True) (fun v h vm => ∃ cc : Addr, v = some (.ref cc) ∧ Keep h0 h [] ∧ h0.size ≤ cc ∧ Exa Z h cc "com/example/rowcall/rowcall/Columns" ∧ Fld Z h cc "com/example/rowcall/rowcall/Columns" "family" "Ljava/lang/String;" (.ref f) ∧ Fld Z h cc "com/example/rowcall/rowcall/Columns" "qualifier" "[B" .null) := by
  refine Con.of pn_8 ?_
  intro G p e s m below meth c s₁ hs hx hby hml hown hnm hret hZ X0 XR hh0 hJ0 fin
  have hml : c.maxLocals = 1 := hml
  have hown : s.vm.findClass "com/example/rowcall/rowcall/Columns" = some m.cls := hown
  rw [ef_8]
  have K := Keep.refl h0 ([] : List Addr)
  have Ksz := K.1
  show G s₁ (mkF m 0 #[.val (.ref f)] [])
  refine rNewO hs X0 hx hZ hown (hw _ (List.mem_of_getElem? (i := 50) rfl)) (hw _ (List.mem_of_getElem? (i := 51) rfl)) (hw _ (List.mem_of_getElem? (i := 48) rfl)) rfl (hb hby d8_0) (by decide) (by decide) (fun T1 h1 cc g1 X1 E1 E_cc D1 => ?_)
  have g_cc : n0 ≤ cc := by rw [g1]; exact Z0
  have Z0 := Nat.le_trans Z0 E1.1
  have ne_f_cc : f ≠ cc := Nat.ne_of_lt (Nat.lt_of_lt_of_le E_f.lt (Nat.le_of_eq g1.symm))
  have E_f := E_f.ext E1
  have K := K.ext E1
  have sz_cc : h0.size ≤ cc := by rw [g1]; exact Ksz
  have Ksz := K.1
  have F_family_cc : Fld Z h1 cc "com/example/rowcall/rowcall/Columns" "family" "Ljava/lang/String;" .null := D1 (Or.inr (hw _ (List.mem_of_getElem? (i := 37) rfl))) (ty := (.object "java/lang/String")) (by decide)
  have F_qualifier_cc : Fld Z h1 cc "com/example/rowcall/rowcall/Columns" "qualifier" "[B" .null := D1 (Or.inr (hw _ (List.mem_of_getElem? (i := 64) rfl))) (ty := (.array .byte)) (by decide)
  show G T1 (mkF m 3 #[.val (.ref f)] [(.ref cc)])
  refine hs.go (fun _ kk_ => XS.dup X1.here hx rfl (hb hby d8_3) rfl rfl kk_) ?_
  show G T1 (mkF m 4 #[.val (.ref f)] [(.ref cc), (.ref cc)])
  refine hs.go (fun _ kk_ => XS.aloadN X1.here hx rfl (hb hby d8_4) rfl rfl kk_) ?_
  show G T1 (mkF m 5 #[.val (.ref f)] [(.ref f), (.ref cc), (.ref cc)])
  refine rLdcS hs X1 hx hZ hown (hw _ (List.mem_of_getElem? (i := 52) rfl)) (fun d hd => hw d (own_sa d hd)) rfl (hb hby d8_5) 24 (by decide) (by decide) (by decide) (by decide) (fun T2 h2 ls2 X2 E2 => ?_)
  have Z0 := Nat.le_trans Z0 E2.1
  have E_f := E_f.ext E2
  have E_cc := E_cc.ext E2
  have F_family_cc := F_family_cc.ext E2
  have F_qualifier_cc := F_qualifier_cc.ext E2
  have K := K.ext E2
  have Ksz := K.1
  show G T2 (mkF m 7 #[.val (.ref f)] [(.ref ls2), (.ref f), (.ref cc), (.ref cc)])
  refine rCallS hs X2 hx hZ (as' := [(.ref f), (.ref ls2)]) stbT (rm9 l Z a0 hw [] f ls2 h2 n0 Z0) hown (hw _ (List.mem_of_getElem? (i := 53) rfl)) (hw _ (List.mem_of_getElem? (i := 54) rfl)) (hw _ (List.mem_of_getElem? (i := 55) rfl)) (hw _ (List.mem_of_getElem? (i := 56) rfl)) hy_9 rfl (by rw [hml]; rfl) [(.ref cc), (.ref cc)] (lenOf pd_4 rfl) rfl 2 (by show 2 * 0 + _ ≤ _; exact Nat.le_of_eq rfl) (hb hby d8_7) (by decide) (by decide) (by decide) (by decide) (fun r3 T3 h3 vm3 X3 q3 => ?_)
  obtain ⟨rfl, qh3⟩ := q3
  have X3 := X3 (fun _ => True) trivial
  rw [qh3] at X3
  show G T3 (mkF m 10 #[.val (.ref f)] [(.ref f), (.ref cc), (.ref cc)])
  refine rCast hs X3 hx hZ hown (hw _ (List.mem_of_getElem? (i := 57) rfl)) (Ins.self E_f) rfl rfl (hb hby d8_10) (fun T4 X4 => ?_)
  show G T4 (mkF m 13 #[.val (.ref f)] [(.ref f), (.ref cc), (.ref cc)])
  refine hs.go (fun _ kk_ => XS.aconstNull X4.here hx rfl (hb hby d8_13) kk_) ?_
  show G T4 (mkF m 14 #[.val (.ref f)] [.null, (.ref f), (.ref cc), (.ref cc)])
  refine rCallI hs X4 hx hZ (as' := [(.ref f), .null]) stbT (ci_n l Z a0 hw [] cc f h2 n0 Z0 E_cc g_cc F_family_cc F_qualifier_cc) rfl hown (hw _ (List.mem_of_getElem? (i := 58) rfl)) (hw _ (List.mem_of_getElem? (i := 59) rfl)) (hw _ (List.mem_of_getElem? (i := 48) rfl)) (hw _ (List.mem_of_getElem? (i := 60) rfl)) hy_10 rfl (by rw [hml]; rfl) [(.ref cc)] (lenOf pd_5 rfl) rfl 1 (by show 2 * 0 + _ ≤ _; exact Nat.le_of_eq rfl) (hb hby d8_14) (by decide) (by decide) (by decide) (by decide) (fun r5 T5 h5 vm5 X5 q5 => ?_)
  obtain ⟨rfl, Kc5, E_cc, F_family_cc, F_qualifier_cc⟩ := q5
  have X5 := X5 (fun _ => True) trivial
  have E_f := E_f.keep Kc5
  have K := K.trans Kc5 (fun x hx => Or.inr (by cases List.mem_singleton.mp hx; exact sz_cc))
  have Ksz := K.1
  have Z0 := Nat.le_trans Z0 Kc5.1
  show G T5 (mkF m 17 #[.val (.ref f)] [(.ref cc)])
  exact rRetA fin stbT X5 hx (by decide) (by decide) hret rfl rfl rfl (hb hby d8_17) (fun vm' hj => ⟨cc, rfl, K, sz_cc, E_cc, F_family_cc, F_qualifier_cc⟩)
theorem d16_0 : decode prog_12_method_3_code 0 = .ok (.new 8, 3) := by decide +kernel
theorem d16_3 : decode prog_12_method_3_code 3 = .ok (.dup, 1) := by decide +kernel
theorem d16_4 : decode prog_12_method_3_code 4 = .ok (.aload_n 0, 1) := by decide +kernel
theorem d16_5 : decode prog_12_method_3_code 5 = .ok (.ldc 17, 2) := by decide +kernel
theorem d16_7 : decode prog_12_method_3_code 7 = .ok (.invokestatic 18, 3) := by decide +kernel
theorem d16_10 : decode prog_12_method_3_code 10 = .ok (.checkcast 24, 3) := by decide +kernel
theorem d16_13 : decode prog_12_method_3_code 13 = .ok (.aload_n 1, 1) := by decide +kernel
theorem d16_14 : decode prog_12_method_3_code 14 = .ok (.invokevirtual 29, 3) := by decide +kernel
theorem d16_17 : decode prog_12_method_3_code 17 = .ok (.checkcast 30, 3) := by decide +kernel
theorem d16_20 : decode prog_12_method_3_code 20 = .ok (.invokespecial 26, 3) := by decide +kernel
theorem d16_23 : decode prog_12_method_3_code 23 = .ok (.areturn, 1) := by decide +kernel
theorem pn_16 : plainFor (⟨"com/example/rowcall/rowcall/Columns", "column", "(Ljava/lang/String;[B)Lcom/example/rowcall/rowcall/Columns;"⟩ : MethodName) = true := plainFor_of_name (by first | (simp [plainName, overriddenIn]; done) | decide +kernel)
theorem ef_16 (m : MethodId) (x0 : Addr) (x1 : Addr) : entryFrame m #[(.ref x0), (.ref x1)] 2 = mkF m 0 #[.val (.ref x0), .val (.ref x1)] [] := by first | (simp [entryFrame, mkF, argsToLocals, Value.category]; done) | rfl
theorem hy_16 : ((⟨"com/example/rowcall/rowcall/Columns", "column", "(Ljava/lang/String;[B)Lcom/example/rowcall/rowcall/Columns;"⟩ : MethodName)).cls ≠ "java/lang/invoke/MethodHandle" ∧ ((⟨"com/example/rowcall/rowcall/Columns", "column", "(Ljava/lang/String;[B)Lcom/example/rowcall/rowcall/Columns;"⟩ : MethodName)).cls ≠ "java/lang/invoke/VarHandle" := by decide
set_option maxRecDepth 65536 in
set_option maxHeartbeats 40000000 in
theorem rm16 (l : Launch) (Z : State) (a0 : Array Value) (hw : ∀ d ∈ tables_1, d.before a0 Z = true) (ws : List Jvm.Cond) (f q : Addr) (kq : ClassId) (zq : Int32) (vq : List Value) (h0 : Heap) (n0 : Nat) (Z0 : n0 ≤ h0.size) (E_f : Exa Z h0 f "java/lang/String") (V_q : Arv Z h0 q kq .byte zq vq (.int (0 : Int32))) (E_q : Exa Z h0 q "[B") (hz2 : zq.toNatClampNeg ≤ 2) :
    Con l Z (⟨"com/example/rowcall/rowcall/Columns", "column", "(Ljava/lang/String;[B)Lcom/example/rowcall/rowcall/Columns;"⟩ : MethodName) prog_12_method_3_code 2 (some (.object "com/example/rowcall/rowcall/Columns")) ws ({ frames := 2, cells := 4, slots := 32, locals := 27 } : Room) #[(.ref f), (.ref q)] h0 n0 (fun _ => True) (fun v h vm => ∃ cc q2 : Addr, v = some (.ref cc) ∧ Keep h0 h [] ∧ h0.size ≤ cc ∧ Exa Z h cc "com/example/rowcall/rowcall/Columns" ∧ Fld Z h cc "com/example/rowcall/rowcall/Columns" "family" "Ljava/lang/String;" (.ref f) ∧ Fld Z h cc "com/example/rowcall/rowcall/Columns" "qualifier" "[B" (.ref q2)) := by
  refine Con.of pn_16 ?_
  intro G p e s m below meth c s₁ hs hx hby hml hown hnm hret hZ X0 XR hh0 hJ0 fin
  have hml : c.maxLocals = 2 := hml
  have hown : s.vm.findClass "com/example/rowcall/rowcall/Columns" = some m.cls := hown
  rw [ef_16]
  have K := Keep.refl h0 ([] : List Addr)
  have Ksz := K.1
  show G s₁ (mkF m 0 #[.val (.ref f), .val (.ref q)] [])
  refine rNewO hs X0 hx hZ hown (hw _ (List.mem_of_getElem? (i := 50) rfl)) (hw _ (List.mem_of_getElem? (i := 51) rfl)) (hw _ (List.mem_of_getElem? (i := 48) rfl)) rfl (hb hby d16_0) (by decide) (by decide) (fun T1 h1 cc g1 X1 E1 E_cc D1 => ?_)
  have g_cc : n0 ≤ cc := by rw [g1]; exact Z0
  have Z0 := Nat.le_trans Z0 E1.1
  have ne_f_cc : f ≠ cc := Nat.ne_of_lt (Nat.lt_of_lt_of_le E_f.lt (Nat.le_of_eq g1.symm))
  have ne_q_cc : q ≠ cc := Nat.ne_of_lt (Nat.lt_of_lt_of_le V_q.lt (Nat.le_of_eq g1.symm))
  have E_f := E_f.ext E1
  have V_q := V_q.ext E1
  have E_q := E_q.ext E1
  have K := K.ext E1
  have sz_cc : h0.size ≤ cc := by rw [g1]; exact Ksz
  have Ksz := K.1
  have F_family_cc : Fld Z h1 cc "com/example/rowcall/rowcall/Columns" "family" "Ljava/lang/String;" .null := D1 (Or.inr (hw _ (List.mem_of_getElem? (i := 37) rfl))) (ty := (.object "java/lang/String")) (by decide)
  have F_qualifier_cc : Fld Z h1 cc "com/example/rowcall/rowcall/Columns" "qualifier" "[B" .null := D1 (Or.inr (hw _ (List.mem_of_getElem? (i := 64) rfl))) (ty := (.array .byte)) (by decide)
  show G T1 (mkF m 3 #[.val (.ref f), .val (.ref q)] [(.ref cc)])
  refine hs.go (fun _ kk_ => XS.dup X1.here hx rfl (hb hby d16_3) rfl rfl kk_) ?_
  show G T1 (mkF m 4 #[.val (.ref f), .val (.ref q)] [(.ref cc), (.ref cc)])
  refine hs.go (fun _ kk_ => XS.aloadN X1.here hx rfl (hb hby d16_4) rfl rfl kk_) ?_
  show G T1 (mkF m 5 #[.val (.ref f), .val (.ref q)] [(.ref f), (.ref cc), (.ref cc)])
  refine rLdcS hs X1 hx hZ hown (hw _ (List.mem_of_getElem? (i := 52) rfl)) (fun d hd => hw d (own_sa d hd)) rfl (hb hby d16_5) 24 (by decide) (by decide) (by decide) (by decide) (fun T2 h2 ls2 X2 E2 => ?_)
  have Z0 := Nat.le_trans Z0 E2.1
  have E_f := E_f.ext E2
  have V_q := V_q.ext E2
  have E_q := E_q.ext E2
  have E_cc := E_cc.ext E2
  have F_family_cc := F_family_cc.ext E2
  have F_qualifier_cc := F_qualifier_cc.ext E2
  have K := K.ext E2
  have Ksz := K.1
  show G T2 (mkF m 7 #[.val (.ref f), .val (.ref q)] [(.ref ls2), (.ref f), (.ref cc), (.ref cc)])
  refine rCallS hs X2 hx hZ (as' := [(.ref f), (.ref ls2)]) stbT (rm9 l Z a0 hw [] f ls2 h2 n0 Z0) hown (hw _ (List.mem_of_getElem? (i := 53) rfl)) (hw _ (List.mem_of_getElem? (i := 54) rfl)) (hw _ (List.mem_of_getElem? (i := 55) rfl)) (hw _ (List.mem_of_getElem? (i := 56) rfl)) hy_9 rfl (by rw [hml]; rfl) [(.ref cc), (.ref cc)] (lenOf pd_4 rfl) rfl 2 (by show 2 * 0 + _ ≤ _; exact Nat.le_of_eq rfl) (hb hby d16_7) (by decide) (by decide) (by decide) (by decide) (fun r3 T3 h3 vm3 X3 q3 => ?_)
  obtain ⟨rfl, qh3⟩ := q3
  have X3 := X3 (fun _ => True) trivial
  rw [qh3] at X3
  show G T3 (mkF m 10 #[.val (.ref f), .val (.ref q)] [(.ref f), (.ref cc), (.ref cc)])
  refine rCast hs X3 hx hZ hown (hw _ (List.mem_of_getElem? (i := 57) rfl)) (Ins.self E_f) rfl rfl (hb hby d16_10) (fun T4 X4 => ?_)
  show G T4 (mkF m 13 #[.val (.ref f), .val (.ref q)] [(.ref f), (.ref cc), (.ref cc)])
  refine hs.go (fun _ kk_ => XS.aloadN X4.here hx rfl (hb hby d16_13) rfl rfl kk_) ?_
  show G T4 (mkF m 14 #[.val (.ref f), .val (.ref q)] [(.ref q), (.ref f), (.ref cc), (.ref cc)])
  refine rClone hs X4 hx hZ hown (hw _ (List.mem_of_getElem? (i := 91) rfl)) (hw _ (List.mem_of_getElem? (i := 92) rfl)) (hw _ (List.mem_of_getElem? (i := 96) rfl)) (hw _ (List.mem_of_getElem? (i := 94) rfl)) (hw _ (List.mem_of_getElem? (i := 95) rfl)) (hw _ (List.mem_of_getElem? (i := 97) rfl)) V_q E_q rfl (by rw [hml]; rfl) rfl (hb hby d16_14) (by decide) 3 2 (by show 2 * 0 + _ ≤ _; exact Nat.le_of_eq rfl) (by decide) hz2 (by decide) (by decide) (fun T5 h5 cl5 g5 X5 E5 E_cl5 => ?_)
  have g_cl5 : n0 ≤ cl5 := by rw [g5]; exact Z0
  have Z0 := Nat.le_trans Z0 E5.1
  have ne_f_cl5 : f ≠ cl5 := Nat.ne_of_lt (Nat.lt_of_lt_of_le E_f.lt (Nat.le_of_eq g5.symm))
  have ne_q_cl5 : q ≠ cl5 := Nat.ne_of_lt (Nat.lt_of_lt_of_le V_q.lt (Nat.le_of_eq g5.symm))
  have ne_cc_cl5 : cc ≠ cl5 := Nat.ne_of_lt (Nat.lt_of_lt_of_le E_cc.lt (Nat.le_of_eq g5.symm))
  have E_f := E_f.ext E5
  have V_q := V_q.ext E5
  have E_q := E_q.ext E5
  have E_cc := E_cc.ext E5
  have F_family_cc := F_family_cc.ext E5
  have F_qualifier_cc := F_qualifier_cc.ext E5
  have K := K.ext E5
  have sz_cl5 : h0.size ≤ cl5 := by rw [g5]; exact Ksz
  have Ksz := K.1
  show G T5 (mkF m 17 #[.val (.ref f), .val (.ref q)] [(.ref cl5), (.ref f), (.ref cc), (.ref cc)])
  refine rCast hs X5 hx hZ hown (hw _ (List.mem_of_getElem? (i := 98) rfl)) (Ins.self E_cl5) rfl rfl (hb hby d16_17) (fun T6 X6 => ?_)
  show G T6 (mkF m 20 #[.val (.ref f), .val (.ref q)] [(.ref cl5), (.ref f), (.ref cc), (.ref cc)])
  refine rCallI hs X6 hx hZ (as' := [(.ref f), (.ref cl5)]) stbT (ci_q l Z a0 hw [] cc f cl5 h5 n0 Z0 E_cc g_cc F_family_cc F_qualifier_cc) rfl hown (hw _ (List.mem_of_getElem? (i := 58) rfl)) (hw _ (List.mem_of_getElem? (i := 59) rfl)) (hw _ (List.mem_of_getElem? (i := 48) rfl)) (hw _ (List.mem_of_getElem? (i := 60) rfl)) hy_10 rfl (by rw [hml]; rfl) [(.ref cc)] (lenOf pd_5 rfl) rfl 1 (by show 2 * 0 + _ ≤ _; exact Nat.le_of_eq rfl) (hb hby d16_20) (by decide) (by decide) (by decide) (by decide) (fun r7 T7 h7 vm7 X7 q7 => ?_)
  obtain ⟨rfl, Kc7, E_cc, F_family_cc, F_qualifier_cc⟩ := q7
  have X7 := X7 (fun _ => True) trivial
  have E_f := E_f.keep Kc7
  have V_q := V_q.keep Kc7 (ninS ne_q_cc nin0)
  have E_q := E_q.keep Kc7
  have E_cl5 := E_cl5.keep Kc7
  have K := K.trans Kc7 (fun x hx => Or.inr (by cases List.mem_singleton.mp hx; exact sz_cc))
  have Ksz := K.1
  have Z0 := Nat.le_trans Z0 Kc7.1
  show G T7 (mkF m 23 #[.val (.ref f), .val (.ref q)] [(.ref cc)])
  exact rRetA fin stbT X7 hx (by decide) (by decide) hret rfl rfl rfl (hb hby d16_23) (fun vm' hj => ⟨cc, _, rfl, K, sz_cc, E_cc, F_family_cc, F_qualifier_cc⟩)
theorem pd_6 : parseMethodDescriptor "(Ljava/lang/String;)Lcom/example/rowcall/rowcall/Columns;" = some ⟨[(.object "java/lang/String")], some (.object "com/example/rowcall/rowcall/Columns")⟩ := by decide +kernel
theorem pd_7 : parseMethodDescriptor "(Lcom/example/rowcall/rowcall/Columns;J)V" = some ⟨[(.object "com/example/rowcall/rowcall/Columns"), .long], none⟩ := by decide +kernel
theorem d7_0 : decode prog_14_method_3_code 0 = .ok (.new 8, 3) := by decide +kernel
theorem d7_3 : decode prog_14_method_3_code 3 = .ok (.dup, 1) := by decide +kernel
theorem d7_4 : decode prog_14_method_3_code 4 = .ok (.aload_n 0, 1) := by decide +kernel
theorem d7_5 : decode prog_14_method_3_code 5 = .ok (.invokestatic 21, 3) := by decide +kernel
theorem d7_8 : decode prog_14_method_3_code 8 = .ok (.ldc2_w 29, 3) := by decide +kernel
theorem d7_11 : decode prog_14_method_3_code 11 = .ok (.invokespecial 31, 3) := by decide +kernel
theorem d7_14 : decode prog_14_method_3_code 14 = .ok (.areturn, 1) := by decide +kernel
theorem pn_7 : plainFor (⟨"com/example/rowcall/rowcall/DeleteMarker", "family", "(Ljava/lang/String;)Lcom/example/rowcall/rowcall/DeleteMarker;"⟩ : MethodName) = true := plainFor_of_name (by first | (simp [plainName, overriddenIn]; done) | decide +kernel)
theorem ef_7 (m : MethodId) (x0 : Addr) : entryFrame m #[(.ref x0)] 1 = mkF m 0 #[.val (.ref x0)] [] := by first | (simp [entryFrame, mkF, argsToLocals, Value.category]; done) | rfl
theorem hy_7 : ((⟨"com/example/rowcall/rowcall/DeleteMarker", "family", "(Ljava/lang/String;)Lcom/example/rowcall/rowcall/DeleteMarker;"⟩ : MethodName)).cls ≠ "java/lang/invoke/MethodHandle" ∧ ((⟨"com/example/rowcall/rowcall/DeleteMarker", "family", "(Ljava/lang/String;)Lcom/example/rowcall/rowcall/DeleteMarker;"⟩ : MethodName)).cls ≠ "java/lang/invoke/VarHandle" := by decide
set_option maxRecDepth 65536 in
set_option maxHeartbeats 40000000 in
theorem rm7 (l : Launch) (Z : State) (a0 : Array Value) (hw : ∀ d ∈ tables_1, d.before a0 Z = true) (ws : List Jvm.Cond) (f : Addr) (h0 : Heap) (n0 : Nat) (Z0 : n0 ≤ h0.size) (E_f : Exa Z h0 f "java/lang/String") :
    Con l Z (⟨"com/example/rowcall/rowcall/DeleteMarker", "family", "(Ljava/lang/String;)Lcom/example/rowcall/rowcall/DeleteMarker;"⟩ : MethodName) prog_14_method_3_code 1 (some (.object "com/example/rowcall/rowcall/DeleteMarker")) ws ({ frames := 3, cells := 4, slots := 32, locals := 41 } : Room) #[(.ref f)] h0 n0 (fun _ => True) (fun v h vm => ∃ mm cc : Addr, v = some (.ref mm) ∧ Keep h0 h [] ∧ Exa Z h mm "com/example/rowcall/rowcall/DeleteMarker" ∧ Fld Z h mm "com/example/rowcall/rowcall/DeleteMarker" "columns" "Lcom/example/rowcall/rowcall/Columns;" (.ref cc) ∧ Fld Z h cc "com/example/rowcall/rowcall/Columns" "family" "Ljava/lang/String;" (.ref f) ∧ Fld Z h cc "com/example/rowcall/rowcall/Columns" "qualifier" "[B" .null) := by
  refine Con.of pn_7 ?_
  intro G p e s m below meth c s₁ hs hx hby hml hown hnm hret hZ X0 XR hh0 hJ0 fin
  have hml : c.maxLocals = 1 := hml
  have hown : s.vm.findClass "com/example/rowcall/rowcall/DeleteMarker" = some m.cls := hown
  rw [ef_7]
  have K := Keep.refl h0 ([] : List Addr)
  have Ksz := K.1
  show G s₁ (mkF m 0 #[.val (.ref f)] [])
  refine rNewO hs X0 hx hZ hown (hw _ (List.mem_of_getElem? (i := 44) rfl)) (hw _ (List.mem_of_getElem? (i := 45) rfl)) (hw _ (List.mem_of_getElem? (i := 26) rfl)) rfl (hb hby d7_0) (by decide) (by decide) (fun T1 h1 mm g1 X1 E1 E_mm D1 => ?_)
  have g_mm : n0 ≤ mm := by rw [g1]; exact Z0
  have Z0 := Nat.le_trans Z0 E1.1
  have ne_f_mm : f ≠ mm := Nat.ne_of_lt (Nat.lt_of_lt_of_le E_f.lt (Nat.le_of_eq g1.symm))
  have E_f := E_f.ext E1
  have K := K.ext E1
  have sz_mm : h0.size ≤ mm := by rw [g1]; exact Ksz
  have Ksz := K.1
  have F_columns_mm : Fld Z h1 mm "com/example/rowcall/rowcall/DeleteMarker" "columns" "Lcom/example/rowcall/rowcall/Columns;" .null := D1 (Or.inr (hw _ (List.mem_of_getElem? (i := 35) rfl))) (ty := (.object "com/example/rowcall/rowcall/Columns")) (by decide)
  have F_timestamp_mm : Fld Z h1 mm "com/example/rowcall/rowcall/DeleteMarker" "timestamp" "J" (.long (0 : Int64)) := D1 (Or.inr (hw _ (List.mem_of_getElem? (i := 72) rfl))) (ty := .long) (by decide)
  show G T1 (mkF m 3 #[.val (.ref f)] [(.ref mm)])
  refine hs.go (fun _ kk_ => XS.dup X1.here hx rfl (hb hby d7_3) rfl rfl kk_) ?_
  show G T1 (mkF m 4 #[.val (.ref f)] [(.ref mm), (.ref mm)])
  refine hs.go (fun _ kk_ => XS.aloadN X1.here hx rfl (hb hby d7_4) rfl rfl kk_) ?_
  show G T1 (mkF m 5 #[.val (.ref f)] [(.ref f), (.ref mm), (.ref mm)])
  refine rCallS hs X1 hx hZ (as' := [(.ref f)]) stbT (rm8 l Z a0 hw [] f h1 n0 Z0 E_f) hown (hw _ (List.mem_of_getElem? (i := 46) rfl)) (hw _ (List.mem_of_getElem? (i := 47) rfl)) (hw _ (List.mem_of_getElem? (i := 48) rfl)) (hw _ (List.mem_of_getElem? (i := 49) rfl)) hy_8 rfl (by rw [hml]; rfl) [(.ref mm), (.ref mm)] (lenOf pd_6 rfl) rfl 2 (by show 2 * 0 + _ ≤ _; exact Nat.le_of_eq rfl) (hb hby d7_5) (by decide) (by decide) (by decide) (by decide) (fun r2 T2 h2 vm2 X2 q2 => ?_)
  obtain ⟨cc2, rfl, Kc2, hge2, E_cc2, F_family_cc2, F_qualifier_cc2⟩ := q2
  have X2 := X2 (fun _ => True) trivial
  have ne_f_cc2 : f ≠ cc2 := Nat.ne_of_lt (Nat.lt_of_lt_of_le E_f.lt hge2)
  have ne_mm_cc2 : mm ≠ cc2 := Nat.ne_of_lt (Nat.lt_of_lt_of_le E_mm.lt hge2)
  have E_f := E_f.keep Kc2
  have E_mm := E_mm.keep Kc2
  have F_columns_mm := F_columns_mm.keep Kc2 nin0
  have F_timestamp_mm := F_timestamp_mm.keep Kc2 nin0
  have K := K.trans Kc2 (fun x hx => by simp at hx)
  have Ksz := K.1
  have Z0 := Nat.le_trans Z0 Kc2.1
  show G T2 (mkF m 8 #[.val (.ref f)] [(.ref cc2), (.ref mm), (.ref mm)])
  refine rLdcL hs X2 hx hZ hown (hw _ (List.mem_of_getElem? (i := 65) rfl)) rfl (hb hby d7_8) ?_
  show G T2 (mkF m 11 #[.val (.ref f)] [(.long (-1 : Int64)), (.ref cc2), (.ref mm), (.ref mm)])
  refine rCallI hs X2 hx hZ (as' := [(.ref cc2), (.long (-1 : Int64))]) stbT (rm11 l Z a0 hw [] mm cc2 (-1 : Int64) h2 n0 Z0 E_mm g_mm F_columns_mm F_timestamp_mm) rfl hown (hw _ (List.mem_of_getElem? (i := 66) rfl)) (hw _ (List.mem_of_getElem? (i := 67) rfl)) (hw _ (List.mem_of_getElem? (i := 26) rfl)) (hw _ (List.mem_of_getElem? (i := 68) rfl)) hy_11 rfl (by rw [hml]; rfl) [(.ref mm)] (lenOf pd_7 rfl) rfl 1 (by show 2 * 0 + _ ≤ _; exact Nat.le_of_eq rfl) (hb hby d7_11) (by decide) (by decide) (by decide) (by decide) (fun r3 T3 h3 vm3 X3 q3 => ?_)
  obtain ⟨rfl, Kc3, E_mm, F_columns_mm⟩ := q3
  have X3 := X3 (fun _ => True) trivial
  have E_f := E_f.keep Kc3
  have E_cc2 := E_cc2.keep Kc3
  have F_family_cc2 := F_family_cc2.keep Kc3 (ninS ne_mm_cc2.symm nin0)
  have F_qualifier_cc2 := F_qualifier_cc2.keep Kc3 (ninS ne_mm_cc2.symm nin0)
  have K := K.trans Kc3 (fun x hx => Or.inr (by cases List.mem_singleton.mp hx; exact sz_mm))
  have Ksz := K.1
  have Z0 := Nat.le_trans Z0 Kc3.1
  show G T3 (mkF m 14 #[.val (.ref f)] [(.ref mm)])
  exact rRetA fin stbT X3 hx (by decide) (by decide) hret rfl rfl rfl (hb hby d7_14) (fun vm' hj => ⟨mm, _, rfl, K, E_mm, F_columns_mm, F_family_cc2, F_qualifier_cc2⟩)
theorem pd_8 : parseMethodDescriptor "(Ljava/lang/String;[B)Lcom/example/rowcall/rowcall/Columns;" = some ⟨[(.object "java/lang/String"), (.array .byte)], some (.object "com/example/rowcall/rowcall/Columns")⟩ := by decide +kernel
theorem d15_0 : decode prog_14_method_4_code 0 = .ok (.new 8, 3) := by decide +kernel
theorem d15_3 : decode prog_14_method_4_code 3 = .ok (.dup, 1) := by decide +kernel
theorem d15_4 : decode prog_14_method_4_code 4 = .ok (.aload_n 0, 1) := by decide +kernel
theorem d15_5 : decode prog_14_method_4_code 5 = .ok (.aload_n 1, 1) := by decide +kernel
theorem d15_6 : decode prog_14_method_4_code 6 = .ok (.invokestatic 34, 3) := by decide +kernel
theorem d15_9 : decode prog_14_method_4_code 9 = .ok (.ldc2_w 29, 3) := by decide +kernel
theorem d15_12 : decode prog_14_method_4_code 12 = .ok (.invokespecial 31, 3) := by decide +kernel
theorem d15_15 : decode prog_14_method_4_code 15 = .ok (.areturn, 1) := by decide +kernel
theorem pn_15 : plainFor (⟨"com/example/rowcall/rowcall/DeleteMarker", "column", "(Ljava/lang/String;[B)Lcom/example/rowcall/rowcall/DeleteMarker;"⟩ : MethodName) = true := plainFor_of_name (by first | (simp [plainName, overriddenIn]; done) | decide +kernel)
theorem ef_15 (m : MethodId) (x0 : Addr) (x1 : Addr) : entryFrame m #[(.ref x0), (.ref x1)] 2 = mkF m 0 #[.val (.ref x0), .val (.ref x1)] [] := by first | (simp [entryFrame, mkF, argsToLocals, Value.category]; done) | rfl
theorem hy_15 : ((⟨"com/example/rowcall/rowcall/DeleteMarker", "column", "(Ljava/lang/String;[B)Lcom/example/rowcall/rowcall/DeleteMarker;"⟩ : MethodName)).cls ≠ "java/lang/invoke/MethodHandle" ∧ ((⟨"com/example/rowcall/rowcall/DeleteMarker", "column", "(Ljava/lang/String;[B)Lcom/example/rowcall/rowcall/DeleteMarker;"⟩ : MethodName)).cls ≠ "java/lang/invoke/VarHandle" := by decide
set_option maxRecDepth 65536 in
set_option maxHeartbeats 40000000 in
theorem rm15 (l : Launch) (Z : State) (a0 : Array Value) (hw : ∀ d ∈ tables_1, d.before a0 Z = true) (ws : List Jvm.Cond) (f q : Addr) (kq : ClassId) (zq : Int32) (vq : List Value) (h0 : Heap) (n0 : Nat) (Z0 : n0 ≤ h0.size) (E_f : Exa Z h0 f "java/lang/String") (V_q : Arv Z h0 q kq .byte zq vq (.int (0 : Int32))) (E_q : Exa Z h0 q "[B") (hz2 : zq.toNatClampNeg ≤ 2) :
    Con l Z (⟨"com/example/rowcall/rowcall/DeleteMarker", "column", "(Ljava/lang/String;[B)Lcom/example/rowcall/rowcall/DeleteMarker;"⟩ : MethodName) prog_14_method_4_code 2 (some (.object "com/example/rowcall/rowcall/DeleteMarker")) ws ({ frames := 3, cells := 5, slots := 34, locals := 42 } : Room) #[(.ref f), (.ref q)] h0 n0 (fun _ => True) (fun v h vm => ∃ mm cc q2 : Addr, v = some (.ref mm) ∧ Keep h0 h [] ∧ Exa Z h mm "com/example/rowcall/rowcall/DeleteMarker" ∧ Fld Z h mm "com/example/rowcall/rowcall/DeleteMarker" "columns" "Lcom/example/rowcall/rowcall/Columns;" (.ref cc) ∧ Fld Z h cc "com/example/rowcall/rowcall/Columns" "family" "Ljava/lang/String;" (.ref f) ∧ Fld Z h cc "com/example/rowcall/rowcall/Columns" "qualifier" "[B" (.ref q2)) := by
  refine Con.of pn_15 ?_
  intro G p e s m below meth c s₁ hs hx hby hml hown hnm hret hZ X0 XR hh0 hJ0 fin
  have hml : c.maxLocals = 2 := hml
  have hown : s.vm.findClass "com/example/rowcall/rowcall/DeleteMarker" = some m.cls := hown
  rw [ef_15]
  have K := Keep.refl h0 ([] : List Addr)
  have Ksz := K.1
  show G s₁ (mkF m 0 #[.val (.ref f), .val (.ref q)] [])
  refine rNewO hs X0 hx hZ hown (hw _ (List.mem_of_getElem? (i := 44) rfl)) (hw _ (List.mem_of_getElem? (i := 45) rfl)) (hw _ (List.mem_of_getElem? (i := 26) rfl)) rfl (hb hby d15_0) (by decide) (by decide) (fun T1 h1 mm g1 X1 E1 E_mm D1 => ?_)
  have g_mm : n0 ≤ mm := by rw [g1]; exact Z0
  have Z0 := Nat.le_trans Z0 E1.1
  have ne_f_mm : f ≠ mm := Nat.ne_of_lt (Nat.lt_of_lt_of_le E_f.lt (Nat.le_of_eq g1.symm))
  have ne_q_mm : q ≠ mm := Nat.ne_of_lt (Nat.lt_of_lt_of_le V_q.lt (Nat.le_of_eq g1.symm))
  have E_f := E_f.ext E1
  have V_q := V_q.ext E1
  have E_q := E_q.ext E1
  have K := K.ext E1
  have sz_mm : h0.size ≤ mm := by rw [g1]; exact Ksz
  have Ksz := K.1
  have F_columns_mm : Fld Z h1 mm "com/example/rowcall/rowcall/DeleteMarker" "columns" "Lcom/example/rowcall/rowcall/Columns;" .null := D1 (Or.inr (hw _ (List.mem_of_getElem? (i := 35) rfl))) (ty := (.object "com/example/rowcall/rowcall/Columns")) (by decide)
  have F_timestamp_mm : Fld Z h1 mm "com/example/rowcall/rowcall/DeleteMarker" "timestamp" "J" (.long (0 : Int64)) := D1 (Or.inr (hw _ (List.mem_of_getElem? (i := 72) rfl))) (ty := .long) (by decide)
  show G T1 (mkF m 3 #[.val (.ref f), .val (.ref q)] [(.ref mm)])
  refine hs.go (fun _ kk_ => XS.dup X1.here hx rfl (hb hby d15_3) rfl rfl kk_) ?_
  show G T1 (mkF m 4 #[.val (.ref f), .val (.ref q)] [(.ref mm), (.ref mm)])
  refine hs.go (fun _ kk_ => XS.aloadN X1.here hx rfl (hb hby d15_4) rfl rfl kk_) ?_
  show G T1 (mkF m 5 #[.val (.ref f), .val (.ref q)] [(.ref f), (.ref mm), (.ref mm)])
  refine hs.go (fun _ kk_ => XS.aloadN X1.here hx rfl (hb hby d15_5) rfl rfl kk_) ?_
  show G T1 (mkF m 6 #[.val (.ref f), .val (.ref q)] [(.ref q), (.ref f), (.ref mm), (.ref mm)])
  refine rCallS hs X1 hx hZ (as' := [(.ref f), (.ref q)]) stbT (rm16 l Z a0 hw [] f q kq zq vq h1 n0 Z0 E_f V_q E_q hz2) hown (hw _ (List.mem_of_getElem? (i := 88) rfl)) (hw _ (List.mem_of_getElem? (i := 89) rfl)) (hw _ (List.mem_of_getElem? (i := 48) rfl)) (hw _ (List.mem_of_getElem? (i := 90) rfl)) hy_16 rfl (by rw [hml]; rfl) [(.ref mm), (.ref mm)] (lenOf pd_8 rfl) rfl 2 (by show 2 * 0 + _ ≤ _; exact Nat.le_of_eq rfl) (hb hby d15_6) (by decide) (by decide) (by decide) (by decide) (fun r2 T2 h2 vm2 X2 q2 => ?_)
  obtain ⟨cc2, q22, rfl, Kc2, hge2, E_cc2, F_family_cc2, F_qualifier_cc2⟩ := q2
  have X2 := X2 (fun _ => True) trivial
  have ne_f_cc2 : f ≠ cc2 := Nat.ne_of_lt (Nat.lt_of_lt_of_le E_f.lt hge2)
  have ne_q_cc2 : q ≠ cc2 := Nat.ne_of_lt (Nat.lt_of_lt_of_le V_q.lt hge2)
  have ne_mm_cc2 : mm ≠ cc2 := Nat.ne_of_lt (Nat.lt_of_lt_of_le E_mm.lt hge2)
  have E_f := E_f.keep Kc2
  have V_q := V_q.keep Kc2 nin0
  have E_q := E_q.keep Kc2
  have E_mm := E_mm.keep Kc2
  have F_columns_mm := F_columns_mm.keep Kc2 nin0
  have F_timestamp_mm := F_timestamp_mm.keep Kc2 nin0
  have K := K.trans Kc2 (fun x hx => by simp at hx)
  have Ksz := K.1
  have Z0 := Nat.le_trans Z0 Kc2.1
  show G T2 (mkF m 9 #[.val (.ref f), .val (.ref q)] [(.ref cc2), (.ref mm), (.ref mm)])
  refine rLdcL hs X2 hx hZ hown (hw _ (List.mem_of_getElem? (i := 65) rfl)) rfl (hb hby d15_9) ?_
  show G T2 (mkF m 12 #[.val (.ref f), .val (.ref q)] [(.long (-1 : Int64)), (.ref cc2), (.ref mm), (.ref mm)])
  refine rCallI hs X2 hx hZ (as' := [(.ref cc2), (.long (-1 : Int64))]) stbT (rm11 l Z a0 hw [] mm cc2 (-1 : Int64) h2 n0 Z0 E_mm g_mm F_columns_mm F_timestamp_mm) rfl hown (hw _ (List.mem_of_getElem? (i := 66) rfl)) (hw _ (List.mem_of_getElem? (i := 67) rfl)) (hw _ (List.mem_of_getElem? (i := 26) rfl)) (hw _ (List.mem_of_getElem? (i := 68) rfl)) hy_11 rfl (by rw [hml]; rfl) [(.ref mm)] (lenOf pd_7 rfl) rfl 1 (by show 2 * 0 + _ ≤ _; exact Nat.le_of_eq rfl) (hb hby d15_12) (by decide) (by decide) (by decide) (by decide) (fun r3 T3 h3 vm3 X3 q3 => ?_)
  obtain ⟨rfl, Kc3, E_mm, F_columns_mm⟩ := q3
  have X3 := X3 (fun _ => True) trivial
  have E_f := E_f.keep Kc3
  have V_q := V_q.keep Kc3 (ninS ne_q_mm nin0)
  have E_q := E_q.keep Kc3
  have E_cc2 := E_cc2.keep Kc3
  have F_family_cc2 := F_family_cc2.keep Kc3 (ninS ne_mm_cc2.symm nin0)
  have F_qualifier_cc2 := F_qualifier_cc2.keep Kc3 (ninS ne_mm_cc2.symm nin0)
  have K := K.trans Kc3 (fun x hx => Or.inr (by cases List.mem_singleton.mp hx; exact sz_mm))
  have Ksz := K.1
  have Z0 := Nat.le_trans Z0 Kc3.1
  show G T3 (mkF m 15 #[.val (.ref f), .val (.ref q)] [(.ref mm)])
  exact rRetA fin stbT X3 hx (by decide) (by decide) hret rfl rfl rfl (hb hby d15_15) (fun vm' hj => ⟨mm, _, _, rfl, K, E_mm, F_columns_mm, F_family_cc2, F_qualifier_cc2⟩)
theorem pd_9 : parseMethodDescriptor "(J)J" = some ⟨[.long], some .long⟩ := by decide +kernel
theorem d17_0 : decode prog_14_method_6_code 0 = .ok (.new 8, 3) := by decide +kernel
theorem d17_3 : decode prog_14_method_6_code 3 = .ok (.dup, 1) := by decide +kernel
theorem d17_4 : decode prog_14_method_6_code 4 = .ok (.aload_n 0, 1) := by decide +kernel
theorem d17_5 : decode prog_14_method_6_code 5 = .ok (.getfield 7, 3) := by decide +kernel
theorem d17_8 : decode prog_14_method_6_code 8 = .ok (.lload_n 1, 1) := by decide +kernel
theorem d17_9 : decode prog_14_method_6_code 9 = .ok (.invokestatic 41, 3) := by decide +kernel
theorem d17_12 : decode prog_14_method_6_code 12 = .ok (.invokespecial 31, 3) := by decide +kernel
theorem d17_15 : decode prog_14_method_6_code 15 = .ok (.areturn, 1) := by decide +kernel
theorem pn_17 : plainFor (⟨"com/example/rowcall/rowcall/DeleteMarker", "at", "(J)Lcom/example/rowcall/rowcall/DeleteMarker;"⟩ : MethodName) = true := plainFor_of_name (by first | (simp [plainName, overriddenIn]; done) | decide +kernel)
theorem ef_17 (m : MethodId) (x0 : Addr) (x1 : Int64) : entryFrame m #[(.ref x0), (.long x1)] 3 = mkF m 0 #[.val (.ref x0), .val (.long x1), .second] [] := by first | (simp [entryFrame, mkF, argsToLocals, Value.category]; done) | rfl
theorem hy_17 : ((⟨"com/example/rowcall/rowcall/DeleteMarker", "at", "(J)Lcom/example/rowcall/rowcall/DeleteMarker;"⟩ : MethodName)).cls ≠ "java/lang/invoke/MethodHandle" ∧ ((⟨"com/example/rowcall/rowcall/DeleteMarker", "at", "(J)Lcom/example/rowcall/rowcall/DeleteMarker;"⟩ : MethodName)).cls ≠ "java/lang/invoke/VarHandle" := by decide
set_option maxRecDepth 65536 in
set_option maxHeartbeats 40000000 in
theorem rm17 (l : Launch) (Z : State) (a0 : Array Value) (hw : ∀ d ∈ tables_1, d.before a0 Z = true) (ws : List Jvm.Cond) (a cc : Addr) (x : Int64) (h0 : Heap) (n0 : Nat) (Z0 : n0 ≤ h0.size) (F_columns_a : Fld Z h0 a "com/example/rowcall/rowcall/DeleteMarker" "columns" "Lcom/example/rowcall/rowcall/Columns;" (.ref cc)) (hq : ¬ (x < (0 : Int64))) :
    Con l Z (⟨"com/example/rowcall/rowcall/DeleteMarker", "at", "(J)Lcom/example/rowcall/rowcall/DeleteMarker;"⟩ : MethodName) prog_14_method_6_code 3 (some (.object "com/example/rowcall/rowcall/DeleteMarker")) ws ({ frames := 2, cells := 1, slots := 2, locals := 28 } : Room) #[(.ref a), (.long x)] h0 n0 (fun _ => True) (fun v h vm => ∃ mm : Addr, v = some (.ref mm) ∧ Keep h0 h [] ∧ Exa Z h mm "com/example/rowcall/rowcall/DeleteMarker" ∧ Fld Z h mm "com/example/rowcall/rowcall/DeleteMarker" "columns" "Lcom/example/rowcall/rowcall/Columns;" (.ref cc)) := by
  refine Con.of pn_17 ?_
  intro G p e s m below meth c s₁ hs hx hby hml hown hnm hret hZ X0 XR hh0 hJ0 fin
  have hml : c.maxLocals = 3 := hml
  have hown : s.vm.findClass "com/example/rowcall/rowcall/DeleteMarker" = some m.cls := hown
  rw [ef_17]
  have K := Keep.refl h0 ([] : List Addr)
  have Ksz := K.1
  show G s₁ (mkF m 0 #[.val (.ref a), .val (.long x), .second] [])
  refine rNewO hs X0 hx hZ hown (hw _ (List.mem_of_getElem? (i := 44) rfl)) (hw _ (List.mem_of_getElem? (i := 45) rfl)) (hw _ (List.mem_of_getElem? (i := 26) rfl)) rfl (hb hby d17_0) (by decide) (by decide) (fun T1 h1 mm g1 X1 E1 E_mm D1 => ?_)
  have g_mm : n0 ≤ mm := by rw [g1]; exact Z0
  have Z0 := Nat.le_trans Z0 E1.1
  have ne_a_mm : a ≠ mm := Nat.ne_of_lt (Nat.lt_of_lt_of_le F_columns_a.lt (Nat.le_of_eq g1.symm))
  have F_columns_a := F_columns_a.ext E1
  have K := K.ext E1
  have sz_mm : h0.size ≤ mm := by rw [g1]; exact Ksz
  have Ksz := K.1
  have F_columns_mm : Fld Z h1 mm "com/example/rowcall/rowcall/DeleteMarker" "columns" "Lcom/example/rowcall/rowcall/Columns;" .null := D1 (Or.inr (hw _ (List.mem_of_getElem? (i := 35) rfl))) (ty := (.object "com/example/rowcall/rowcall/Columns")) (by decide)
  have F_timestamp_mm : Fld Z h1 mm "com/example/rowcall/rowcall/DeleteMarker" "timestamp" "J" (.long (0 : Int64)) := D1 (Or.inr (hw _ (List.mem_of_getElem? (i := 72) rfl))) (ty := .long) (by decide)
  show G T1 (mkF m 3 #[.val (.ref a), .val (.long x), .second] [(.ref mm)])
  refine hs.go (fun _ kk_ => XS.dup X1.here hx rfl (hb hby d17_3) rfl rfl kk_) ?_
  show G T1 (mkF m 4 #[.val (.ref a), .val (.long x), .second] [(.ref mm), (.ref mm)])
  refine hs.go (fun _ kk_ => XS.aloadN X1.here hx rfl (hb hby d17_4) rfl rfl kk_) ?_
  show G T1 (mkF m 5 #[.val (.ref a), .val (.long x), .second] [(.ref a), (.ref mm), (.ref mm)])
  refine rGetF hs X1 hx hZ hown (host := "") (Or.inl (hw _ (List.mem_of_getElem? (i := 70) rfl))) Via.refl F_columns_a rfl rfl (hb hby d17_5) (fun T2 X2 => ?_)
  show G T2 (mkF m 8 #[.val (.ref a), .val (.long x), .second] [(.ref cc), (.ref mm), (.ref mm)])
  refine hs.go (fun _ kk_ => XS.lloadN X2.here hx rfl (hb hby d17_8) rfl  kk_) ?_
  show G T2 (mkF m 9 #[.val (.ref a), .val (.long x), .second] [(.long x), (.ref cc), (.ref mm), (.ref mm)])
  refine rCallS hs X2 hx hZ (as' := [(.long x)]) stbT (rm18 l Z a0 hw [] x h1 n0 Z0 hq) hown (hw _ (List.mem_of_getElem? (i := 106) rfl)) (hw _ (List.mem_of_getElem? (i := 107) rfl)) (hw _ (List.mem_of_getElem? (i := 108) rfl)) (hw _ (List.mem_of_getElem? (i := 109) rfl)) hy_18 rfl (by rw [hml]; rfl) [(.ref cc), (.ref mm), (.ref mm)] (lenOf pd_9 rfl) rfl 3 (by show 2 * 0 + _ ≤ _; exact Nat.le_of_eq rfl) (hb hby d17_9) (by decide) (by decide) (by decide) (by decide) (fun r3 T3 h3 vm3 X3 q3 => ?_)
  obtain ⟨rfl, qh3⟩ := q3
  have X3 := X3 (fun _ => True) trivial
  rw [qh3] at X3
  show G T3 (mkF m 12 #[.val (.ref a), .val (.long x), .second] [(.long x), (.ref cc), (.ref mm), (.ref mm)])
  refine rCallI hs X3 hx hZ (as' := [(.ref cc), (.long x)]) stbT (rm11 l Z a0 hw [] mm cc x h1 n0 Z0 E_mm g_mm F_columns_mm F_timestamp_mm) rfl hown (hw _ (List.mem_of_getElem? (i := 66) rfl)) (hw _ (List.mem_of_getElem? (i := 67) rfl)) (hw _ (List.mem_of_getElem? (i := 26) rfl)) (hw _ (List.mem_of_getElem? (i := 68) rfl)) hy_11 rfl (by rw [hml]; rfl) [(.ref mm)] (lenOf pd_7 rfl) rfl 1 (by show 2 * 0 + _ ≤ _; exact Nat.le_of_eq rfl) (hb hby d17_12) (by decide) (by decide) (by decide) (by decide) (fun r4 T4 h4 vm4 X4 q4 => ?_)
  obtain ⟨rfl, Kc4, E_mm, F_columns_mm⟩ := q4
  have X4 := X4 (fun _ => True) trivial
  have F_columns_a := F_columns_a.keep Kc4 (ninS ne_a_mm nin0)
  have K := K.trans Kc4 (fun x hx => Or.inr (by cases List.mem_singleton.mp hx; exact sz_mm))
  have Ksz := K.1
  have Z0 := Nat.le_trans Z0 Kc4.1
  show G T4 (mkF m 15 #[.val (.ref a), .val (.long x), .second] [(.ref mm)])
  exact rRetA fin stbT X4 hx (by decide) (by decide) hret rfl rfl rfl (hb hby d17_15) (fun vm' hj => ⟨mm, rfl, K, E_mm, F_columns_mm⟩)
theorem d4_0 : decode prog_14_method_2_code 0 = .ok (.getstatic 17, 3) := by decide +kernel
theorem d4_3 : decode prog_14_method_2_code 3 = .ok (.areturn, 1) := by decide +kernel
theorem pn_4 : plainFor (⟨"com/example/rowcall/rowcall/DeleteMarker", "row", "()Lcom/example/rowcall/rowcall/DeleteMarker;"⟩ : MethodName) = true := plainFor_of_name (by first | (simp [plainName, overriddenIn]; done) | decide +kernel)
theorem ef_4 (m : MethodId)  : entryFrame m #[] 0 = mkF m 0 #[] [] := by first | (simp [entryFrame, mkF, argsToLocals, Value.category]; done) | rfl
theorem hy_4 : ((⟨"com/example/rowcall/rowcall/DeleteMarker", "row", "()Lcom/example/rowcall/rowcall/DeleteMarker;"⟩ : MethodName)).cls ≠ "java/lang/invoke/MethodHandle" ∧ ((⟨"com/example/rowcall/rowcall/DeleteMarker", "row", "()Lcom/example/rowcall/rowcall/DeleteMarker;"⟩ : MethodName)).cls ≠ "java/lang/invoke/VarHandle" := by decide
set_option maxRecDepth 65536 in
set_option maxHeartbeats 40000000 in
theorem rm4 (l : Launch) (Z : State) (a0 : Array Value) (hw : ∀ d ∈ tables_1, d.before a0 Z = true) (ws : List Jvm.Cond) (ro : Addr) (h0 : Heap) (n0 : Nat) (Z0 : n0 ≤ h0.size) (R0 : Sta Z h0 "com/example/rowcall/rowcall/DeleteMarker" "ROW" "Lcom/example/rowcall/rowcall/DeleteMarker;" (.ref ro)) :
    Con l Z (⟨"com/example/rowcall/rowcall/DeleteMarker", "row", "()Lcom/example/rowcall/rowcall/DeleteMarker;"⟩ : MethodName) prog_14_method_2_code 0 (some (.object "com/example/rowcall/rowcall/DeleteMarker")) ws ({ frames := 0, cells := 0, slots := 0, locals := 0 } : Room) #[] h0 n0 (fun _ => True) (fun v h vm => v = some (.ref ro) ∧ h = h0) := by
  refine Con.of pn_4 ?_
  intro G p e s m below meth c s₁ hs hx hby hml hown hnm hret hZ X0 XR hh0 hJ0 fin
  have hml : c.maxLocals = 0 := hml
  have hown : s.vm.findClass "com/example/rowcall/rowcall/DeleteMarker" = some m.cls := hown
  rw [ef_4]
  show G s₁ (mkF m 0 #[] [])
  refine rGetS hs X0 hx hZ hown (host := "") (Or.inl (hw _ (List.mem_of_getElem? (i := 28) rfl))) Via.refl R0 rfl (hb hby d4_0) (fun T1 X1 => ?_)
  show G T1 (mkF m 3 #[] [(.ref ro)])
  exact rRetA fin stbT X1 hx (by decide) (by decide) hret rfl rfl rfl (hb hby d4_3) (fun vm' hj => ⟨rfl, rfl⟩)
theorem pd_10 : parseMethodDescriptor "()Lcom/example/rowcall/rowcall/DeleteMarker;" = some ⟨[], some (.object "com/example/rowcall/rowcall/DeleteMarker")⟩ := by decide +kernel
theorem pd_11 : parseMethodDescriptor "(Lcom/example/rowcall/rowcall/DeleteMarker;)B" = some ⟨[(.object "com/example/rowcall/rowcall/DeleteMarker")], some .byte⟩ := by decide +kernel
theorem pd_12 : parseMethodDescriptor "(B)Z" = some ⟨[.byte], some .boolean⟩ := by decide +kernel
theorem pd_13 : parseMethodDescriptor "(J)Lcom/example/rowcall/rowcall/DeleteMarker;" = some ⟨[.long], some (.object "com/example/rowcall/rowcall/DeleteMarker")⟩ := by decide +kernel
theorem pd_14 : parseMethodDescriptor "(Ljava/lang/String;)Lcom/example/rowcall/rowcall/DeleteMarker;" = some ⟨[(.object "java/lang/String")], some (.object "com/example/rowcall/rowcall/DeleteMarker")⟩ := by decide +kernel
theorem pd_15 : parseMethodDescriptor "(Ljava/lang/String;[B)Lcom/example/rowcall/rowcall/DeleteMarker;" = some ⟨[(.object "java/lang/String"), (.array .byte)], some (.object "com/example/rowcall/rowcall/DeleteMarker")⟩ := by decide +kernel
theorem pd_16 : parseMethodDescriptor "([C)V" = some ⟨[(.array .char)], none⟩ := by decide +kernel
theorem pn_0 : plainFor x = true := plainFor_of_name (show plainName "com/example/rowcall/rowcall/TableFilesMarkerKindPinLaw" = true by first | (simp [plainName, overriddenIn]; done) | decide +kernel)
theorem ef_0 (m : MethodId) (x0 : Int32) (x1 : Int32) (x2 : Int32) (x3 : Int32) (x4 : Int64) : entryFrame m #[(.int x0), (.int x1), (.int x2), (.int x3), (.long x4)] maxLocals = mkF m 0 #[.val (.int x0), .val (.int x1), .val (.int x2), .val (.int x3), .val (.long x4), .second, .unset, .unset, .unset, .unset, .unset, .unset, .unset, .unset, .unset, .unset, .unset, .unset, .unset, .unset, .unset, .unset, .unset, .unset, .unset] [] := by first | (simp [entryFrame, mkF, argsToLocals, Value.category, maxLocals]; done) | rfl
set_option maxRecDepth 65536 in
set_option maxHeartbeats 40000000 in
theorem rm0 (l : Launch) (Z : State) (a0 : Array Value) (hw : ∀ d ∈ tables_1, d.before a0 Z = true) (ws : List Jvm.Cond) (i1 i2 i3 i4 : Int32) (t5 : Int64) (h0 : Heap) (n0 : Nat) (Z0 : n0 ≤ h0.size) (O : Old Z n0 h0) (cw : Int32) (S0 : Sta Z Z.heap "java/lang/String" "COMPACT_STRINGS" "Z" (.int cw)) (hcw : ¬ (cw = (0 : Int32))) (HC : Jvm.Lit.constHeld Z "java/lang/String" 7) (HW : Jvm.Lit.compactW.before a0 Z = true) (ro rc : Addr) (R0 : Sta Z Z.heap "com/example/rowcall/rowcall/DeleteMarker" "ROW" "Lcom/example/rowcall/rowcall/DeleteMarker;" (.ref ro)) (E_ro : Exa Z Z.heap ro "com/example/rowcall/rowcall/DeleteMarker") (F_columns_ro : Fld Z Z.heap ro "com/example/rowcall/rowcall/DeleteMarker" "columns" "Lcom/example/rowcall/rowcall/Columns;" (.ref rc)) (F_family_rc : Fld Z Z.heap rc "com/example/rowcall/rowcall/Columns" "family" "Ljava/lang/String;" .null) :
    Con l Z x code maxLocals ret ws room_1 #[(.int i1), (.int i2), (.int i3), (.int i4), (.long t5)] h0 n0 (Jn Z []) (fun v h vm => v = some (.int 1)) := by
  refine Con.of pn_0 ?_
  intro G p e s m below meth c s₁ hs hx hby hml hown hnm hret hZ X0 XR hh0 hJ0 fin
  have hml : c.maxLocals = 25 := hml
  have hown : s.vm.findClass "com/example/rowcall/rowcall/TableFilesMarkerKindPinLaw" = some m.cls := hown
  rw [ef_0]
  show G s₁ (mkF m 0 #[.val (.int i1), .val (.int i2), .val (.int i3), .val (.int i4), .val (.long t5), .second, .unset, .unset, .unset, .unset, .unset, .unset, .unset, .unset, .unset, .unset, .unset, .unset, .unset, .unset, .unset, .unset, .unset, .unset, .unset] [])
  refine hs.go (fun _ kk_ => XS.iloadN X0.here hx rfl (hb hby at_0) rfl  kk_) ?_
  show G s₁ (mkF m 1 #[.val (.int i1), .val (.int i2), .val (.int i3), .val (.int i4), .val (.long t5), .second, .unset, .unset, .unset, .unset, .unset, .unset, .unset, .unset, .unset, .unset, .unset, .unset, .unset, .unset, .unset, .unset, .unset, .unset, .unset] [(.int i1)])
  refine rLdcI hs X0 hx hZ hown (hw _ (List.mem_of_getElem? (i := 0) rfl)) rfl (hb hby at_1) ?_
  show G s₁ (mkF m 3 #[.val (.int i1), .val (.int i2), .val (.int i3), .val (.int i4), .val (.long t5), .second, .unset, .unset, .unset, .unset, .unset, .unset, .unset, .unset, .unset, .unset, .unset, .unset, .unset, .unset, .unset, .unset, .unset, .unset, .unset] [(.int (2147483647 : Int32)), (.int i1)])
  refine hs.go (fun _ kk_ => XS.iand X0.here hx rfl (hb hby at_3) rfl kk_) ?_
  show G s₁ (mkF m 4 #[.val (.int i1), .val (.int i2), .val (.int i3), .val (.int i4), .val (.long t5), .second, .unset, .unset, .unset, .unset, .unset, .unset, .unset, .unset, .unset, .unset, .unset, .unset, .unset, .unset, .unset, .unset, .unset, .unset, .unset] [(.int (i1 &&& (2147483647 : Int32)))])
  refine hs.go (fun _ kk_ => XS.iconst X0.here hx rfl (hb hby at_4) kk_) ?_
  show G s₁ (mkF m 5 #[.val (.int i1), .val (.int i2), .val (.int i3), .val (.int i4), .val (.long t5), .second, .unset, .unset, .unset, .unset, .unset, .unset, .unset, .unset, .unset, .unset, .unset, .unset, .unset, .unset, .unset, .unset, .unset, .unset, .unset] [(.int (3 : Int32)), (.int (i1 &&& (2147483647 : Int32)))])
  refine rIrem hs X0 hx rfl (hb hby at_5) rfl (by decide) ?_
  show G s₁ (mkF m 6 #[.val (.int i1), .val (.int i2), .val (.int i3), .val (.int i4), .val (.long t5), .second, .unset, .unset, .unset, .unset, .unset, .unset, .unset, .unset, .unset, .unset, .unset, .unset, .unset, .unset, .unset, .unset, .unset, .unset, .unset] [(.int ((i1 &&& (2147483647 : Int32)) % (3 : Int32)))])
  refine nameIt (P := fun zz_ : Int32 => G s₁ (mkF m 6 #[.val (.int i1), .val (.int i2), .val (.int i3), .val (.int i4), .val (.long t5), .second, .unset, .unset, .unset, .unset, .unset, .unset, .unset, .unset, .unset, .unset, .unset, .unset, .unset, .unset, .unset, .unset, .unset, .unset, .unset] [(.int zz_)])) ((i1 &&& (2147483647 : Int32)) % (3 : Int32)) (fun kd hkd => ?_)
  show G s₁ (mkF m 6 #[.val (.int i1), .val (.int i2), .val (.int i3), .val (.int i4), .val (.long t5), .second, .unset, .unset, .unset, .unset, .unset, .unset, .unset, .unset, .unset, .unset, .unset, .unset, .unset, .unset, .unset, .unset, .unset, .unset, .unset] [(.int kd)])
  refine hs.go (fun _ kk_ => XS.istore X0.here hx rfl (hb hby at_6) rfl (l' := #[.val (.int i1), .val (.int i2), .val (.int i3), .val (.int i4), .val (.long t5), .second, .val (.int kd), .unset, .unset, .unset, .unset, .unset, .unset, .unset, .unset, .unset, .unset, .unset, .unset, .unset, .unset, .unset, .unset, .unset, .unset]) rfl kk_) ?_
  show G s₁ (mkF m 8 #[.val (.int i1), .val (.int i2), .val (.int i3), .val (.int i4), .val (.long t5), .second, .val (.int kd), .unset, .unset, .unset, .unset, .unset, .unset, .unset, .unset, .unset, .unset, .unset, .unset, .unset, .unset, .unset, .unset, .unset, .unset] [])
  have J22 : ∀ (fl : Int32), (((((i1.toUInt32 >>> ((16 : Int32) &&& 31).toUInt32).toInt32) &&& (1 : Int32)) = (0 : Int32) ∧ fl = (0 : Int32)) ∨ (¬ ((((i1.toUInt32 >>> ((16 : Int32) &&& 31).toUInt32).toInt32) &&& (1 : Int32)) = (0 : Int32)) ∧ fl = (1 : Int32))) → G s₁ (mkF m 22 #[.val (.int i1), .val (.int i2), .val (.int i3), .val (.int i4), .val (.long t5), .second, .val (.int kd), .unset, .unset, .unset, .unset, .unset, .unset, .unset, .unset, .unset, .unset, .unset, .unset, .unset, .unset, .unset, .unset, .unset, .unset] [(.int fl)]) := by
    intro fl hJ22
    show G s₁ (mkF m 22 #[.val (.int i1), .val (.int i2), .val (.int i3), .val (.int i4), .val (.long t5), .second, .val (.int kd), .unset, .unset, .unset, .unset, .unset, .unset, .unset, .unset, .unset, .unset, .unset, .unset, .unset, .unset, .unset, .unset, .unset, .unset] [(.int fl)])
    refine hs.go (fun _ kk_ => XS.istore X0.here hx rfl (hb hby at_22) rfl (l' := #[.val (.int i1), .val (.int i2), .val (.int i3), .val (.int i4), .val (.long t5), .second, .val (.int kd), .val (.int fl), .unset, .unset, .unset, .unset, .unset, .unset, .unset, .unset, .unset, .unset, .unset, .unset, .unset, .unset, .unset, .unset, .unset]) rfl kk_) ?_
    show G s₁ (mkF m 24 #[.val (.int i1), .val (.int i2), .val (.int i3), .val (.int i4), .val (.long t5), .second, .val (.int kd), .val (.int fl), .unset, .unset, .unset, .unset, .unset, .unset, .unset, .unset, .unset, .unset, .unset, .unset, .unset, .unset, .unset, .unset, .unset] [])
    refine hs.go (fun _ kk_ => XS.iloadN X0.here hx rfl (hb hby at_24) rfl  kk_) ?_
    show G s₁ (mkF m 25 #[.val (.int i1), .val (.int i2), .val (.int i3), .val (.int i4), .val (.long t5), .second, .val (.int kd), .val (.int fl), .unset, .unset, .unset, .unset, .unset, .unset, .unset, .unset, .unset, .unset, .unset, .unset, .unset, .unset, .unset, .unset, .unset] [(.int i2)])
    refine rLdcI hs X0 hx hZ hown (hw _ (List.mem_of_getElem? (i := 0) rfl)) rfl (hb hby at_25) ?_
    show G s₁ (mkF m 27 #[.val (.int i1), .val (.int i2), .val (.int i3), .val (.int i4), .val (.long t5), .second, .val (.int kd), .val (.int fl), .unset, .unset, .unset, .unset, .unset, .unset, .unset, .unset, .unset, .unset, .unset, .unset, .unset, .unset, .unset, .unset, .unset] [(.int (2147483647 : Int32)), (.int i2)])
    refine hs.go (fun _ kk_ => XS.iand X0.here hx rfl (hb hby at_27) rfl kk_) ?_
    show G s₁ (mkF m 28 #[.val (.int i1), .val (.int i2), .val (.int i3), .val (.int i4), .val (.long t5), .second, .val (.int kd), .val (.int fl), .unset, .unset, .unset, .unset, .unset, .unset, .unset, .unset, .unset, .unset, .unset, .unset, .unset, .unset, .unset, .unset, .unset] [(.int (i2 &&& (2147483647 : Int32)))])
    refine hs.go (fun _ kk_ => XS.iconst X0.here hx rfl (hb hby at_28) kk_) ?_
    show G s₁ (mkF m 29 #[.val (.int i1), .val (.int i2), .val (.int i3), .val (.int i4), .val (.long t5), .second, .val (.int kd), .val (.int fl), .unset, .unset, .unset, .unset, .unset, .unset, .unset, .unset, .unset, .unset, .unset, .unset, .unset, .unset, .unset, .unset, .unset] [(.int (3 : Int32)), (.int (i2 &&& (2147483647 : Int32)))])
    refine rIrem hs X0 hx rfl (hb hby at_29) rfl (by decide) ?_
    show G s₁ (mkF m 30 #[.val (.int i1), .val (.int i2), .val (.int i3), .val (.int i4), .val (.long t5), .second, .val (.int kd), .val (.int fl), .unset, .unset, .unset, .unset, .unset, .unset, .unset, .unset, .unset, .unset, .unset, .unset, .unset, .unset, .unset, .unset, .unset] [(.int ((i2 &&& (2147483647 : Int32)) % (3 : Int32)))])
    refine nameIt (P := fun zz_ : Int32 => G s₁ (mkF m 30 #[.val (.int i1), .val (.int i2), .val (.int i3), .val (.int i4), .val (.long t5), .second, .val (.int kd), .val (.int fl), .unset, .unset, .unset, .unset, .unset, .unset, .unset, .unset, .unset, .unset, .unset, .unset, .unset, .unset, .unset, .unset, .unset] [(.int zz_)])) ((i2 &&& (2147483647 : Int32)) % (3 : Int32)) (fun nl hnl => ?_)
    show G s₁ (mkF m 30 #[.val (.int i1), .val (.int i2), .val (.int i3), .val (.int i4), .val (.long t5), .second, .val (.int kd), .val (.int fl), .unset, .unset, .unset, .unset, .unset, .unset, .unset, .unset, .unset, .unset, .unset, .unset, .unset, .unset, .unset, .unset, .unset] [(.int nl)])
    refine hs.go (fun _ kk_ => XS.istore X0.here hx rfl (hb hby at_30) rfl (l' := #[.val (.int i1), .val (.int i2), .val (.int i3), .val (.int i4), .val (.long t5), .second, .val (.int kd), .val (.int fl), .val (.int nl), .unset, .unset, .unset, .unset, .unset, .unset, .unset, .unset, .unset, .unset, .unset, .unset, .unset, .unset, .unset, .unset]) rfl kk_) ?_
    show G s₁ (mkF m 32 #[.val (.int i1), .val (.int i2), .val (.int i3), .val (.int i4), .val (.long t5), .second, .val (.int kd), .val (.int fl), .val (.int nl), .unset, .unset, .unset, .unset, .unset, .unset, .unset, .unset, .unset, .unset, .unset, .unset, .unset, .unset, .unset, .unset] [])
    refine hs.go (fun _ kk_ => XS.iloadN X0.here hx rfl (hb hby at_32) rfl  kk_) ?_
    show G s₁ (mkF m 33 #[.val (.int i1), .val (.int i2), .val (.int i3), .val (.int i4), .val (.long t5), .second, .val (.int kd), .val (.int fl), .val (.int nl), .unset, .unset, .unset, .unset, .unset, .unset, .unset, .unset, .unset, .unset, .unset, .unset, .unset, .unset, .unset, .unset] [(.int i2)])
    refine hs.go (fun _ kk_ => XS.bipush X0.here hx rfl (hb hby at_33) kk_) ?_
    show G s₁ (mkF m 35 #[.val (.int i1), .val (.int i2), .val (.int i3), .val (.int i4), .val (.long t5), .second, .val (.int kd), .val (.int fl), .val (.int nl), .unset, .unset, .unset, .unset, .unset, .unset, .unset, .unset, .unset, .unset, .unset, .unset, .unset, .unset, .unset, .unset] [(.int (8 : Int32)), (.int i2)])
    refine hs.go (fun _ kk_ => XS.iushr X0.here hx rfl (hb hby at_35) rfl kk_) ?_
    show G s₁ (mkF m 36 #[.val (.int i1), .val (.int i2), .val (.int i3), .val (.int i4), .val (.long t5), .second, .val (.int kd), .val (.int fl), .val (.int nl), .unset, .unset, .unset, .unset, .unset, .unset, .unset, .unset, .unset, .unset, .unset, .unset, .unset, .unset, .unset, .unset] [(.int ((i2.toUInt32 >>> ((8 : Int32) &&& 31).toUInt32).toInt32))])
    refine rLdcI hs X0 hx hZ hown (hw _ (List.mem_of_getElem? (i := 1) rfl)) rfl (hb hby at_36) ?_
    show G s₁ (mkF m 38 #[.val (.int i1), .val (.int i2), .val (.int i3), .val (.int i4), .val (.long t5), .second, .val (.int kd), .val (.int fl), .val (.int nl), .unset, .unset, .unset, .unset, .unset, .unset, .unset, .unset, .unset, .unset, .unset, .unset, .unset, .unset, .unset, .unset] [(.int (8388607 : Int32)), (.int ((i2.toUInt32 >>> ((8 : Int32) &&& 31).toUInt32).toInt32))])
    refine hs.go (fun _ kk_ => XS.iand X0.here hx rfl (hb hby at_38) rfl kk_) ?_
    show G s₁ (mkF m 39 #[.val (.int i1), .val (.int i2), .val (.int i3), .val (.int i4), .val (.long t5), .second, .val (.int kd), .val (.int fl), .val (.int nl), .unset, .unset, .unset, .unset, .unset, .unset, .unset, .unset, .unset, .unset, .unset, .unset, .unset, .unset, .unset, .unset] [(.int (((i2.toUInt32 >>> ((8 : Int32) &&& 31).toUInt32).toInt32) &&& (8388607 : Int32)))])
    refine hs.go (fun _ kk_ => XS.iconst X0.here hx rfl (hb hby at_39) kk_) ?_
    show G s₁ (mkF m 40 #[.val (.int i1), .val (.int i2), .val (.int i3), .val (.int i4), .val (.long t5), .second, .val (.int kd), .val (.int fl), .val (.int nl), .unset, .unset, .unset, .unset, .unset, .unset, .unset, .unset, .unset, .unset, .unset, .unset, .unset, .unset, .unset, .unset] [(.int (3 : Int32)), (.int (((i2.toUInt32 >>> ((8 : Int32) &&& 31).toUInt32).toInt32) &&& (8388607 : Int32)))])
    refine rIrem hs X0 hx rfl (hb hby at_40) rfl (by decide) ?_
    show G s₁ (mkF m 41 #[.val (.int i1), .val (.int i2), .val (.int i3), .val (.int i4), .val (.long t5), .second, .val (.int kd), .val (.int fl), .val (.int nl), .unset, .unset, .unset, .unset, .unset, .unset, .unset, .unset, .unset, .unset, .unset, .unset, .unset, .unset, .unset, .unset] [(.int ((((i2.toUInt32 >>> ((8 : Int32) &&& 31).toUInt32).toInt32) &&& (8388607 : Int32)) % (3 : Int32)))])
    refine nameIt (P := fun zz_ : Int32 => G s₁ (mkF m 41 #[.val (.int i1), .val (.int i2), .val (.int i3), .val (.int i4), .val (.long t5), .second, .val (.int kd), .val (.int fl), .val (.int nl), .unset, .unset, .unset, .unset, .unset, .unset, .unset, .unset, .unset, .unset, .unset, .unset, .unset, .unset, .unset, .unset] [(.int zz_)])) ((((i2.toUInt32 >>> ((8 : Int32) &&& 31).toUInt32).toInt32) &&& (8388607 : Int32)) % (3 : Int32)) (fun ql hql => ?_)
    show G s₁ (mkF m 41 #[.val (.int i1), .val (.int i2), .val (.int i3), .val (.int i4), .val (.long t5), .second, .val (.int kd), .val (.int fl), .val (.int nl), .unset, .unset, .unset, .unset, .unset, .unset, .unset, .unset, .unset, .unset, .unset, .unset, .unset, .unset, .unset, .unset] [(.int ql)])
    refine hs.go (fun _ kk_ => XS.istore X0.here hx rfl (hb hby at_41) rfl (l' := #[.val (.int i1), .val (.int i2), .val (.int i3), .val (.int i4), .val (.long t5), .second, .val (.int kd), .val (.int fl), .val (.int nl), .val (.int ql), .unset, .unset, .unset, .unset, .unset, .unset, .unset, .unset, .unset, .unset, .unset, .unset, .unset, .unset, .unset]) rfl kk_) ?_
    show G s₁ (mkF m 43 #[.val (.int i1), .val (.int i2), .val (.int i3), .val (.int i4), .val (.long t5), .second, .val (.int kd), .val (.int fl), .val (.int nl), .val (.int ql), .unset, .unset, .unset, .unset, .unset, .unset, .unset, .unset, .unset, .unset, .unset, .unset, .unset, .unset, .unset] [])
    refine hs.go (fun _ kk_ => XS.iloadN X0.here hx rfl (hb hby at_43) rfl  kk_) ?_
    show G s₁ (mkF m 44 #[.val (.int i1), .val (.int i2), .val (.int i3), .val (.int i4), .val (.long t5), .second, .val (.int kd), .val (.int fl), .val (.int nl), .val (.int ql), .unset, .unset, .unset, .unset, .unset, .unset, .unset, .unset, .unset, .unset, .unset, .unset, .unset, .unset, .unset] [(.int i3)])
    refine hs.go (fun _ kk_ => XS.sipush X0.here hx rfl (hb hby at_44) kk_) ?_
    show G s₁ (mkF m 47 #[.val (.int i1), .val (.int i2), .val (.int i3), .val (.int i4), .val (.long t5), .second, .val (.int kd), .val (.int fl), .val (.int nl), .val (.int ql), .unset, .unset, .unset, .unset, .unset, .unset, .unset, .unset, .unset, .unset, .unset, .unset, .unset, .unset, .unset] [(.int (255 : Int32)), (.int i3)])
    refine hs.go (fun _ kk_ => XS.iand X0.here hx rfl (hb hby at_47) rfl kk_) ?_
    show G s₁ (mkF m 48 #[.val (.int i1), .val (.int i2), .val (.int i3), .val (.int i4), .val (.long t5), .second, .val (.int kd), .val (.int fl), .val (.int nl), .val (.int ql), .unset, .unset, .unset, .unset, .unset, .unset, .unset, .unset, .unset, .unset, .unset, .unset, .unset, .unset, .unset] [(.int (i3 &&& (255 : Int32)))])
    refine hs.go (fun _ kk_ => XS.i2c X0.here hx rfl (hb hby at_48) rfl kk_) ?_
    show G s₁ (mkF m 49 #[.val (.int i1), .val (.int i2), .val (.int i3), .val (.int i4), .val (.long t5), .second, .val (.int kd), .val (.int fl), .val (.int nl), .val (.int ql), .unset, .unset, .unset, .unset, .unset, .unset, .unset, .unset, .unset, .unset, .unset, .unset, .unset, .unset, .unset] [(.int ((i3 &&& (255 : Int32)).toUInt32.toUInt16.toUInt32.toInt32))])
    refine nameIt (P := fun zz_ : Int32 => G s₁ (mkF m 49 #[.val (.int i1), .val (.int i2), .val (.int i3), .val (.int i4), .val (.long t5), .second, .val (.int kd), .val (.int fl), .val (.int nl), .val (.int ql), .unset, .unset, .unset, .unset, .unset, .unset, .unset, .unset, .unset, .unset, .unset, .unset, .unset, .unset, .unset] [(.int zz_)])) ((i3 &&& (255 : Int32)).toUInt32.toUInt16.toUInt32.toInt32) (fun c0 hc0 => ?_)
    show G s₁ (mkF m 49 #[.val (.int i1), .val (.int i2), .val (.int i3), .val (.int i4), .val (.long t5), .second, .val (.int kd), .val (.int fl), .val (.int nl), .val (.int ql), .unset, .unset, .unset, .unset, .unset, .unset, .unset, .unset, .unset, .unset, .unset, .unset, .unset, .unset, .unset] [(.int c0)])
    refine hs.go (fun _ kk_ => XS.istore X0.here hx rfl (hb hby at_49) rfl (l' := #[.val (.int i1), .val (.int i2), .val (.int i3), .val (.int i4), .val (.long t5), .second, .val (.int kd), .val (.int fl), .val (.int nl), .val (.int ql), .val (.int c0), .unset, .unset, .unset, .unset, .unset, .unset, .unset, .unset, .unset, .unset, .unset, .unset, .unset, .unset]) rfl kk_) ?_
    show G s₁ (mkF m 51 #[.val (.int i1), .val (.int i2), .val (.int i3), .val (.int i4), .val (.long t5), .second, .val (.int kd), .val (.int fl), .val (.int nl), .val (.int ql), .val (.int c0), .unset, .unset, .unset, .unset, .unset, .unset, .unset, .unset, .unset, .unset, .unset, .unset, .unset, .unset] [])
    refine hs.go (fun _ kk_ => XS.iloadN X0.here hx rfl (hb hby at_51) rfl  kk_) ?_
    show G s₁ (mkF m 52 #[.val (.int i1), .val (.int i2), .val (.int i3), .val (.int i4), .val (.long t5), .second, .val (.int kd), .val (.int fl), .val (.int nl), .val (.int ql), .val (.int c0), .unset, .unset, .unset, .unset, .unset, .unset, .unset, .unset, .unset, .unset, .unset, .unset, .unset, .unset] [(.int i3)])
    refine hs.go (fun _ kk_ => XS.bipush X0.here hx rfl (hb hby at_52) kk_) ?_
    show G s₁ (mkF m 54 #[.val (.int i1), .val (.int i2), .val (.int i3), .val (.int i4), .val (.long t5), .second, .val (.int kd), .val (.int fl), .val (.int nl), .val (.int ql), .val (.int c0), .unset, .unset, .unset, .unset, .unset, .unset, .unset, .unset, .unset, .unset, .unset, .unset, .unset, .unset] [(.int (8 : Int32)), (.int i3)])
    refine hs.go (fun _ kk_ => XS.iushr X0.here hx rfl (hb hby at_54) rfl kk_) ?_
    show G s₁ (mkF m 55 #[.val (.int i1), .val (.int i2), .val (.int i3), .val (.int i4), .val (.long t5), .second, .val (.int kd), .val (.int fl), .val (.int nl), .val (.int ql), .val (.int c0), .unset, .unset, .unset, .unset, .unset, .unset, .unset, .unset, .unset, .unset, .unset, .unset, .unset, .unset] [(.int ((i3.toUInt32 >>> ((8 : Int32) &&& 31).toUInt32).toInt32))])
    refine hs.go (fun _ kk_ => XS.sipush X0.here hx rfl (hb hby at_55) kk_) ?_
    show G s₁ (mkF m 58 #[.val (.int i1), .val (.int i2), .val (.int i3), .val (.int i4), .val (.long t5), .second, .val (.int kd), .val (.int fl), .val (.int nl), .val (.int ql), .val (.int c0), .unset, .unset, .unset, .unset, .unset, .unset, .unset, .unset, .unset, .unset, .unset, .unset, .unset, .unset] [(.int (255 : Int32)), (.int ((i3.toUInt32 >>> ((8 : Int32) &&& 31).toUInt32).toInt32))])
    refine hs.go (fun _ kk_ => XS.iand X0.here hx rfl (hb hby at_58) rfl kk_) ?_
    show G s₁ (mkF m 59 #[.val (.int i1), .val (.int i2), .val (.int i3), .val (.int i4), .val (.long t5), .second, .val (.int kd), .val (.int fl), .val (.int nl), .val (.int ql), .val (.int c0), .unset, .unset, .unset, .unset, .unset, .unset, .unset, .unset, .unset, .unset, .unset, .unset, .unset, .unset] [(.int (((i3.toUInt32 >>> ((8 : Int32) &&& 31).toUInt32).toInt32) &&& (255 : Int32)))])
    refine hs.go (fun _ kk_ => XS.i2c X0.here hx rfl (hb hby at_59) rfl kk_) ?_
    show G s₁ (mkF m 60 #[.val (.int i1), .val (.int i2), .val (.int i3), .val (.int i4), .val (.long t5), .second, .val (.int kd), .val (.int fl), .val (.int nl), .val (.int ql), .val (.int c0), .unset, .unset, .unset, .unset, .unset, .unset, .unset, .unset, .unset, .unset, .unset, .unset, .unset, .unset] [(.int ((((i3.toUInt32 >>> ((8 : Int32) &&& 31).toUInt32).toInt32) &&& (255 : Int32)).toUInt32.toUInt16.toUInt32.toInt32))])
    refine nameIt (P := fun zz_ : Int32 => G s₁ (mkF m 60 #[.val (.int i1), .val (.int i2), .val (.int i3), .val (.int i4), .val (.long t5), .second, .val (.int kd), .val (.int fl), .val (.int nl), .val (.int ql), .val (.int c0), .unset, .unset, .unset, .unset, .unset, .unset, .unset, .unset, .unset, .unset, .unset, .unset, .unset, .unset] [(.int zz_)])) ((((i3.toUInt32 >>> ((8 : Int32) &&& 31).toUInt32).toInt32) &&& (255 : Int32)).toUInt32.toUInt16.toUInt32.toInt32) (fun c1 hc1 => ?_)
    show G s₁ (mkF m 60 #[.val (.int i1), .val (.int i2), .val (.int i3), .val (.int i4), .val (.long t5), .second, .val (.int kd), .val (.int fl), .val (.int nl), .val (.int ql), .val (.int c0), .unset, .unset, .unset, .unset, .unset, .unset, .unset, .unset, .unset, .unset, .unset, .unset, .unset, .unset] [(.int c1)])
    refine hs.go (fun _ kk_ => XS.istore X0.here hx rfl (hb hby at_60) rfl (l' := #[.val (.int i1), .val (.int i2), .val (.int i3), .val (.int i4), .val (.long t5), .second, .val (.int kd), .val (.int fl), .val (.int nl), .val (.int ql), .val (.int c0), .val (.int c1), .unset, .unset, .unset, .unset, .unset, .unset, .unset, .unset, .unset, .unset, .unset, .unset, .unset]) rfl kk_) ?_
    show G s₁ (mkF m 62 #[.val (.int i1), .val (.int i2), .val (.int i3), .val (.int i4), .val (.long t5), .second, .val (.int kd), .val (.int fl), .val (.int nl), .val (.int ql), .val (.int c0), .val (.int c1), .unset, .unset, .unset, .unset, .unset, .unset, .unset, .unset, .unset, .unset, .unset, .unset, .unset] [])
    refine hs.go (fun _ kk_ => XS.iconst X0.here hx rfl (hb hby at_62) kk_) ?_
    show G s₁ (mkF m 63 #[.val (.int i1), .val (.int i2), .val (.int i3), .val (.int i4), .val (.long t5), .second, .val (.int kd), .val (.int fl), .val (.int nl), .val (.int ql), .val (.int c0), .val (.int c1), .unset, .unset, .unset, .unset, .unset, .unset, .unset, .unset, .unset, .unset, .unset, .unset, .unset] [(.int (0 : Int32))])
    refine rNewP hs X0 hx hZ (hw _ (List.mem_of_getElem? (i := 2) rfl)) rfl (hb hby at_63) rfl (by decide) 0 0 (by decide) (by decide) (by decide) (by decide) (fun T1 h1 k1 ca0 g1 X1 E1 V_ca0 => ?_)
    have V_ca0 : Arv Z h1 ca0 k1 .char (0 : Int32) [] (.int (0 : Int32)) := V_ca0
    have g_ca0 : n0 ≤ ca0 := by rw [g1]; exact Z0
    have Z0 := Nat.le_trans Z0 E1.1
    have O := O.ext E1
    show G T1 (mkF m 65 #[.val (.int i1), .val (.int i2), .val (.int i3), .val (.int i4), .val (.long t5), .second, .val (.int kd), .val (.int fl), .val (.int nl), .val (.int ql), .val (.int c0), .val (.int c1), .unset, .unset, .unset, .unset, .unset, .unset, .unset, .unset, .unset, .unset, .unset, .unset, .unset] [(.ref ca0)])
    refine hs.go (fun _ kk_ => XS.astore X1.here hx rfl (hb hby at_65) rfl rfl (l' := #[.val (.int i1), .val (.int i2), .val (.int i3), .val (.int i4), .val (.long t5), .second, .val (.int kd), .val (.int fl), .val (.int nl), .val (.int ql), .val (.int c0), .val (.int c1), .val (.ref ca0), .unset, .unset, .unset, .unset, .unset, .unset, .unset, .unset, .unset, .unset, .unset, .unset]) rfl kk_) ?_
    show G T1 (mkF m 67 #[.val (.int i1), .val (.int i2), .val (.int i3), .val (.int i4), .val (.long t5), .second, .val (.int kd), .val (.int fl), .val (.int nl), .val (.int ql), .val (.int c0), .val (.int c1), .val (.ref ca0), .unset, .unset, .unset, .unset, .unset, .unset, .unset, .unset, .unset, .unset, .unset, .unset] [])
    refine hs.go (fun _ kk_ => XS.iconst X1.here hx rfl (hb hby at_67) kk_) ?_
    show G T1 (mkF m 68 #[.val (.int i1), .val (.int i2), .val (.int i3), .val (.int i4), .val (.long t5), .second, .val (.int kd), .val (.int fl), .val (.int nl), .val (.int ql), .val (.int c0), .val (.int c1), .val (.ref ca0), .unset, .unset, .unset, .unset, .unset, .unset, .unset, .unset, .unset, .unset, .unset, .unset] [(.int (1 : Int32))])
    refine rNewP hs X1 hx hZ (hw _ (List.mem_of_getElem? (i := 2) rfl)) rfl (hb hby at_68) rfl (by decide) 1 1 (by decide) (by decide) (by decide) (by decide) (fun T2 h2 k2 ca1 g2 X2 E2 V_ca1 => ?_)
    have V_ca1 : Arv Z h2 ca1 k2 .char (1 : Int32) [(.int (0 : Int32))] (.int (0 : Int32)) := V_ca1
    have g_ca1 : n0 ≤ ca1 := by rw [g2]; exact Z0
    have Z0 := Nat.le_trans Z0 E2.1
    have ne_ca0_ca1 : ca0 ≠ ca1 := Nat.ne_of_lt (Nat.lt_of_lt_of_le V_ca0.lt (Nat.le_of_eq g2.symm))
    have O := O.ext E2
    have V_ca0 := V_ca0.ext E2
    show G T2 (mkF m 70 #[.val (.int i1), .val (.int i2), .val (.int i3), .val (.int i4), .val (.long t5), .second, .val (.int kd), .val (.int fl), .val (.int nl), .val (.int ql), .val (.int c0), .val (.int c1), .val (.ref ca0), .unset, .unset, .unset, .unset, .unset, .unset, .unset, .unset, .unset, .unset, .unset, .unset] [(.ref ca1)])
    refine hs.go (fun _ kk_ => XS.dup X2.here hx rfl (hb hby at_70) rfl rfl kk_) ?_
    show G T2 (mkF m 71 #[.val (.int i1), .val (.int i2), .val (.int i3), .val (.int i4), .val (.long t5), .second, .val (.int kd), .val (.int fl), .val (.int nl), .val (.int ql), .val (.int c0), .val (.int c1), .val (.ref ca0), .unset, .unset, .unset, .unset, .unset, .unset, .unset, .unset, .unset, .unset, .unset, .unset] [(.ref ca1), (.ref ca1)])
    refine hs.go (fun _ kk_ => XS.iconst X2.here hx rfl (hb hby at_71) kk_) ?_
    show G T2 (mkF m 72 #[.val (.int i1), .val (.int i2), .val (.int i3), .val (.int i4), .val (.long t5), .second, .val (.int kd), .val (.int fl), .val (.int nl), .val (.int ql), .val (.int c0), .val (.int c1), .val (.ref ca0), .unset, .unset, .unset, .unset, .unset, .unset, .unset, .unset, .unset, .unset, .unset, .unset] [(.int (0 : Int32)), (.ref ca1), (.ref ca1)])
    refine hs.go (fun _ kk_ => XS.iload X2.here hx rfl (hb hby at_72) rfl  kk_) ?_
    show G T2 (mkF m 74 #[.val (.int i1), .val (.int i2), .val (.int i3), .val (.int i4), .val (.long t5), .second, .val (.int kd), .val (.int fl), .val (.int nl), .val (.int ql), .val (.int c0), .val (.int c1), .val (.ref ca0), .unset, .unset, .unset, .unset, .unset, .unset, .unset, .unset, .unset, .unset, .unset, .unset] [(.int c0), (.int (0 : Int32)), (.ref ca1), (.ref ca1)])
    refine rStC hs X2 hx hZ V_ca1 g_ca1 ⟨by decide, by decide⟩ 0 (by decide) (by simp) (x' := c0) (own_cx hc0) rfl rfl (hb hby at_74) (fun T3 h3 X3 W3 V_ca1 => ?_)
    have V_ca1 : Arv Z h3 ca1 k2 .char (1 : Int32) [(.int c0)] (.int (0 : Int32)) := V_ca1
    have O := O.wr W3 g_ca1
    have V_ca0 := V_ca0.other W3 ne_ca0_ca1
    have Z0 := Nat.le_trans Z0 (Keep.of_wr W3).1
    show G T3 (mkF m 75 #[.val (.int i1), .val (.int i2), .val (.int i3), .val (.int i4), .val (.long t5), .second, .val (.int kd), .val (.int fl), .val (.int nl), .val (.int ql), .val (.int c0), .val (.int c1), .val (.ref ca0), .unset, .unset, .unset, .unset, .unset, .unset, .unset, .unset, .unset, .unset, .unset, .unset] [(.ref ca1)])
    refine hs.go (fun _ kk_ => XS.astore X3.here hx rfl (hb hby at_75) rfl rfl (l' := #[.val (.int i1), .val (.int i2), .val (.int i3), .val (.int i4), .val (.long t5), .second, .val (.int kd), .val (.int fl), .val (.int nl), .val (.int ql), .val (.int c0), .val (.int c1), .val (.ref ca0), .val (.ref ca1), .unset, .unset, .unset, .unset, .unset, .unset, .unset, .unset, .unset, .unset, .unset]) rfl kk_) ?_
    show G T3 (mkF m 77 #[.val (.int i1), .val (.int i2), .val (.int i3), .val (.int i4), .val (.long t5), .second, .val (.int kd), .val (.int fl), .val (.int nl), .val (.int ql), .val (.int c0), .val (.int c1), .val (.ref ca0), .val (.ref ca1), .unset, .unset, .unset, .unset, .unset, .unset, .unset, .unset, .unset, .unset, .unset] [])
    refine hs.go (fun _ kk_ => XS.iconst X3.here hx rfl (hb hby at_77) kk_) ?_
    show G T3 (mkF m 78 #[.val (.int i1), .val (.int i2), .val (.int i3), .val (.int i4), .val (.long t5), .second, .val (.int kd), .val (.int fl), .val (.int nl), .val (.int ql), .val (.int c0), .val (.int c1), .val (.ref ca0), .val (.ref ca1), .unset, .unset, .unset, .unset, .unset, .unset, .unset, .unset, .unset, .unset, .unset] [(.int (2 : Int32))])
    refine rNewP hs X3 hx hZ (hw _ (List.mem_of_getElem? (i := 2) rfl)) rfl (hb hby at_78) rfl (by decide) 2 2 (by decide) (by decide) (by decide) (by decide) (fun T4 h4 k4 ca2 g4 X4 E4 V_ca2 => ?_)
    have V_ca2 : Arv Z h4 ca2 k4 .char (2 : Int32) [(.int (0 : Int32)), (.int (0 : Int32))] (.int (0 : Int32)) := V_ca2
    have g_ca2 : n0 ≤ ca2 := by rw [g4]; exact Z0
    have Z0 := Nat.le_trans Z0 E4.1
    have ne_ca0_ca2 : ca0 ≠ ca2 := Nat.ne_of_lt (Nat.lt_of_lt_of_le V_ca0.lt (Nat.le_of_eq g4.symm))
    have ne_ca1_ca2 : ca1 ≠ ca2 := Nat.ne_of_lt (Nat.lt_of_lt_of_le V_ca1.lt (Nat.le_of_eq g4.symm))
    have O := O.ext E4
    have V_ca0 := V_ca0.ext E4
    have V_ca1 := V_ca1.ext E4
    show G T4 (mkF m 80 #[.val (.int i1), .val (.int i2), .val (.int i3), .val (.int i4), .val (.long t5), .second, .val (.int kd), .val (.int fl), .val (.int nl), .val (.int ql), .val (.int c0), .val (.int c1), .val (.ref ca0), .val (.ref ca1), .unset, .unset, .unset, .unset, .unset, .unset, .unset, .unset, .unset, .unset, .unset] [(.ref ca2)])
    refine hs.go (fun _ kk_ => XS.dup X4.here hx rfl (hb hby at_80) rfl rfl kk_) ?_
    show G T4 (mkF m 81 #[.val (.int i1), .val (.int i2), .val (.int i3), .val (.int i4), .val (.long t5), .second, .val (.int kd), .val (.int fl), .val (.int nl), .val (.int ql), .val (.int c0), .val (.int c1), .val (.ref ca0), .val (.ref ca1), .unset, .unset, .unset, .unset, .unset, .unset, .unset, .unset, .unset, .unset, .unset] [(.ref ca2), (.ref ca2)])
    refine hs.go (fun _ kk_ => XS.iconst X4.here hx rfl (hb hby at_81) kk_) ?_
    show G T4 (mkF m 82 #[.val (.int i1), .val (.int i2), .val (.int i3), .val (.int i4), .val (.long t5), .second, .val (.int kd), .val (.int fl), .val (.int nl), .val (.int ql), .val (.int c0), .val (.int c1), .val (.ref ca0), .val (.ref ca1), .unset, .unset, .unset, .unset, .unset, .unset, .unset, .unset, .unset, .unset, .unset] [(.int (0 : Int32)), (.ref ca2), (.ref ca2)])
    refine hs.go (fun _ kk_ => XS.iload X4.here hx rfl (hb hby at_82) rfl  kk_) ?_
    show G T4 (mkF m 84 #[.val (.int i1), .val (.int i2), .val (.int i3), .val (.int i4), .val (.long t5), .second, .val (.int kd), .val (.int fl), .val (.int nl), .val (.int ql), .val (.int c0), .val (.int c1), .val (.ref ca0), .val (.ref ca1), .unset, .unset, .unset, .unset, .unset, .unset, .unset, .unset, .unset, .unset, .unset] [(.int c0), (.int (0 : Int32)), (.ref ca2), (.ref ca2)])
    refine rStC hs X4 hx hZ V_ca2 g_ca2 ⟨by decide, by decide⟩ 0 (by decide) (by simp) (x' := c0) (own_cx hc0) rfl rfl (hb hby at_84) (fun T5 h5 X5 W5 V_ca2 => ?_)
    have V_ca2 : Arv Z h5 ca2 k4 .char (2 : Int32) [(.int c0), (.int (0 : Int32))] (.int (0 : Int32)) := V_ca2
    have O := O.wr W5 g_ca2
    have V_ca0 := V_ca0.other W5 ne_ca0_ca2
    have V_ca1 := V_ca1.other W5 ne_ca1_ca2
    have Z0 := Nat.le_trans Z0 (Keep.of_wr W5).1
    show G T5 (mkF m 85 #[.val (.int i1), .val (.int i2), .val (.int i3), .val (.int i4), .val (.long t5), .second, .val (.int kd), .val (.int fl), .val (.int nl), .val (.int ql), .val (.int c0), .val (.int c1), .val (.ref ca0), .val (.ref ca1), .unset, .unset, .unset, .unset, .unset, .unset, .unset, .unset, .unset, .unset, .unset] [(.ref ca2)])
    refine hs.go (fun _ kk_ => XS.dup X5.here hx rfl (hb hby at_85) rfl rfl kk_) ?_
    show G T5 (mkF m 86 #[.val (.int i1), .val (.int i2), .val (.int i3), .val (.int i4), .val (.long t5), .second, .val (.int kd), .val (.int fl), .val (.int nl), .val (.int ql), .val (.int c0), .val (.int c1), .val (.ref ca0), .val (.ref ca1), .unset, .unset, .unset, .unset, .unset, .unset, .unset, .unset, .unset, .unset, .unset] [(.ref ca2), (.ref ca2)])
    refine hs.go (fun _ kk_ => XS.iconst X5.here hx rfl (hb hby at_86) kk_) ?_
    show G T5 (mkF m 87 #[.val (.int i1), .val (.int i2), .val (.int i3), .val (.int i4), .val (.long t5), .second, .val (.int kd), .val (.int fl), .val (.int nl), .val (.int ql), .val (.int c0), .val (.int c1), .val (.ref ca0), .val (.ref ca1), .unset, .unset, .unset, .unset, .unset, .unset, .unset, .unset, .unset, .unset, .unset] [(.int (1 : Int32)), (.ref ca2), (.ref ca2)])
    refine hs.go (fun _ kk_ => XS.iload X5.here hx rfl (hb hby at_87) rfl  kk_) ?_
    show G T5 (mkF m 89 #[.val (.int i1), .val (.int i2), .val (.int i3), .val (.int i4), .val (.long t5), .second, .val (.int kd), .val (.int fl), .val (.int nl), .val (.int ql), .val (.int c0), .val (.int c1), .val (.ref ca0), .val (.ref ca1), .unset, .unset, .unset, .unset, .unset, .unset, .unset, .unset, .unset, .unset, .unset] [(.int c1), (.int (1 : Int32)), (.ref ca2), (.ref ca2)])
    refine rStC hs X5 hx hZ V_ca2 g_ca2 ⟨by decide, by decide⟩ 1 (by decide) (by simp) (x' := c1) (own_cx hc1) rfl rfl (hb hby at_89) (fun T6 h6 X6 W6 V_ca2 => ?_)
    have V_ca2 : Arv Z h6 ca2 k4 .char (2 : Int32) [(.int c0), (.int c1)] (.int (0 : Int32)) := V_ca2
    have O := O.wr W6 g_ca2
    have V_ca0 := V_ca0.other W6 ne_ca0_ca2
    have V_ca1 := V_ca1.other W6 ne_ca1_ca2
    have Z0 := Nat.le_trans Z0 (Keep.of_wr W6).1
    show G T6 (mkF m 90 #[.val (.int i1), .val (.int i2), .val (.int i3), .val (.int i4), .val (.long t5), .second, .val (.int kd), .val (.int fl), .val (.int nl), .val (.int ql), .val (.int c0), .val (.int c1), .val (.ref ca0), .val (.ref ca1), .unset, .unset, .unset, .unset, .unset, .unset, .unset, .unset, .unset, .unset, .unset] [(.ref ca2)])
    refine hs.go (fun _ kk_ => XS.astore X6.here hx rfl (hb hby at_90) rfl rfl (l' := #[.val (.int i1), .val (.int i2), .val (.int i3), .val (.int i4), .val (.long t5), .second, .val (.int kd), .val (.int fl), .val (.int nl), .val (.int ql), .val (.int c0), .val (.int c1), .val (.ref ca0), .val (.ref ca1), .val (.ref ca2), .unset, .unset, .unset, .unset, .unset, .unset, .unset, .unset, .unset, .unset]) rfl kk_) ?_
    show G T6 (mkF m 92 #[.val (.int i1), .val (.int i2), .val (.int i3), .val (.int i4), .val (.long t5), .second, .val (.int kd), .val (.int fl), .val (.int nl), .val (.int ql), .val (.int c0), .val (.int c1), .val (.ref ca0), .val (.ref ca1), .val (.ref ca2), .unset, .unset, .unset, .unset, .unset, .unset, .unset, .unset, .unset, .unset] [])
    have J122 : ∀ (Tn : State) (hn : Heap) (nm : Addr), Sd p l e room_1 s m #[(.int i1), (.int i2), (.int i3), (.int i4), (.long t5)] below meth c n0 (fun _ => True) Tn hn 6 11 → n0 ≤ hn.size → Old Z n0 hn → Exa Z hn nm "java/lang/String" → G Tn (mkF m 122 #[.val (.int i1), .val (.int i2), .val (.int i3), .val (.int i4), .val (.long t5), .second, .val (.int kd), .val (.int fl), .val (.int nl), .val (.int ql), .val (.int c0), .val (.int c1), .val (.ref ca0), .val (.ref ca1), .val (.ref ca2), .unset, .unset, .unset, .unset, .unset, .unset, .unset, .unset, .unset, .unset] [(.ref nm)]) := by
      intro Tn hn nm Xn Z0 O E_nm
      show G Tn (mkF m 122 #[.val (.int i1), .val (.int i2), .val (.int i3), .val (.int i4), .val (.long t5), .second, .val (.int kd), .val (.int fl), .val (.int nl), .val (.int ql), .val (.int c0), .val (.int c1), .val (.ref ca0), .val (.ref ca1), .val (.ref ca2), .unset, .unset, .unset, .unset, .unset, .unset, .unset, .unset, .unset, .unset] [(.ref nm)])
      refine hs.go (fun _ kk_ => XS.astore Xn.here hx rfl (hb hby at_122) rfl rfl (l' := #[.val (.int i1), .val (.int i2), .val (.int i3), .val (.int i4), .val (.long t5), .second, .val (.int kd), .val (.int fl), .val (.int nl), .val (.int ql), .val (.int c0), .val (.int c1), .val (.ref ca0), .val (.ref ca1), .val (.ref ca2), .val (.ref nm), .unset, .unset, .unset, .unset, .unset, .unset, .unset, .unset, .unset]) rfl kk_) ?_
      show G Tn (mkF m 124 #[.val (.int i1), .val (.int i2), .val (.int i3), .val (.int i4), .val (.long t5), .second, .val (.int kd), .val (.int fl), .val (.int nl), .val (.int ql), .val (.int c0), .val (.int c1), .val (.ref ca0), .val (.ref ca1), .val (.ref ca2), .val (.ref nm), .unset, .unset, .unset, .unset, .unset, .unset, .unset, .unset, .unset] [])
      refine hs.go (fun _ kk_ => XS.iloadN Xn.here hx rfl (hb hby at_124) rfl  kk_) ?_
      show G Tn (mkF m 125 #[.val (.int i1), .val (.int i2), .val (.int i3), .val (.int i4), .val (.long t5), .second, .val (.int kd), .val (.int fl), .val (.int nl), .val (.int ql), .val (.int c0), .val (.int c1), .val (.ref ca0), .val (.ref ca1), .val (.ref ca2), .val (.ref nm), .unset, .unset, .unset, .unset, .unset, .unset, .unset, .unset, .unset] [(.int i4)])
      refine hs.go (fun _ kk_ => XS.i2b Xn.here hx rfl (hb hby at_125) rfl kk_) ?_
      show G Tn (mkF m 126 #[.val (.int i1), .val (.int i2), .val (.int i3), .val (.int i4), .val (.long t5), .second, .val (.int kd), .val (.int fl), .val (.int nl), .val (.int ql), .val (.int c0), .val (.int c1), .val (.ref ca0), .val (.ref ca1), .val (.ref ca2), .val (.ref nm), .unset, .unset, .unset, .unset, .unset, .unset, .unset, .unset, .unset] [(.int (i4.toInt8.toInt32))])
      refine nameIt (P := fun zz_ : Int32 => G Tn (mkF m 126 #[.val (.int i1), .val (.int i2), .val (.int i3), .val (.int i4), .val (.long t5), .second, .val (.int kd), .val (.int fl), .val (.int nl), .val (.int ql), .val (.int c0), .val (.int c1), .val (.ref ca0), .val (.ref ca1), .val (.ref ca2), .val (.ref nm), .unset, .unset, .unset, .unset, .unset, .unset, .unset, .unset, .unset] [(.int zz_)])) (i4.toInt8.toInt32) (fun y0 hy0 => ?_)
      show G Tn (mkF m 126 #[.val (.int i1), .val (.int i2), .val (.int i3), .val (.int i4), .val (.long t5), .second, .val (.int kd), .val (.int fl), .val (.int nl), .val (.int ql), .val (.int c0), .val (.int c1), .val (.ref ca0), .val (.ref ca1), .val (.ref ca2), .val (.ref nm), .unset, .unset, .unset, .unset, .unset, .unset, .unset, .unset, .unset] [(.int y0)])
      refine hs.go (fun _ kk_ => XS.istore Xn.here hx rfl (hb hby at_126) rfl (l' := #[.val (.int i1), .val (.int i2), .val (.int i3), .val (.int i4), .val (.long t5), .second, .val (.int kd), .val (.int fl), .val (.int nl), .val (.int ql), .val (.int c0), .val (.int c1), .val (.ref ca0), .val (.ref ca1), .val (.ref ca2), .val (.ref nm), .val (.int y0), .unset, .unset, .unset, .unset, .unset, .unset, .unset, .unset]) rfl kk_) ?_
      show G Tn (mkF m 128 #[.val (.int i1), .val (.int i2), .val (.int i3), .val (.int i4), .val (.long t5), .second, .val (.int kd), .val (.int fl), .val (.int nl), .val (.int ql), .val (.int c0), .val (.int c1), .val (.ref ca0), .val (.ref ca1), .val (.ref ca2), .val (.ref nm), .val (.int y0), .unset, .unset, .unset, .unset, .unset, .unset, .unset, .unset] [])
      refine hs.go (fun _ kk_ => XS.iloadN Xn.here hx rfl (hb hby at_128) rfl  kk_) ?_
      show G Tn (mkF m 129 #[.val (.int i1), .val (.int i2), .val (.int i3), .val (.int i4), .val (.long t5), .second, .val (.int kd), .val (.int fl), .val (.int nl), .val (.int ql), .val (.int c0), .val (.int c1), .val (.ref ca0), .val (.ref ca1), .val (.ref ca2), .val (.ref nm), .val (.int y0), .unset, .unset, .unset, .unset, .unset, .unset, .unset, .unset] [(.int i4)])
      refine hs.go (fun _ kk_ => XS.bipush Xn.here hx rfl (hb hby at_129) kk_) ?_
      show G Tn (mkF m 131 #[.val (.int i1), .val (.int i2), .val (.int i3), .val (.int i4), .val (.long t5), .second, .val (.int kd), .val (.int fl), .val (.int nl), .val (.int ql), .val (.int c0), .val (.int c1), .val (.ref ca0), .val (.ref ca1), .val (.ref ca2), .val (.ref nm), .val (.int y0), .unset, .unset, .unset, .unset, .unset, .unset, .unset, .unset] [(.int (8 : Int32)), (.int i4)])
      refine hs.go (fun _ kk_ => XS.iushr Xn.here hx rfl (hb hby at_131) rfl kk_) ?_
      show G Tn (mkF m 132 #[.val (.int i1), .val (.int i2), .val (.int i3), .val (.int i4), .val (.long t5), .second, .val (.int kd), .val (.int fl), .val (.int nl), .val (.int ql), .val (.int c0), .val (.int c1), .val (.ref ca0), .val (.ref ca1), .val (.ref ca2), .val (.ref nm), .val (.int y0), .unset, .unset, .unset, .unset, .unset, .unset, .unset, .unset] [(.int ((i4.toUInt32 >>> ((8 : Int32) &&& 31).toUInt32).toInt32))])
      refine hs.go (fun _ kk_ => XS.i2b Xn.here hx rfl (hb hby at_132) rfl kk_) ?_
      show G Tn (mkF m 133 #[.val (.int i1), .val (.int i2), .val (.int i3), .val (.int i4), .val (.long t5), .second, .val (.int kd), .val (.int fl), .val (.int nl), .val (.int ql), .val (.int c0), .val (.int c1), .val (.ref ca0), .val (.ref ca1), .val (.ref ca2), .val (.ref nm), .val (.int y0), .unset, .unset, .unset, .unset, .unset, .unset, .unset, .unset] [(.int (((i4.toUInt32 >>> ((8 : Int32) &&& 31).toUInt32).toInt32).toInt8.toInt32))])
      refine nameIt (P := fun zz_ : Int32 => G Tn (mkF m 133 #[.val (.int i1), .val (.int i2), .val (.int i3), .val (.int i4), .val (.long t5), .second, .val (.int kd), .val (.int fl), .val (.int nl), .val (.int ql), .val (.int c0), .val (.int c1), .val (.ref ca0), .val (.ref ca1), .val (.ref ca2), .val (.ref nm), .val (.int y0), .unset, .unset, .unset, .unset, .unset, .unset, .unset, .unset] [(.int zz_)])) (((i4.toUInt32 >>> ((8 : Int32) &&& 31).toUInt32).toInt32).toInt8.toInt32) (fun y1 hy1 => ?_)
      show G Tn (mkF m 133 #[.val (.int i1), .val (.int i2), .val (.int i3), .val (.int i4), .val (.long t5), .second, .val (.int kd), .val (.int fl), .val (.int nl), .val (.int ql), .val (.int c0), .val (.int c1), .val (.ref ca0), .val (.ref ca1), .val (.ref ca2), .val (.ref nm), .val (.int y0), .unset, .unset, .unset, .unset, .unset, .unset, .unset, .unset] [(.int y1)])
      refine hs.go (fun _ kk_ => XS.istore Xn.here hx rfl (hb hby at_133) rfl (l' := #[.val (.int i1), .val (.int i2), .val (.int i3), .val (.int i4), .val (.long t5), .second, .val (.int kd), .val (.int fl), .val (.int nl), .val (.int ql), .val (.int c0), .val (.int c1), .val (.ref ca0), .val (.ref ca1), .val (.ref ca2), .val (.ref nm), .val (.int y0), .val (.int y1), .unset, .unset, .unset, .unset, .unset, .unset, .unset]) rfl kk_) ?_
      show G Tn (mkF m 135 #[.val (.int i1), .val (.int i2), .val (.int i3), .val (.int i4), .val (.long t5), .second, .val (.int kd), .val (.int fl), .val (.int nl), .val (.int ql), .val (.int c0), .val (.int c1), .val (.ref ca0), .val (.ref ca1), .val (.ref ca2), .val (.ref nm), .val (.int y0), .val (.int y1), .unset, .unset, .unset, .unset, .unset, .unset, .unset] [])
      as_aux_lemma =>
        refine hs.go (fun _ kk_ => XS.iconst Xn.here hx rfl (hb hby at_135) kk_) ?_
        show G Tn (mkF m 136 #[.val (.int i1), .val (.int i2), .val (.int i3), .val (.int i4), .val (.long t5), .second, .val (.int kd), .val (.int fl), .val (.int nl), .val (.int ql), .val (.int c0), .val (.int c1), .val (.ref ca0), .val (.ref ca1), .val (.ref ca2), .val (.ref nm), .val (.int y0), .val (.int y1), .unset, .unset, .unset, .unset, .unset, .unset, .unset] [(.int (0 : Int32))])
        refine rNewPE hs Xn hx hZ (hw _ (List.mem_of_getElem? (i := 17) rfl)) rfl (hb hby at_136) rfl (by decide) 0 0 (by decide) (by decide) (by decide) (by decide) (ad := "[B") (by decide) (fun T7 h7 k7 ba0 g7 X7 E7 V_ba0 E_ba0 => ?_)
        have V_ba0 : Arv Z h7 ba0 k7 .byte (0 : Int32) [] (.int (0 : Int32)) := V_ba0
        have g_ba0 : n0 ≤ ba0 := by rw [g7]; exact Z0
        have Z0 := Nat.le_trans Z0 E7.1
        have ne_nm_ba0 : nm ≠ ba0 := Nat.ne_of_lt (Nat.lt_of_lt_of_le E_nm.lt (Nat.le_of_eq g7.symm))
        have O := O.ext E7
        have E_nm := E_nm.ext E7
        show G T7 (mkF m 138 #[.val (.int i1), .val (.int i2), .val (.int i3), .val (.int i4), .val (.long t5), .second, .val (.int kd), .val (.int fl), .val (.int nl), .val (.int ql), .val (.int c0), .val (.int c1), .val (.ref ca0), .val (.ref ca1), .val (.ref ca2), .val (.ref nm), .val (.int y0), .val (.int y1), .unset, .unset, .unset, .unset, .unset, .unset, .unset] [(.ref ba0)])
        refine hs.go (fun _ kk_ => XS.astore X7.here hx rfl (hb hby at_138) rfl rfl (l' := #[.val (.int i1), .val (.int i2), .val (.int i3), .val (.int i4), .val (.long t5), .second, .val (.int kd), .val (.int fl), .val (.int nl), .val (.int ql), .val (.int c0), .val (.int c1), .val (.ref ca0), .val (.ref ca1), .val (.ref ca2), .val (.ref nm), .val (.int y0), .val (.int y1), .val (.ref ba0), .unset, .unset, .unset, .unset, .unset, .unset]) rfl kk_) ?_
        show G T7 (mkF m 140 #[.val (.int i1), .val (.int i2), .val (.int i3), .val (.int i4), .val (.long t5), .second, .val (.int kd), .val (.int fl), .val (.int nl), .val (.int ql), .val (.int c0), .val (.int c1), .val (.ref ca0), .val (.ref ca1), .val (.ref ca2), .val (.ref nm), .val (.int y0), .val (.int y1), .val (.ref ba0), .unset, .unset, .unset, .unset, .unset, .unset] [])
        refine hs.go (fun _ kk_ => XS.iconst X7.here hx rfl (hb hby at_140) kk_) ?_
        show G T7 (mkF m 141 #[.val (.int i1), .val (.int i2), .val (.int i3), .val (.int i4), .val (.long t5), .second, .val (.int kd), .val (.int fl), .val (.int nl), .val (.int ql), .val (.int c0), .val (.int c1), .val (.ref ca0), .val (.ref ca1), .val (.ref ca2), .val (.ref nm), .val (.int y0), .val (.int y1), .val (.ref ba0), .unset, .unset, .unset, .unset, .unset, .unset] [(.int (1 : Int32))])
        refine rNewPE hs X7 hx hZ (hw _ (List.mem_of_getElem? (i := 17) rfl)) rfl (hb hby at_141) rfl (by decide) 1 1 (by decide) (by decide) (by decide) (by decide) (ad := "[B") (by decide) (fun T8 h8 k8 ba1 g8 X8 E8 V_ba1 E_ba1 => ?_)
        have V_ba1 : Arv Z h8 ba1 k8 .byte (1 : Int32) [(.int (0 : Int32))] (.int (0 : Int32)) := V_ba1
        have g_ba1 : n0 ≤ ba1 := by rw [g8]; exact Z0
        have Z0 := Nat.le_trans Z0 E8.1
        have ne_nm_ba1 : nm ≠ ba1 := Nat.ne_of_lt (Nat.lt_of_lt_of_le E_nm.lt (Nat.le_of_eq g8.symm))
        have ne_ba0_ba1 : ba0 ≠ ba1 := Nat.ne_of_lt (Nat.lt_of_lt_of_le V_ba0.lt (Nat.le_of_eq g8.symm))
        have O := O.ext E8
        have E_nm := E_nm.ext E8
        have V_ba0 := V_ba0.ext E8
        have E_ba0 := E_ba0.ext E8
        show G T8 (mkF m 143 #[.val (.int i1), .val (.int i2), .val (.int i3), .val (.int i4), .val (.long t5), .second, .val (.int kd), .val (.int fl), .val (.int nl), .val (.int ql), .val (.int c0), .val (.int c1), .val (.ref ca0), .val (.ref ca1), .val (.ref ca2), .val (.ref nm), .val (.int y0), .val (.int y1), .val (.ref ba0), .unset, .unset, .unset, .unset, .unset, .unset] [(.ref ba1)])
        refine hs.go (fun _ kk_ => XS.dup X8.here hx rfl (hb hby at_143) rfl rfl kk_) ?_
        show G T8 (mkF m 144 #[.val (.int i1), .val (.int i2), .val (.int i3), .val (.int i4), .val (.long t5), .second, .val (.int kd), .val (.int fl), .val (.int nl), .val (.int ql), .val (.int c0), .val (.int c1), .val (.ref ca0), .val (.ref ca1), .val (.ref ca2), .val (.ref nm), .val (.int y0), .val (.int y1), .val (.ref ba0), .unset, .unset, .unset, .unset, .unset, .unset] [(.ref ba1), (.ref ba1)])
        refine hs.go (fun _ kk_ => XS.iconst X8.here hx rfl (hb hby at_144) kk_) ?_
        show G T8 (mkF m 145 #[.val (.int i1), .val (.int i2), .val (.int i3), .val (.int i4), .val (.long t5), .second, .val (.int kd), .val (.int fl), .val (.int nl), .val (.int ql), .val (.int c0), .val (.int c1), .val (.ref ca0), .val (.ref ca1), .val (.ref ca2), .val (.ref nm), .val (.int y0), .val (.int y1), .val (.ref ba0), .unset, .unset, .unset, .unset, .unset, .unset] [(.int (0 : Int32)), (.ref ba1), (.ref ba1)])
        refine hs.go (fun _ kk_ => XS.iload X8.here hx rfl (hb hby at_145) rfl  kk_) ?_
        show G T8 (mkF m 147 #[.val (.int i1), .val (.int i2), .val (.int i3), .val (.int i4), .val (.long t5), .second, .val (.int kd), .val (.int fl), .val (.int nl), .val (.int ql), .val (.int c0), .val (.int c1), .val (.ref ca0), .val (.ref ca1), .val (.ref ca2), .val (.ref nm), .val (.int y0), .val (.int y1), .val (.ref ba0), .unset, .unset, .unset, .unset, .unset, .unset] [(.int y0), (.int (0 : Int32)), (.ref ba1), (.ref ba1)])
        refine rStB hs X8 hx hZ V_ba1 g_ba1 ⟨by decide, by decide⟩ 0 (by decide) (by simp) (x' := y0) (by rw [hy0]; exact nar_byte _) rfl rfl (hb hby at_147) (fun T9 h9 X9 W9 V_ba1 => ?_)
        have V_ba1 : Arv Z h9 ba1 k8 .byte (1 : Int32) [(.int y0)] (.int (0 : Int32)) := V_ba1
        have O := O.wr W9 g_ba1
        have E_nm := E_nm.wr W9
        have V_ba0 := V_ba0.other W9 ne_ba0_ba1
        have E_ba0 := E_ba0.wr W9
        have E_ba1 := E_ba1.wr W9
        have Z0 := Nat.le_trans Z0 (Keep.of_wr W9).1
        show G T9 (mkF m 148 #[.val (.int i1), .val (.int i2), .val (.int i3), .val (.int i4), .val (.long t5), .second, .val (.int kd), .val (.int fl), .val (.int nl), .val (.int ql), .val (.int c0), .val (.int c1), .val (.ref ca0), .val (.ref ca1), .val (.ref ca2), .val (.ref nm), .val (.int y0), .val (.int y1), .val (.ref ba0), .unset, .unset, .unset, .unset, .unset, .unset] [(.ref ba1)])
        refine hs.go (fun _ kk_ => XS.astore X9.here hx rfl (hb hby at_148) rfl rfl (l' := #[.val (.int i1), .val (.int i2), .val (.int i3), .val (.int i4), .val (.long t5), .second, .val (.int kd), .val (.int fl), .val (.int nl), .val (.int ql), .val (.int c0), .val (.int c1), .val (.ref ca0), .val (.ref ca1), .val (.ref ca2), .val (.ref nm), .val (.int y0), .val (.int y1), .val (.ref ba0), .val (.ref ba1), .unset, .unset, .unset, .unset, .unset]) rfl kk_) ?_
        show G T9 (mkF m 150 #[.val (.int i1), .val (.int i2), .val (.int i3), .val (.int i4), .val (.long t5), .second, .val (.int kd), .val (.int fl), .val (.int nl), .val (.int ql), .val (.int c0), .val (.int c1), .val (.ref ca0), .val (.ref ca1), .val (.ref ca2), .val (.ref nm), .val (.int y0), .val (.int y1), .val (.ref ba0), .val (.ref ba1), .unset, .unset, .unset, .unset, .unset] [])
        refine hs.go (fun _ kk_ => XS.iconst X9.here hx rfl (hb hby at_150) kk_) ?_
        show G T9 (mkF m 151 #[.val (.int i1), .val (.int i2), .val (.int i3), .val (.int i4), .val (.long t5), .second, .val (.int kd), .val (.int fl), .val (.int nl), .val (.int ql), .val (.int c0), .val (.int c1), .val (.ref ca0), .val (.ref ca1), .val (.ref ca2), .val (.ref nm), .val (.int y0), .val (.int y1), .val (.ref ba0), .val (.ref ba1), .unset, .unset, .unset, .unset, .unset] [(.int (2 : Int32))])
        refine rNewPE hs X9 hx hZ (hw _ (List.mem_of_getElem? (i := 17) rfl)) rfl (hb hby at_151) rfl (by decide) 2 2 (by decide) (by decide) (by decide) (by decide) (ad := "[B") (by decide) (fun T10 h10 k10 ba2 g10 X10 E10 V_ba2 E_ba2 => ?_)
        have V_ba2 : Arv Z h10 ba2 k10 .byte (2 : Int32) [(.int (0 : Int32)), (.int (0 : Int32))] (.int (0 : Int32)) := V_ba2
        have g_ba2 : n0 ≤ ba2 := by rw [g10]; exact Z0
        have Z0 := Nat.le_trans Z0 E10.1
        have ne_nm_ba2 : nm ≠ ba2 := Nat.ne_of_lt (Nat.lt_of_lt_of_le E_nm.lt (Nat.le_of_eq g10.symm))
        have ne_ba0_ba2 : ba0 ≠ ba2 := Nat.ne_of_lt (Nat.lt_of_lt_of_le V_ba0.lt (Nat.le_of_eq g10.symm))
        have ne_ba1_ba2 : ba1 ≠ ba2 := Nat.ne_of_lt (Nat.lt_of_lt_of_le V_ba1.lt (Nat.le_of_eq g10.symm))
        have O := O.ext E10
        have E_nm := E_nm.ext E10
        have V_ba0 := V_ba0.ext E10
        have E_ba0 := E_ba0.ext E10
        have V_ba1 := V_ba1.ext E10
        have E_ba1 := E_ba1.ext E10
        show G T10 (mkF m 153 #[.val (.int i1), .val (.int i2), .val (.int i3), .val (.int i4), .val (.long t5), .second, .val (.int kd), .val (.int fl), .val (.int nl), .val (.int ql), .val (.int c0), .val (.int c1), .val (.ref ca0), .val (.ref ca1), .val (.ref ca2), .val (.ref nm), .val (.int y0), .val (.int y1), .val (.ref ba0), .val (.ref ba1), .unset, .unset, .unset, .unset, .unset] [(.ref ba2)])
        refine hs.go (fun _ kk_ => XS.dup X10.here hx rfl (hb hby at_153) rfl rfl kk_) ?_
        show G T10 (mkF m 154 #[.val (.int i1), .val (.int i2), .val (.int i3), .val (.int i4), .val (.long t5), .second, .val (.int kd), .val (.int fl), .val (.int nl), .val (.int ql), .val (.int c0), .val (.int c1), .val (.ref ca0), .val (.ref ca1), .val (.ref ca2), .val (.ref nm), .val (.int y0), .val (.int y1), .val (.ref ba0), .val (.ref ba1), .unset, .unset, .unset, .unset, .unset] [(.ref ba2), (.ref ba2)])
        refine hs.go (fun _ kk_ => XS.iconst X10.here hx rfl (hb hby at_154) kk_) ?_
        show G T10 (mkF m 155 #[.val (.int i1), .val (.int i2), .val (.int i3), .val (.int i4), .val (.long t5), .second, .val (.int kd), .val (.int fl), .val (.int nl), .val (.int ql), .val (.int c0), .val (.int c1), .val (.ref ca0), .val (.ref ca1), .val (.ref ca2), .val (.ref nm), .val (.int y0), .val (.int y1), .val (.ref ba0), .val (.ref ba1), .unset, .unset, .unset, .unset, .unset] [(.int (0 : Int32)), (.ref ba2), (.ref ba2)])
        refine hs.go (fun _ kk_ => XS.iload X10.here hx rfl (hb hby at_155) rfl  kk_) ?_
        show G T10 (mkF m 157 #[.val (.int i1), .val (.int i2), .val (.int i3), .val (.int i4), .val (.long t5), .second, .val (.int kd), .val (.int fl), .val (.int nl), .val (.int ql), .val (.int c0), .val (.int c1), .val (.ref ca0), .val (.ref ca1), .val (.ref ca2), .val (.ref nm), .val (.int y0), .val (.int y1), .val (.ref ba0), .val (.ref ba1), .unset, .unset, .unset, .unset, .unset] [(.int y0), (.int (0 : Int32)), (.ref ba2), (.ref ba2)])
        refine rStB hs X10 hx hZ V_ba2 g_ba2 ⟨by decide, by decide⟩ 0 (by decide) (by simp) (x' := y0) (by rw [hy0]; exact nar_byte _) rfl rfl (hb hby at_157) (fun T11 h11 X11 W11 V_ba2 => ?_)
        have V_ba2 : Arv Z h11 ba2 k10 .byte (2 : Int32) [(.int y0), (.int (0 : Int32))] (.int (0 : Int32)) := V_ba2
        have O := O.wr W11 g_ba2
        have E_nm := E_nm.wr W11
        have V_ba0 := V_ba0.other W11 ne_ba0_ba2
        have E_ba0 := E_ba0.wr W11
        have V_ba1 := V_ba1.other W11 ne_ba1_ba2
        have E_ba1 := E_ba1.wr W11
        have E_ba2 := E_ba2.wr W11
        have Z0 := Nat.le_trans Z0 (Keep.of_wr W11).1
        show G T11 (mkF m 158 #[.val (.int i1), .val (.int i2), .val (.int i3), .val (.int i4), .val (.long t5), .second, .val (.int kd), .val (.int fl), .val (.int nl), .val (.int ql), .val (.int c0), .val (.int c1), .val (.ref ca0), .val (.ref ca1), .val (.ref ca2), .val (.ref nm), .val (.int y0), .val (.int y1), .val (.ref ba0), .val (.ref ba1), .unset, .unset, .unset, .unset, .unset] [(.ref ba2)])
        refine hs.go (fun _ kk_ => XS.dup X11.here hx rfl (hb hby at_158) rfl rfl kk_) ?_
        show G T11 (mkF m 159 #[.val (.int i1), .val (.int i2), .val (.int i3), .val (.int i4), .val (.long t5), .second, .val (.int kd), .val (.int fl), .val (.int nl), .val (.int ql), .val (.int c0), .val (.int c1), .val (.ref ca0), .val (.ref ca1), .val (.ref ca2), .val (.ref nm), .val (.int y0), .val (.int y1), .val (.ref ba0), .val (.ref ba1), .unset, .unset, .unset, .unset, .unset] [(.ref ba2), (.ref ba2)])
        refine hs.go (fun _ kk_ => XS.iconst X11.here hx rfl (hb hby at_159) kk_) ?_
        show G T11 (mkF m 160 #[.val (.int i1), .val (.int i2), .val (.int i3), .val (.int i4), .val (.long t5), .second, .val (.int kd), .val (.int fl), .val (.int nl), .val (.int ql), .val (.int c0), .val (.int c1), .val (.ref ca0), .val (.ref ca1), .val (.ref ca2), .val (.ref nm), .val (.int y0), .val (.int y1), .val (.ref ba0), .val (.ref ba1), .unset, .unset, .unset, .unset, .unset] [(.int (1 : Int32)), (.ref ba2), (.ref ba2)])
        refine hs.go (fun _ kk_ => XS.iload X11.here hx rfl (hb hby at_160) rfl  kk_) ?_
        show G T11 (mkF m 162 #[.val (.int i1), .val (.int i2), .val (.int i3), .val (.int i4), .val (.long t5), .second, .val (.int kd), .val (.int fl), .val (.int nl), .val (.int ql), .val (.int c0), .val (.int c1), .val (.ref ca0), .val (.ref ca1), .val (.ref ca2), .val (.ref nm), .val (.int y0), .val (.int y1), .val (.ref ba0), .val (.ref ba1), .unset, .unset, .unset, .unset, .unset] [(.int y1), (.int (1 : Int32)), (.ref ba2), (.ref ba2)])
        refine rStB hs X11 hx hZ V_ba2 g_ba2 ⟨by decide, by decide⟩ 1 (by decide) (by simp) (x' := y1) (by rw [hy1]; exact nar_byte _) rfl rfl (hb hby at_162) (fun T12 h12 X12 W12 V_ba2 => ?_)
        have V_ba2 : Arv Z h12 ba2 k10 .byte (2 : Int32) [(.int y0), (.int y1)] (.int (0 : Int32)) := V_ba2
        have O := O.wr W12 g_ba2
        have E_nm := E_nm.wr W12
        have V_ba0 := V_ba0.other W12 ne_ba0_ba2
        have E_ba0 := E_ba0.wr W12
        have V_ba1 := V_ba1.other W12 ne_ba1_ba2
        have E_ba1 := E_ba1.wr W12
        have E_ba2 := E_ba2.wr W12
        have Z0 := Nat.le_trans Z0 (Keep.of_wr W12).1
        show G T12 (mkF m 163 #[.val (.int i1), .val (.int i2), .val (.int i3), .val (.int i4), .val (.long t5), .second, .val (.int kd), .val (.int fl), .val (.int nl), .val (.int ql), .val (.int c0), .val (.int c1), .val (.ref ca0), .val (.ref ca1), .val (.ref ca2), .val (.ref nm), .val (.int y0), .val (.int y1), .val (.ref ba0), .val (.ref ba1), .unset, .unset, .unset, .unset, .unset] [(.ref ba2)])
        refine hs.go (fun _ kk_ => XS.astore X12.here hx rfl (hb hby at_163) rfl rfl (l' := #[.val (.int i1), .val (.int i2), .val (.int i3), .val (.int i4), .val (.long t5), .second, .val (.int kd), .val (.int fl), .val (.int nl), .val (.int ql), .val (.int c0), .val (.int c1), .val (.ref ca0), .val (.ref ca1), .val (.ref ca2), .val (.ref nm), .val (.int y0), .val (.int y1), .val (.ref ba0), .val (.ref ba1), .val (.ref ba2), .unset, .unset, .unset, .unset]) rfl kk_) ?_
        show G T12 (mkF m 165 #[.val (.int i1), .val (.int i2), .val (.int i3), .val (.int i4), .val (.long t5), .second, .val (.int kd), .val (.int fl), .val (.int nl), .val (.int ql), .val (.int c0), .val (.int c1), .val (.ref ca0), .val (.ref ca1), .val (.ref ca2), .val (.ref nm), .val (.int y0), .val (.int y1), .val (.ref ba0), .val (.ref ba1), .val (.ref ba2), .unset, .unset, .unset, .unset] [])
        have J188 : ∀ (q : Addr) (kq : ClassId) (zq : Int32) (vq : List Value), Arv Z h12 q kq .byte zq vq (.int (0 : Int32)) → Exa Z h12 q "[B" → zq.toNatClampNeg ≤ 2 → G T12 (mkF m 188 #[.val (.int i1), .val (.int i2), .val (.int i3), .val (.int i4), .val (.long t5), .second, .val (.int kd), .val (.int fl), .val (.int nl), .val (.int ql), .val (.int c0), .val (.int c1), .val (.ref ca0), .val (.ref ca1), .val (.ref ca2), .val (.ref nm), .val (.int y0), .val (.int y1), .val (.ref ba0), .val (.ref ba1), .val (.ref ba2), .unset, .unset, .unset, .unset] [(.ref q)]) := by
          intro q kq zq vq V_q E_q hz2
          show G T12 (mkF m 188 #[.val (.int i1), .val (.int i2), .val (.int i3), .val (.int i4), .val (.long t5), .second, .val (.int kd), .val (.int fl), .val (.int nl), .val (.int ql), .val (.int c0), .val (.int c1), .val (.ref ca0), .val (.ref ca1), .val (.ref ca2), .val (.ref nm), .val (.int y0), .val (.int y1), .val (.ref ba0), .val (.ref ba1), .val (.ref ba2), .unset, .unset, .unset, .unset] [(.ref q)])
          refine hs.go (fun _ kk_ => XS.astore X12.here hx rfl (hb hby at_188) rfl rfl (l' := #[.val (.int i1), .val (.int i2), .val (.int i3), .val (.int i4), .val (.long t5), .second, .val (.int kd), .val (.int fl), .val (.int nl), .val (.int ql), .val (.int c0), .val (.int c1), .val (.ref ca0), .val (.ref ca1), .val (.ref ca2), .val (.ref nm), .val (.int y0), .val (.int y1), .val (.ref ba0), .val (.ref ba1), .val (.ref ba2), .val (.ref q), .unset, .unset, .unset]) rfl kk_) ?_
          show G T12 (mkF m 190 #[.val (.int i1), .val (.int i2), .val (.int i3), .val (.int i4), .val (.long t5), .second, .val (.int kd), .val (.int fl), .val (.int nl), .val (.int ql), .val (.int c0), .val (.int c1), .val (.ref ca0), .val (.ref ca1), .val (.ref ca2), .val (.ref nm), .val (.int y0), .val (.int y1), .val (.ref ba0), .val (.ref ba1), .val (.ref ba2), .val (.ref q), .unset, .unset, .unset] [])
          as_aux_lemma =>
            rcases own_3 (by decide) hkd with e_ | e_ | e_
            · subst e_
              show G T12 (mkF m 190 #[.val (.int i1), .val (.int i2), .val (.int i3), .val (.int i4), .val (.long t5), .second, .val (.int (0 : Int32)), .val (.int fl), .val (.int nl), .val (.int ql), .val (.int c0), .val (.int c1), .val (.ref ca0), .val (.ref ca1), .val (.ref ca2), .val (.ref nm), .val (.int y0), .val (.int y1), .val (.ref ba0), .val (.ref ba1), .val (.ref ba2), .val (.ref q), .unset, .unset, .unset] [])
              refine hs.go (fun _ kk_ => XS.iload X12.here hx rfl (hb hby at_190) rfl  kk_) ?_
              show G T12 (mkF m 192 #[.val (.int i1), .val (.int i2), .val (.int i3), .val (.int i4), .val (.long t5), .second, .val (.int (0 : Int32)), .val (.int fl), .val (.int nl), .val (.int ql), .val (.int c0), .val (.int c1), .val (.ref ca0), .val (.ref ca1), .val (.ref ca2), .val (.ref nm), .val (.int y0), .val (.int y1), .val (.ref ba0), .val (.ref ba1), .val (.ref ba2), .val (.ref q), .unset, .unset, .unset] [(.int (0 : Int32))])
              refine hs.go (fun _ kk_ => XS.ifNo X12.here hx rfl (hb hby at_192) rfl ((if0 _ _).trans (teq (rfl : (0 : Int32) = (0 : Int32))).2) kk_) ?_
              show G T12 (mkF m 195 #[.val (.int i1), .val (.int i2), .val (.int i3), .val (.int i4), .val (.long t5), .second, .val (.int (0 : Int32)), .val (.int fl), .val (.int nl), .val (.int ql), .val (.int c0), .val (.int c1), .val (.ref ca0), .val (.ref ca1), .val (.ref ca2), .val (.ref nm), .val (.int y0), .val (.int y1), .val (.ref ba0), .val (.ref ba1), .val (.ref ba2), .val (.ref q), .unset, .unset, .unset] [])
              refine rCallS hs X12 hx hZ (as' := []) stbT (rm4 l Z a0 hw [] ro h12 n0 Z0 (R0.ext O.2)) hown (hw _ (List.mem_of_getElem? (i := 24) rfl)) (hw _ (List.mem_of_getElem? (i := 25) rfl)) (hw _ (List.mem_of_getElem? (i := 26) rfl)) (hw _ (List.mem_of_getElem? (i := 27) rfl)) hy_4 rfl (by rw [hml]; rfl) [] (lenOf pd_10 rfl) rfl 0 (by show 2 * 0 + _ ≤ _; exact Nat.le_of_eq rfl) (hb hby at_195) (by decide) (by decide) (by decide) (by decide) (fun r13 T13 h13 vm13 X13 q13 => ?_)
              obtain ⟨rfl, qh13⟩ := q13
              have X13 := X13 (fun _ => True) trivial
              rw [qh13] at X13
              show G T13 (mkF m 198 #[.val (.int i1), .val (.int i2), .val (.int i3), .val (.int i4), .val (.long t5), .second, .val (.int (0 : Int32)), .val (.int fl), .val (.int nl), .val (.int ql), .val (.int c0), .val (.int c1), .val (.ref ca0), .val (.ref ca1), .val (.ref ca2), .val (.ref nm), .val (.int y0), .val (.int y1), .val (.ref ba0), .val (.ref ba1), .val (.ref ba2), .val (.ref q), .unset, .unset, .unset] [(.ref ro)])
              refine hs.go (fun _ kk_ => XS.astore X13.here hx rfl (hb hby at_198) rfl rfl (l' := #[.val (.int i1), .val (.int i2), .val (.int i3), .val (.int i4), .val (.long t5), .second, .val (.int (0 : Int32)), .val (.int fl), .val (.int nl), .val (.int ql), .val (.int c0), .val (.int c1), .val (.ref ca0), .val (.ref ca1), .val (.ref ca2), .val (.ref nm), .val (.int y0), .val (.int y1), .val (.ref ba0), .val (.ref ba1), .val (.ref ba2), .val (.ref q), .val (.ref ro), .unset, .unset]) rfl kk_) ?_
              show G T13 (mkF m 200 #[.val (.int i1), .val (.int i2), .val (.int i3), .val (.int i4), .val (.long t5), .second, .val (.int (0 : Int32)), .val (.int fl), .val (.int nl), .val (.int ql), .val (.int c0), .val (.int c1), .val (.ref ca0), .val (.ref ca1), .val (.ref ca2), .val (.ref nm), .val (.int y0), .val (.int y1), .val (.ref ba0), .val (.ref ba1), .val (.ref ba2), .val (.ref q), .val (.ref ro), .unset, .unset] [])
              refine hs.go (fun _ kk_ => XS.iconst X13.here hx rfl (hb hby at_200) kk_) ?_
              show G T13 (mkF m 201 #[.val (.int i1), .val (.int i2), .val (.int i3), .val (.int i4), .val (.long t5), .second, .val (.int (0 : Int32)), .val (.int fl), .val (.int nl), .val (.int ql), .val (.int c0), .val (.int c1), .val (.ref ca0), .val (.ref ca1), .val (.ref ca2), .val (.ref nm), .val (.int y0), .val (.int y1), .val (.ref ba0), .val (.ref ba1), .val (.ref ba2), .val (.ref q), .val (.ref ro), .unset, .unset] [(.int (2 : Int32))])
              refine hs.go (fun _ kk_ => XS.istore X13.here hx rfl (hb hby at_201) rfl (l' := #[.val (.int i1), .val (.int i2), .val (.int i3), .val (.int i4), .val (.long t5), .second, .val (.int (0 : Int32)), .val (.int fl), .val (.int nl), .val (.int ql), .val (.int c0), .val (.int c1), .val (.ref ca0), .val (.ref ca1), .val (.ref ca2), .val (.ref nm), .val (.int y0), .val (.int y1), .val (.ref ba0), .val (.ref ba1), .val (.ref ba2), .val (.ref q), .val (.ref ro), .val (.int (2 : Int32)), .unset]) rfl kk_) ?_
              show G T13 (mkF m 203 #[.val (.int i1), .val (.int i2), .val (.int i3), .val (.int i4), .val (.long t5), .second, .val (.int (0 : Int32)), .val (.int fl), .val (.int nl), .val (.int ql), .val (.int c0), .val (.int c1), .val (.ref ca0), .val (.ref ca1), .val (.ref ca2), .val (.ref nm), .val (.int y0), .val (.int y1), .val (.ref ba0), .val (.ref ba1), .val (.ref ba2), .val (.ref q), .val (.ref ro), .val (.int (2 : Int32)), .unset] [])
              refine hs.go (fun _ kk_ => XS.goto X13.here hx rfl (pc0 := 203) (pc' := 237) rfl (hb hby at_203) (by decide) (by decide) kk_) ?_
              show G T13 (mkF m 237 #[.val (.int i1), .val (.int i2), .val (.int i3), .val (.int i4), .val (.long t5), .second, .val (.int (0 : Int32)), .val (.int fl), .val (.int nl), .val (.int ql), .val (.int c0), .val (.int c1), .val (.ref ca0), .val (.ref ca1), .val (.ref ca2), .val (.ref nm), .val (.int y0), .val (.int y1), .val (.ref ba0), .val (.ref ba1), .val (.ref ba2), .val (.ref q), .val (.ref ro), .val (.int (2 : Int32)), .unset] [])
              refine hs.go (fun _ kk_ => XS.iload X13.here hx rfl (hb hby at_237) rfl  kk_) ?_
              show G T13 (mkF m 239 #[.val (.int i1), .val (.int i2), .val (.int i3), .val (.int i4), .val (.long t5), .second, .val (.int (0 : Int32)), .val (.int fl), .val (.int nl), .val (.int ql), .val (.int c0), .val (.int c1), .val (.ref ca0), .val (.ref ca1), .val (.ref ca2), .val (.ref nm), .val (.int y0), .val (.int y1), .val (.ref ba0), .val (.ref ba1), .val (.ref ba2), .val (.ref q), .val (.ref ro), .val (.int (2 : Int32)), .unset] [(.int fl)])
              by_cases c239 : fl = (0 : Int32)
              · refine hs.go (fun _ kk_ => XS.ifYes X13.here hx rfl (pc0 := 239) (pc' := 255) rfl (hb hby at_239) rfl ((if0 _ _).trans (teq c239).1) (by decide) (by decide) kk_) ?_
                show G T13 (mkF m 255 #[.val (.int i1), .val (.int i2), .val (.int i3), .val (.int i4), .val (.long t5), .second, .val (.int (0 : Int32)), .val (.int fl), .val (.int nl), .val (.int ql), .val (.int c0), .val (.int c1), .val (.ref ca0), .val (.ref ca1), .val (.ref ca2), .val (.ref nm), .val (.int y0), .val (.int y1), .val (.ref ba0), .val (.ref ba1), .val (.ref ba2), .val (.ref q), .val (.ref ro), .val (.int (2 : Int32)), .unset] [])
                refine hs.go (fun _ kk_ => XS.aload X13.here hx rfl (hb hby at_255) rfl rfl kk_) ?_
                show G T13 (mkF m 257 #[.val (.int i1), .val (.int i2), .val (.int i3), .val (.int i4), .val (.long t5), .second, .val (.int (0 : Int32)), .val (.int fl), .val (.int nl), .val (.int ql), .val (.int c0), .val (.int c1), .val (.ref ca0), .val (.ref ca1), .val (.ref ca2), .val (.ref nm), .val (.int y0), .val (.int y1), .val (.ref ba0), .val (.ref ba1), .val (.ref ba2), .val (.ref q), .val (.ref ro), .val (.int (2 : Int32)), .unset] [(.ref ro)])
                refine rCallS hs X13 hx hZ (as' := [(.ref ro)]) stbT (mk_2 l Z a0 hw [] ro rc ro ro h12 n0 Z0 (F_columns_ro.ext O.2) (F_family_rc.ext O.2)) hown (hw _ (List.mem_of_getElem? (i := 30) rfl)) (hw _ (List.mem_of_getElem? (i := 31) rfl)) (hw _ (List.mem_of_getElem? (i := 32) rfl)) (hw _ (List.mem_of_getElem? (i := 33) rfl)) hy_5 rfl (by rw [hml]; rfl) [] (lenOf pd_11 rfl) rfl 0 (by show 2 * 0 + _ ≤ _; exact Nat.le_of_eq rfl) (hb hby at_257) (by decide) (by decide) (by decide) (by decide) (fun r14 T14 h14 vm14 X14 q14 => ?_)
                obtain ⟨rfl, qh14⟩ := q14
                have X14 := X14 (fun _ => True) trivial
                rw [qh14] at X14
                show G T14 (mkF m 260 #[.val (.int i1), .val (.int i2), .val (.int i3), .val (.int i4), .val (.long t5), .second, .val (.int (0 : Int32)), .val (.int fl), .val (.int nl), .val (.int ql), .val (.int c0), .val (.int c1), .val (.ref ca0), .val (.ref ca1), .val (.ref ca2), .val (.ref nm), .val (.int y0), .val (.int y1), .val (.ref ba0), .val (.ref ba1), .val (.ref ba2), .val (.ref q), .val (.ref ro), .val (.int (2 : Int32)), .unset] [(.int (2 : Int32))])
                refine hs.go (fun _ kk_ => XS.istore X14.here hx rfl (hb hby at_260) rfl (l' := #[.val (.int i1), .val (.int i2), .val (.int i3), .val (.int i4), .val (.long t5), .second, .val (.int (0 : Int32)), .val (.int fl), .val (.int nl), .val (.int ql), .val (.int c0), .val (.int c1), .val (.ref ca0), .val (.ref ca1), .val (.ref ca2), .val (.ref nm), .val (.int y0), .val (.int y1), .val (.ref ba0), .val (.ref ba1), .val (.ref ba2), .val (.ref q), .val (.ref ro), .val (.int (2 : Int32)), .val (.int (2 : Int32))]) rfl kk_) ?_
                show G T14 (mkF m 262 #[.val (.int i1), .val (.int i2), .val (.int i3), .val (.int i4), .val (.long t5), .second, .val (.int (0 : Int32)), .val (.int fl), .val (.int nl), .val (.int ql), .val (.int c0), .val (.int c1), .val (.ref ca0), .val (.ref ca1), .val (.ref ca2), .val (.ref nm), .val (.int y0), .val (.int y1), .val (.ref ba0), .val (.ref ba1), .val (.ref ba2), .val (.ref q), .val (.ref ro), .val (.int (2 : Int32)), .val (.int (2 : Int32))] [])
                refine hs.go (fun _ kk_ => XS.iload X14.here hx rfl (hb hby at_262) rfl  kk_) ?_
                show G T14 (mkF m 264 #[.val (.int i1), .val (.int i2), .val (.int i3), .val (.int i4), .val (.long t5), .second, .val (.int (0 : Int32)), .val (.int fl), .val (.int nl), .val (.int ql), .val (.int c0), .val (.int c1), .val (.ref ca0), .val (.ref ca1), .val (.ref ca2), .val (.ref nm), .val (.int y0), .val (.int y1), .val (.ref ba0), .val (.ref ba1), .val (.ref ba2), .val (.ref q), .val (.ref ro), .val (.int (2 : Int32)), .val (.int (2 : Int32))] [(.int (2 : Int32))])
                refine hs.go (fun _ kk_ => XS.iload X14.here hx rfl (hb hby at_264) rfl  kk_) ?_
                show G T14 (mkF m 266 #[.val (.int i1), .val (.int i2), .val (.int i3), .val (.int i4), .val (.long t5), .second, .val (.int (0 : Int32)), .val (.int fl), .val (.int nl), .val (.int ql), .val (.int c0), .val (.int c1), .val (.ref ca0), .val (.ref ca1), .val (.ref ca2), .val (.ref nm), .val (.int y0), .val (.int y1), .val (.ref ba0), .val (.ref ba1), .val (.ref ba2), .val (.ref q), .val (.ref ro), .val (.int (2 : Int32)), .val (.int (2 : Int32))] [(.int (2 : Int32)), (.int (2 : Int32))])
                refine hs.go (fun _ kk_ => XS.icmpNo X14.here hx rfl (hb hby at_266) rfl (teq (rfl : (2 : Int32) = (2 : Int32))).2 kk_) ?_
                show G T14 (mkF m 269 #[.val (.int i1), .val (.int i2), .val (.int i3), .val (.int i4), .val (.long t5), .second, .val (.int (0 : Int32)), .val (.int fl), .val (.int nl), .val (.int ql), .val (.int c0), .val (.int c1), .val (.ref ca0), .val (.ref ca1), .val (.ref ca2), .val (.ref nm), .val (.int y0), .val (.int y1), .val (.ref ba0), .val (.ref ba1), .val (.ref ba2), .val (.ref q), .val (.ref ro), .val (.int (2 : Int32)), .val (.int (2 : Int32))] [])
                refine hs.go (fun _ kk_ => XS.iload X14.here hx rfl (hb hby at_269) rfl  kk_) ?_
                show G T14 (mkF m 271 #[.val (.int i1), .val (.int i2), .val (.int i3), .val (.int i4), .val (.long t5), .second, .val (.int (0 : Int32)), .val (.int fl), .val (.int nl), .val (.int ql), .val (.int c0), .val (.int c1), .val (.ref ca0), .val (.ref ca1), .val (.ref ca2), .val (.ref nm), .val (.int y0), .val (.int y1), .val (.ref ba0), .val (.ref ba1), .val (.ref ba2), .val (.ref q), .val (.ref ro), .val (.int (2 : Int32)), .val (.int (2 : Int32))] [(.int (2 : Int32))])
                refine rCallS hs X14 hx hZ (as' := [(.int (2 : Int32))]) stbT (rm6 l Z a0 hw [] (2 : Int32) h12 n0 Z0) hown (hw _ (List.mem_of_getElem? (i := 38) rfl)) (hw _ (List.mem_of_getElem? (i := 39) rfl)) (hw _ (List.mem_of_getElem? (i := 32) rfl)) (hw _ (List.mem_of_getElem? (i := 40) rfl)) hy_6 rfl (by rw [hml]; rfl) [] (lenOf pd_12 rfl) rfl 0 (by show 2 * 0 + _ ≤ _; exact Nat.le_of_eq rfl) (hb hby at_271) (by decide) (by decide) (by decide) (by decide) (fun r15 T15 h15 vm15 X15 q15 => ?_)
                obtain ⟨rfl, qh15⟩ := q15
                have X15 := X15 (fun _ => True) trivial
                rw [qh15] at X15
                show G T15 (mkF m 274 #[.val (.int i1), .val (.int i2), .val (.int i3), .val (.int i4), .val (.long t5), .second, .val (.int (0 : Int32)), .val (.int fl), .val (.int nl), .val (.int ql), .val (.int c0), .val (.int c1), .val (.ref ca0), .val (.ref ca1), .val (.ref ca2), .val (.ref nm), .val (.int y0), .val (.int y1), .val (.ref ba0), .val (.ref ba1), .val (.ref ba2), .val (.ref q), .val (.ref ro), .val (.int (2 : Int32)), .val (.int (2 : Int32))] [(.int (fmk (2 : Int32)))])
                refine hs.go (fun _ kk_ => XS.ifNo X15.here hx rfl (hb hby at_274) rfl ((if0 _ _).trans (feq ((by decide) : ¬ ((fmk (2 : Int32)) = (0 : Int32)))).1) kk_) ?_
                show G T15 (mkF m 277 #[.val (.int i1), .val (.int i2), .val (.int i3), .val (.int i4), .val (.long t5), .second, .val (.int (0 : Int32)), .val (.int fl), .val (.int nl), .val (.int ql), .val (.int c0), .val (.int c1), .val (.ref ca0), .val (.ref ca1), .val (.ref ca2), .val (.ref nm), .val (.int y0), .val (.int y1), .val (.ref ba0), .val (.ref ba1), .val (.ref ba2), .val (.ref q), .val (.ref ro), .val (.int (2 : Int32)), .val (.int (2 : Int32))] [])
                refine hs.go (fun _ kk_ => XS.iconst X15.here hx rfl (hb hby at_277) kk_) ?_
                show G T15 (mkF m 278 #[.val (.int i1), .val (.int i2), .val (.int i3), .val (.int i4), .val (.long t5), .second, .val (.int (0 : Int32)), .val (.int fl), .val (.int nl), .val (.int ql), .val (.int c0), .val (.int c1), .val (.ref ca0), .val (.ref ca1), .val (.ref ca2), .val (.ref nm), .val (.int y0), .val (.int y1), .val (.ref ba0), .val (.ref ba1), .val (.ref ba2), .val (.ref q), .val (.ref ro), .val (.int (2 : Int32)), .val (.int (2 : Int32))] [(.int (1 : Int32))])
                refine hs.go (fun _ kk_ => XS.goto X15.here hx rfl (pc0 := 278) (pc' := 282) rfl (hb hby at_278) (by decide) (by decide) kk_) ?_
                show G T15 (mkF m 282 #[.val (.int i1), .val (.int i2), .val (.int i3), .val (.int i4), .val (.long t5), .second, .val (.int (0 : Int32)), .val (.int fl), .val (.int nl), .val (.int ql), .val (.int c0), .val (.int c1), .val (.ref ca0), .val (.ref ca1), .val (.ref ca2), .val (.ref nm), .val (.int y0), .val (.int y1), .val (.ref ba0), .val (.ref ba1), .val (.ref ba2), .val (.ref q), .val (.ref ro), .val (.int (2 : Int32)), .val (.int (2 : Int32))] [(.int (1 : Int32))])
                exact rRetN fin stbT X15 hx (by decide) (by decide) hret (by simp) (hb hby at_282) (z' := (1 : Int32)) (by decide) (fun vm' hj => rfl)
              · refine hs.go (fun _ kk_ => XS.ifNo X13.here hx rfl (hb hby at_239) rfl ((if0 _ _).trans (feq c239).1) kk_) ?_
                show G T13 (mkF m 242 #[.val (.int i1), .val (.int i2), .val (.int i3), .val (.int i4), .val (.long t5), .second, .val (.int (0 : Int32)), .val (.int fl), .val (.int nl), .val (.int ql), .val (.int c0), .val (.int c1), .val (.ref ca0), .val (.ref ca1), .val (.ref ca2), .val (.ref nm), .val (.int y0), .val (.int y1), .val (.ref ba0), .val (.ref ba1), .val (.ref ba2), .val (.ref q), .val (.ref ro), .val (.int (2 : Int32)), .unset] [])
                refine hs.go (fun _ kk_ => XS.aload X13.here hx rfl (hb hby at_242) rfl rfl kk_) ?_
                show G T13 (mkF m 244 #[.val (.int i1), .val (.int i2), .val (.int i3), .val (.int i4), .val (.long t5), .second, .val (.int (0 : Int32)), .val (.int fl), .val (.int nl), .val (.int ql), .val (.int c0), .val (.int c1), .val (.ref ca0), .val (.ref ca1), .val (.ref ca2), .val (.ref nm), .val (.int y0), .val (.int y1), .val (.ref ba0), .val (.ref ba1), .val (.ref ba2), .val (.ref q), .val (.ref ro), .val (.int (2 : Int32)), .unset] [(.ref ro)])
                refine hs.go (fun _ kk_ => XS.lload X13.here hx rfl (hb hby at_244) rfl  kk_) ?_
                show G T13 (mkF m 246 #[.val (.int i1), .val (.int i2), .val (.int i3), .val (.int i4), .val (.long t5), .second, .val (.int (0 : Int32)), .val (.int fl), .val (.int nl), .val (.int ql), .val (.int c0), .val (.int c1), .val (.ref ca0), .val (.ref ca1), .val (.ref ca2), .val (.ref nm), .val (.int y0), .val (.int y1), .val (.ref ba0), .val (.ref ba1), .val (.ref ba2), .val (.ref q), .val (.ref ro), .val (.int (2 : Int32)), .unset] [(.long t5), (.ref ro)])
                refine rLdcL hs X13 hx hZ hown (hw _ (List.mem_of_getElem? (i := 100) rfl)) rfl (hb hby at_246) ?_
                show G T13 (mkF m 249 #[.val (.int i1), .val (.int i2), .val (.int i3), .val (.int i4), .val (.long t5), .second, .val (.int (0 : Int32)), .val (.int fl), .val (.int nl), .val (.int ql), .val (.int c0), .val (.int c1), .val (.ref ca0), .val (.ref ca1), .val (.ref ca2), .val (.ref nm), .val (.int y0), .val (.int y1), .val (.ref ba0), .val (.ref ba1), .val (.ref ba2), .val (.ref q), .val (.ref ro), .val (.int (2 : Int32)), .unset] [(.long (9223372036854775807 : Int64)), (.long t5), (.ref ro)])
                refine hs.go (fun _ kk_ => XS.land X13.here hx rfl (hb hby at_249) rfl kk_) ?_
                show G T13 (mkF m 250 #[.val (.int i1), .val (.int i2), .val (.int i3), .val (.int i4), .val (.long t5), .second, .val (.int (0 : Int32)), .val (.int fl), .val (.int nl), .val (.int ql), .val (.int c0), .val (.int c1), .val (.ref ca0), .val (.ref ca1), .val (.ref ca2), .val (.ref nm), .val (.int y0), .val (.int y1), .val (.ref ba0), .val (.ref ba1), .val (.ref ba2), .val (.ref q), .val (.ref ro), .val (.int (2 : Int32)), .unset] [(.long (t5 &&& (9223372036854775807 : Int64))), (.ref ro)])
                refine rCallV hs X13 hx hZ (as' := [(.long (t5 &&& (9223372036854775807 : Int64)))]) stbT (rm17 l Z a0 hw [] ro rc (t5 &&& (9223372036854775807 : Int64)) h12 n0 Z0 (F_columns_ro.ext O.2) (own_ts _)) (E_ro.ext O.2) hown (hw _ (List.mem_of_getElem? (i := 101) rfl)) (hw _ (List.mem_of_getElem? (i := 102) rfl)) (hw _ (List.mem_of_getElem? (i := 104) rfl)) (hw _ (List.mem_of_getElem? (i := 103) rfl)) (hw _ (List.mem_of_getElem? (i := 26) rfl)) (hw _ (List.mem_of_getElem? (i := 105) rfl)) hy_17 rfl (by rw [hml]; rfl) [] (lenOf pd_13 rfl) rfl 0 (by show 2 * 0 + _ ≤ _; exact Nat.le_of_eq rfl) (hb hby at_250) (by decide) (by decide) (by decide) (by decide) (fun r16 T16 h16 vm16 X16 q16 => ?_)
                obtain ⟨mm16, rfl, Kc16, E_mm16, F_columns_mm16⟩ := q16
                have X16 := X16 (fun _ => True) trivial
                have O := O.keep Kc16 all0
                have E_nm := E_nm.keep Kc16
                have V_q := V_q.keep Kc16 nin0
                have E_q := E_q.keep Kc16
                have Z0 := Nat.le_trans Z0 Kc16.1
                show G T16 (mkF m 253 #[.val (.int i1), .val (.int i2), .val (.int i3), .val (.int i4), .val (.long t5), .second, .val (.int (0 : Int32)), .val (.int fl), .val (.int nl), .val (.int ql), .val (.int c0), .val (.int c1), .val (.ref ca0), .val (.ref ca1), .val (.ref ca2), .val (.ref nm), .val (.int y0), .val (.int y1), .val (.ref ba0), .val (.ref ba1), .val (.ref ba2), .val (.ref q), .val (.ref ro), .val (.int (2 : Int32)), .unset] [(.ref mm16)])
                refine hs.go (fun _ kk_ => XS.astore X16.here hx rfl (hb hby at_253) rfl rfl (l' := #[.val (.int i1), .val (.int i2), .val (.int i3), .val (.int i4), .val (.long t5), .second, .val (.int (0 : Int32)), .val (.int fl), .val (.int nl), .val (.int ql), .val (.int c0), .val (.int c1), .val (.ref ca0), .val (.ref ca1), .val (.ref ca2), .val (.ref nm), .val (.int y0), .val (.int y1), .val (.ref ba0), .val (.ref ba1), .val (.ref ba2), .val (.ref q), .val (.ref mm16), .val (.int (2 : Int32)), .unset]) rfl kk_) ?_
                show G T16 (mkF m 255 #[.val (.int i1), .val (.int i2), .val (.int i3), .val (.int i4), .val (.long t5), .second, .val (.int (0 : Int32)), .val (.int fl), .val (.int nl), .val (.int ql), .val (.int c0), .val (.int c1), .val (.ref ca0), .val (.ref ca1), .val (.ref ca2), .val (.ref nm), .val (.int y0), .val (.int y1), .val (.ref ba0), .val (.ref ba1), .val (.ref ba2), .val (.ref q), .val (.ref mm16), .val (.int (2 : Int32)), .unset] [])
                refine hs.go (fun _ kk_ => XS.aload X16.here hx rfl (hb hby at_255) rfl rfl kk_) ?_
                show G T16 (mkF m 257 #[.val (.int i1), .val (.int i2), .val (.int i3), .val (.int i4), .val (.long t5), .second, .val (.int (0 : Int32)), .val (.int fl), .val (.int nl), .val (.int ql), .val (.int c0), .val (.int c1), .val (.ref ca0), .val (.ref ca1), .val (.ref ca2), .val (.ref nm), .val (.int y0), .val (.int y1), .val (.ref ba0), .val (.ref ba1), .val (.ref ba2), .val (.ref q), .val (.ref mm16), .val (.int (2 : Int32)), .unset] [(.ref mm16)])
                refine rCallS hs X16 hx hZ (as' := [(.ref mm16)]) stbT (mk_2 l Z a0 hw [] mm16 rc mm16 mm16 h16 n0 Z0 F_columns_mm16 (F_family_rc.ext O.2)) hown (hw _ (List.mem_of_getElem? (i := 30) rfl)) (hw _ (List.mem_of_getElem? (i := 31) rfl)) (hw _ (List.mem_of_getElem? (i := 32) rfl)) (hw _ (List.mem_of_getElem? (i := 33) rfl)) hy_5 rfl (by rw [hml]; rfl) [] (lenOf pd_11 rfl) rfl 0 (by show 2 * 0 + _ ≤ _; exact Nat.le_of_eq rfl) (hb hby at_257) (by decide) (by decide) (by decide) (by decide) (fun r17 T17 h17 vm17 X17 q17 => ?_)
                obtain ⟨rfl, qh17⟩ := q17
                have X17 := X17 (fun _ => True) trivial
                rw [qh17] at X17
                show G T17 (mkF m 260 #[.val (.int i1), .val (.int i2), .val (.int i3), .val (.int i4), .val (.long t5), .second, .val (.int (0 : Int32)), .val (.int fl), .val (.int nl), .val (.int ql), .val (.int c0), .val (.int c1), .val (.ref ca0), .val (.ref ca1), .val (.ref ca2), .val (.ref nm), .val (.int y0), .val (.int y1), .val (.ref ba0), .val (.ref ba1), .val (.ref ba2), .val (.ref q), .val (.ref mm16), .val (.int (2 : Int32)), .unset] [(.int (2 : Int32))])
                refine hs.go (fun _ kk_ => XS.istore X17.here hx rfl (hb hby at_260) rfl (l' := #[.val (.int i1), .val (.int i2), .val (.int i3), .val (.int i4), .val (.long t5), .second, .val (.int (0 : Int32)), .val (.int fl), .val (.int nl), .val (.int ql), .val (.int c0), .val (.int c1), .val (.ref ca0), .val (.ref ca1), .val (.ref ca2), .val (.ref nm), .val (.int y0), .val (.int y1), .val (.ref ba0), .val (.ref ba1), .val (.ref ba2), .val (.ref q), .val (.ref mm16), .val (.int (2 : Int32)), .val (.int (2 : Int32))]) rfl kk_) ?_
                show G T17 (mkF m 262 #[.val (.int i1), .val (.int i2), .val (.int i3), .val (.int i4), .val (.long t5), .second, .val (.int (0 : Int32)), .val (.int fl), .val (.int nl), .val (.int ql), .val (.int c0), .val (.int c1), .val (.ref ca0), .val (.ref ca1), .val (.ref ca2), .val (.ref nm), .val (.int y0), .val (.int y1), .val (.ref ba0), .val (.ref ba1), .val (.ref ba2), .val (.ref q), .val (.ref mm16), .val (.int (2 : Int32)), .val (.int (2 : Int32))] [])
                refine hs.go (fun _ kk_ => XS.iload X17.here hx rfl (hb hby at_262) rfl  kk_) ?_
                show G T17 (mkF m 264 #[.val (.int i1), .val (.int i2), .val (.int i3), .val (.int i4), .val (.long t5), .second, .val (.int (0 : Int32)), .val (.int fl), .val (.int nl), .val (.int ql), .val (.int c0), .val (.int c1), .val (.ref ca0), .val (.ref ca1), .val (.ref ca2), .val (.ref nm), .val (.int y0), .val (.int y1), .val (.ref ba0), .val (.ref ba1), .val (.ref ba2), .val (.ref q), .val (.ref mm16), .val (.int (2 : Int32)), .val (.int (2 : Int32))] [(.int (2 : Int32))])
                refine hs.go (fun _ kk_ => XS.iload X17.here hx rfl (hb hby at_264) rfl  kk_) ?_
                show G T17 (mkF m 266 #[.val (.int i1), .val (.int i2), .val (.int i3), .val (.int i4), .val (.long t5), .second, .val (.int (0 : Int32)), .val (.int fl), .val (.int nl), .val (.int ql), .val (.int c0), .val (.int c1), .val (.ref ca0), .val (.ref ca1), .val (.ref ca2), .val (.ref nm), .val (.int y0), .val (.int y1), .val (.ref ba0), .val (.ref ba1), .val (.ref ba2), .val (.ref q), .val (.ref mm16), .val (.int (2 : Int32)), .val (.int (2 : Int32))] [(.int (2 : Int32)), (.int (2 : Int32))])
                refine hs.go (fun _ kk_ => XS.icmpNo X17.here hx rfl (hb hby at_266) rfl (teq (rfl : (2 : Int32) = (2 : Int32))).2 kk_) ?_
                show G T17 (mkF m 269 #[.val (.int i1), .val (.int i2), .val (.int i3), .val (.int i4), .val (.long t5), .second, .val (.int (0 : Int32)), .val (.int fl), .val (.int nl), .val (.int ql), .val (.int c0), .val (.int c1), .val (.ref ca0), .val (.ref ca1), .val (.ref ca2), .val (.ref nm), .val (.int y0), .val (.int y1), .val (.ref ba0), .val (.ref ba1), .val (.ref ba2), .val (.ref q), .val (.ref mm16), .val (.int (2 : Int32)), .val (.int (2 : Int32))] [])
                refine hs.go (fun _ kk_ => XS.iload X17.here hx rfl (hb hby at_269) rfl  kk_) ?_
                show G T17 (mkF m 271 #[.val (.int i1), .val (.int i2), .val (.int i3), .val (.int i4), .val (.long t5), .second, .val (.int (0 : Int32)), .val (.int fl), .val (.int nl), .val (.int ql), .val (.int c0), .val (.int c1), .val (.ref ca0), .val (.ref ca1), .val (.ref ca2), .val (.ref nm), .val (.int y0), .val (.int y1), .val (.ref ba0), .val (.ref ba1), .val (.ref ba2), .val (.ref q), .val (.ref mm16), .val (.int (2 : Int32)), .val (.int (2 : Int32))] [(.int (2 : Int32))])
                refine rCallS hs X17 hx hZ (as' := [(.int (2 : Int32))]) stbT (rm6 l Z a0 hw [] (2 : Int32) h16 n0 Z0) hown (hw _ (List.mem_of_getElem? (i := 38) rfl)) (hw _ (List.mem_of_getElem? (i := 39) rfl)) (hw _ (List.mem_of_getElem? (i := 32) rfl)) (hw _ (List.mem_of_getElem? (i := 40) rfl)) hy_6 rfl (by rw [hml]; rfl) [] (lenOf pd_12 rfl) rfl 0 (by show 2 * 0 + _ ≤ _; exact Nat.le_of_eq rfl) (hb hby at_271) (by decide) (by decide) (by decide) (by decide) (fun r18 T18 h18 vm18 X18 q18 => ?_)
                obtain ⟨rfl, qh18⟩ := q18
                have X18 := X18 (fun _ => True) trivial
                rw [qh18] at X18
                show G T18 (mkF m 274 #[.val (.int i1), .val (.int i2), .val (.int i3), .val (.int i4), .val (.long t5), .second, .val (.int (0 : Int32)), .val (.int fl), .val (.int nl), .val (.int ql), .val (.int c0), .val (.int c1), .val (.ref ca0), .val (.ref ca1), .val (.ref ca2), .val (.ref nm), .val (.int y0), .val (.int y1), .val (.ref ba0), .val (.ref ba1), .val (.ref ba2), .val (.ref q), .val (.ref mm16), .val (.int (2 : Int32)), .val (.int (2 : Int32))] [(.int (fmk (2 : Int32)))])
                refine hs.go (fun _ kk_ => XS.ifNo X18.here hx rfl (hb hby at_274) rfl ((if0 _ _).trans (feq ((by decide) : ¬ ((fmk (2 : Int32)) = (0 : Int32)))).1) kk_) ?_
                show G T18 (mkF m 277 #[.val (.int i1), .val (.int i2), .val (.int i3), .val (.int i4), .val (.long t5), .second, .val (.int (0 : Int32)), .val (.int fl), .val (.int nl), .val (.int ql), .val (.int c0), .val (.int c1), .val (.ref ca0), .val (.ref ca1), .val (.ref ca2), .val (.ref nm), .val (.int y0), .val (.int y1), .val (.ref ba0), .val (.ref ba1), .val (.ref ba2), .val (.ref q), .val (.ref mm16), .val (.int (2 : Int32)), .val (.int (2 : Int32))] [])
                refine hs.go (fun _ kk_ => XS.iconst X18.here hx rfl (hb hby at_277) kk_) ?_
                show G T18 (mkF m 278 #[.val (.int i1), .val (.int i2), .val (.int i3), .val (.int i4), .val (.long t5), .second, .val (.int (0 : Int32)), .val (.int fl), .val (.int nl), .val (.int ql), .val (.int c0), .val (.int c1), .val (.ref ca0), .val (.ref ca1), .val (.ref ca2), .val (.ref nm), .val (.int y0), .val (.int y1), .val (.ref ba0), .val (.ref ba1), .val (.ref ba2), .val (.ref q), .val (.ref mm16), .val (.int (2 : Int32)), .val (.int (2 : Int32))] [(.int (1 : Int32))])
                refine hs.go (fun _ kk_ => XS.goto X18.here hx rfl (pc0 := 278) (pc' := 282) rfl (hb hby at_278) (by decide) (by decide) kk_) ?_
                show G T18 (mkF m 282 #[.val (.int i1), .val (.int i2), .val (.int i3), .val (.int i4), .val (.long t5), .second, .val (.int (0 : Int32)), .val (.int fl), .val (.int nl), .val (.int ql), .val (.int c0), .val (.int c1), .val (.ref ca0), .val (.ref ca1), .val (.ref ca2), .val (.ref nm), .val (.int y0), .val (.int y1), .val (.ref ba0), .val (.ref ba1), .val (.ref ba2), .val (.ref q), .val (.ref mm16), .val (.int (2 : Int32)), .val (.int (2 : Int32))] [(.int (1 : Int32))])
                exact rRetN fin stbT X18 hx (by decide) (by decide) hret (by simp) (hb hby at_282) (z' := (1 : Int32)) (by decide) (fun vm' hj => rfl)
            · subst e_
              show G T12 (mkF m 190 #[.val (.int i1), .val (.int i2), .val (.int i3), .val (.int i4), .val (.long t5), .second, .val (.int (1 : Int32)), .val (.int fl), .val (.int nl), .val (.int ql), .val (.int c0), .val (.int c1), .val (.ref ca0), .val (.ref ca1), .val (.ref ca2), .val (.ref nm), .val (.int y0), .val (.int y1), .val (.ref ba0), .val (.ref ba1), .val (.ref ba2), .val (.ref q), .unset, .unset, .unset] [])
              refine hs.go (fun _ kk_ => XS.iload X12.here hx rfl (hb hby at_190) rfl  kk_) ?_
              show G T12 (mkF m 192 #[.val (.int i1), .val (.int i2), .val (.int i3), .val (.int i4), .val (.long t5), .second, .val (.int (1 : Int32)), .val (.int fl), .val (.int nl), .val (.int ql), .val (.int c0), .val (.int c1), .val (.ref ca0), .val (.ref ca1), .val (.ref ca2), .val (.ref nm), .val (.int y0), .val (.int y1), .val (.ref ba0), .val (.ref ba1), .val (.ref ba2), .val (.ref q), .unset, .unset, .unset] [(.int (1 : Int32))])
              refine hs.go (fun _ kk_ => XS.ifYes X12.here hx rfl (pc0 := 192) (pc' := 206) rfl (hb hby at_192) rfl ((if0 _ _).trans (feq ((by decide) : ¬ ((1 : Int32) = (0 : Int32)))).2) (by decide) (by decide) kk_) ?_
              show G T12 (mkF m 206 #[.val (.int i1), .val (.int i2), .val (.int i3), .val (.int i4), .val (.long t5), .second, .val (.int (1 : Int32)), .val (.int fl), .val (.int nl), .val (.int ql), .val (.int c0), .val (.int c1), .val (.ref ca0), .val (.ref ca1), .val (.ref ca2), .val (.ref nm), .val (.int y0), .val (.int y1), .val (.ref ba0), .val (.ref ba1), .val (.ref ba2), .val (.ref q), .unset, .unset, .unset] [])
              refine hs.go (fun _ kk_ => XS.iload X12.here hx rfl (hb hby at_206) rfl  kk_) ?_
              show G T12 (mkF m 208 #[.val (.int i1), .val (.int i2), .val (.int i3), .val (.int i4), .val (.long t5), .second, .val (.int (1 : Int32)), .val (.int fl), .val (.int nl), .val (.int ql), .val (.int c0), .val (.int c1), .val (.ref ca0), .val (.ref ca1), .val (.ref ca2), .val (.ref nm), .val (.int y0), .val (.int y1), .val (.ref ba0), .val (.ref ba1), .val (.ref ba2), .val (.ref q), .unset, .unset, .unset] [(.int (1 : Int32))])
              refine hs.go (fun _ kk_ => XS.iconst X12.here hx rfl (hb hby at_208) kk_) ?_
              show G T12 (mkF m 209 #[.val (.int i1), .val (.int i2), .val (.int i3), .val (.int i4), .val (.long t5), .second, .val (.int (1 : Int32)), .val (.int fl), .val (.int nl), .val (.int ql), .val (.int c0), .val (.int c1), .val (.ref ca0), .val (.ref ca1), .val (.ref ca2), .val (.ref nm), .val (.int y0), .val (.int y1), .val (.ref ba0), .val (.ref ba1), .val (.ref ba2), .val (.ref q), .unset, .unset, .unset] [(.int (1 : Int32)), (.int (1 : Int32))])
              refine hs.go (fun _ kk_ => XS.icmpNo X12.here hx rfl (hb hby at_209) rfl (teq (rfl : (1 : Int32) = (1 : Int32))).2 kk_) ?_
              show G T12 (mkF m 212 #[.val (.int i1), .val (.int i2), .val (.int i3), .val (.int i4), .val (.long t5), .second, .val (.int (1 : Int32)), .val (.int fl), .val (.int nl), .val (.int ql), .val (.int c0), .val (.int c1), .val (.ref ca0), .val (.ref ca1), .val (.ref ca2), .val (.ref nm), .val (.int y0), .val (.int y1), .val (.ref ba0), .val (.ref ba1), .val (.ref ba2), .val (.ref q), .unset, .unset, .unset] [])
              refine hs.go (fun _ kk_ => XS.aload X12.here hx rfl (hb hby at_212) rfl rfl kk_) ?_
              show G T12 (mkF m 214 #[.val (.int i1), .val (.int i2), .val (.int i3), .val (.int i4), .val (.long t5), .second, .val (.int (1 : Int32)), .val (.int fl), .val (.int nl), .val (.int ql), .val (.int c0), .val (.int c1), .val (.ref ca0), .val (.ref ca1), .val (.ref ca2), .val (.ref nm), .val (.int y0), .val (.int y1), .val (.ref ba0), .val (.ref ba1), .val (.ref ba2), .val (.ref q), .unset, .unset, .unset] [(.ref nm)])
              refine rCallS hs X12 hx hZ (as' := [(.ref nm)]) stbT (rm7 l Z a0 hw [] nm h12 n0 Z0 E_nm) hown (hw _ (List.mem_of_getElem? (i := 41) rfl)) (hw _ (List.mem_of_getElem? (i := 42) rfl)) (hw _ (List.mem_of_getElem? (i := 26) rfl)) (hw _ (List.mem_of_getElem? (i := 43) rfl)) hy_7 rfl (by rw [hml]; rfl) [] (lenOf pd_14 rfl) rfl 0 (by show 2 * 0 + _ ≤ _; exact Nat.le_of_eq rfl) (hb hby at_214) (by decide) (by decide) (by decide) (by decide) (fun r19 T19 h19 vm19 X19 q19 => ?_)
              obtain ⟨mm19, cc19, rfl, Kc19, E_mm19, F_columns_mm19, F_family_cc19, F_qualifier_cc19⟩ := q19
              have X19 := X19 (fun _ => True) trivial
              have O := O.keep Kc19 all0
              have E_nm := E_nm.keep Kc19
              have V_q := V_q.keep Kc19 nin0
              have E_q := E_q.keep Kc19
              have Z0 := Nat.le_trans Z0 Kc19.1
              show G T19 (mkF m 217 #[.val (.int i1), .val (.int i2), .val (.int i3), .val (.int i4), .val (.long t5), .second, .val (.int (1 : Int32)), .val (.int fl), .val (.int nl), .val (.int ql), .val (.int c0), .val (.int c1), .val (.ref ca0), .val (.ref ca1), .val (.ref ca2), .val (.ref nm), .val (.int y0), .val (.int y1), .val (.ref ba0), .val (.ref ba1), .val (.ref ba2), .val (.ref q), .unset, .unset, .unset] [(.ref mm19)])
              refine hs.go (fun _ kk_ => XS.astore X19.here hx rfl (hb hby at_217) rfl rfl (l' := #[.val (.int i1), .val (.int i2), .val (.int i3), .val (.int i4), .val (.long t5), .second, .val (.int (1 : Int32)), .val (.int fl), .val (.int nl), .val (.int ql), .val (.int c0), .val (.int c1), .val (.ref ca0), .val (.ref ca1), .val (.ref ca2), .val (.ref nm), .val (.int y0), .val (.int y1), .val (.ref ba0), .val (.ref ba1), .val (.ref ba2), .val (.ref q), .val (.ref mm19), .unset, .unset]) rfl kk_) ?_
              show G T19 (mkF m 219 #[.val (.int i1), .val (.int i2), .val (.int i3), .val (.int i4), .val (.long t5), .second, .val (.int (1 : Int32)), .val (.int fl), .val (.int nl), .val (.int ql), .val (.int c0), .val (.int c1), .val (.ref ca0), .val (.ref ca1), .val (.ref ca2), .val (.ref nm), .val (.int y0), .val (.int y1), .val (.ref ba0), .val (.ref ba1), .val (.ref ba2), .val (.ref q), .val (.ref mm19), .unset, .unset] [])
              refine hs.go (fun _ kk_ => XS.iconst X19.here hx rfl (hb hby at_219) kk_) ?_
              show G T19 (mkF m 220 #[.val (.int i1), .val (.int i2), .val (.int i3), .val (.int i4), .val (.long t5), .second, .val (.int (1 : Int32)), .val (.int fl), .val (.int nl), .val (.int ql), .val (.int c0), .val (.int c1), .val (.ref ca0), .val (.ref ca1), .val (.ref ca2), .val (.ref nm), .val (.int y0), .val (.int y1), .val (.ref ba0), .val (.ref ba1), .val (.ref ba2), .val (.ref q), .val (.ref mm19), .unset, .unset] [(.int (3 : Int32))])
              refine hs.go (fun _ kk_ => XS.istore X19.here hx rfl (hb hby at_220) rfl (l' := #[.val (.int i1), .val (.int i2), .val (.int i3), .val (.int i4), .val (.long t5), .second, .val (.int (1 : Int32)), .val (.int fl), .val (.int nl), .val (.int ql), .val (.int c0), .val (.int c1), .val (.ref ca0), .val (.ref ca1), .val (.ref ca2), .val (.ref nm), .val (.int y0), .val (.int y1), .val (.ref ba0), .val (.ref ba1), .val (.ref ba2), .val (.ref q), .val (.ref mm19), .val (.int (3 : Int32)), .unset]) rfl kk_) ?_
              show G T19 (mkF m 222 #[.val (.int i1), .val (.int i2), .val (.int i3), .val (.int i4), .val (.long t5), .second, .val (.int (1 : Int32)), .val (.int fl), .val (.int nl), .val (.int ql), .val (.int c0), .val (.int c1), .val (.ref ca0), .val (.ref ca1), .val (.ref ca2), .val (.ref nm), .val (.int y0), .val (.int y1), .val (.ref ba0), .val (.ref ba1), .val (.ref ba2), .val (.ref q), .val (.ref mm19), .val (.int (3 : Int32)), .unset] [])
              refine hs.go (fun _ kk_ => XS.goto X19.here hx rfl (pc0 := 222) (pc' := 237) rfl (hb hby at_222) (by decide) (by decide) kk_) ?_
              show G T19 (mkF m 237 #[.val (.int i1), .val (.int i2), .val (.int i3), .val (.int i4), .val (.long t5), .second, .val (.int (1 : Int32)), .val (.int fl), .val (.int nl), .val (.int ql), .val (.int c0), .val (.int c1), .val (.ref ca0), .val (.ref ca1), .val (.ref ca2), .val (.ref nm), .val (.int y0), .val (.int y1), .val (.ref ba0), .val (.ref ba1), .val (.ref ba2), .val (.ref q), .val (.ref mm19), .val (.int (3 : Int32)), .unset] [])
              refine hs.go (fun _ kk_ => XS.iload X19.here hx rfl (hb hby at_237) rfl  kk_) ?_
              show G T19 (mkF m 239 #[.val (.int i1), .val (.int i2), .val (.int i3), .val (.int i4), .val (.long t5), .second, .val (.int (1 : Int32)), .val (.int fl), .val (.int nl), .val (.int ql), .val (.int c0), .val (.int c1), .val (.ref ca0), .val (.ref ca1), .val (.ref ca2), .val (.ref nm), .val (.int y0), .val (.int y1), .val (.ref ba0), .val (.ref ba1), .val (.ref ba2), .val (.ref q), .val (.ref mm19), .val (.int (3 : Int32)), .unset] [(.int fl)])
              by_cases c239 : fl = (0 : Int32)
              · refine hs.go (fun _ kk_ => XS.ifYes X19.here hx rfl (pc0 := 239) (pc' := 255) rfl (hb hby at_239) rfl ((if0 _ _).trans (teq c239).1) (by decide) (by decide) kk_) ?_
                show G T19 (mkF m 255 #[.val (.int i1), .val (.int i2), .val (.int i3), .val (.int i4), .val (.long t5), .second, .val (.int (1 : Int32)), .val (.int fl), .val (.int nl), .val (.int ql), .val (.int c0), .val (.int c1), .val (.ref ca0), .val (.ref ca1), .val (.ref ca2), .val (.ref nm), .val (.int y0), .val (.int y1), .val (.ref ba0), .val (.ref ba1), .val (.ref ba2), .val (.ref q), .val (.ref mm19), .val (.int (3 : Int32)), .unset] [])
                refine hs.go (fun _ kk_ => XS.aload X19.here hx rfl (hb hby at_255) rfl rfl kk_) ?_
                show G T19 (mkF m 257 #[.val (.int i1), .val (.int i2), .val (.int i3), .val (.int i4), .val (.long t5), .second, .val (.int (1 : Int32)), .val (.int fl), .val (.int nl), .val (.int ql), .val (.int c0), .val (.int c1), .val (.ref ca0), .val (.ref ca1), .val (.ref ca2), .val (.ref nm), .val (.int y0), .val (.int y1), .val (.ref ba0), .val (.ref ba1), .val (.ref ba2), .val (.ref q), .val (.ref mm19), .val (.int (3 : Int32)), .unset] [(.ref mm19)])
                refine rCallS hs X19 hx hZ (as' := [(.ref mm19)]) stbT (mk_3 l Z a0 hw [] mm19 cc19 nm nm h19 n0 Z0 F_columns_mm19 F_family_cc19 F_qualifier_cc19) hown (hw _ (List.mem_of_getElem? (i := 30) rfl)) (hw _ (List.mem_of_getElem? (i := 31) rfl)) (hw _ (List.mem_of_getElem? (i := 32) rfl)) (hw _ (List.mem_of_getElem? (i := 33) rfl)) hy_5 rfl (by rw [hml]; rfl) [] (lenOf pd_11 rfl) rfl 0 (by show 2 * 0 + _ ≤ _; exact Nat.le_of_eq rfl) (hb hby at_257) (by decide) (by decide) (by decide) (by decide) (fun r20 T20 h20 vm20 X20 q20 => ?_)
                obtain ⟨rfl, qh20⟩ := q20
                have X20 := X20 (fun _ => True) trivial
                rw [qh20] at X20
                show G T20 (mkF m 260 #[.val (.int i1), .val (.int i2), .val (.int i3), .val (.int i4), .val (.long t5), .second, .val (.int (1 : Int32)), .val (.int fl), .val (.int nl), .val (.int ql), .val (.int c0), .val (.int c1), .val (.ref ca0), .val (.ref ca1), .val (.ref ca2), .val (.ref nm), .val (.int y0), .val (.int y1), .val (.ref ba0), .val (.ref ba1), .val (.ref ba2), .val (.ref q), .val (.ref mm19), .val (.int (3 : Int32)), .unset] [(.int (3 : Int32))])
                refine hs.go (fun _ kk_ => XS.istore X20.here hx rfl (hb hby at_260) rfl (l' := #[.val (.int i1), .val (.int i2), .val (.int i3), .val (.int i4), .val (.long t5), .second, .val (.int (1 : Int32)), .val (.int fl), .val (.int nl), .val (.int ql), .val (.int c0), .val (.int c1), .val (.ref ca0), .val (.ref ca1), .val (.ref ca2), .val (.ref nm), .val (.int y0), .val (.int y1), .val (.ref ba0), .val (.ref ba1), .val (.ref ba2), .val (.ref q), .val (.ref mm19), .val (.int (3 : Int32)), .val (.int (3 : Int32))]) rfl kk_) ?_
                show G T20 (mkF m 262 #[.val (.int i1), .val (.int i2), .val (.int i3), .val (.int i4), .val (.long t5), .second, .val (.int (1 : Int32)), .val (.int fl), .val (.int nl), .val (.int ql), .val (.int c0), .val (.int c1), .val (.ref ca0), .val (.ref ca1), .val (.ref ca2), .val (.ref nm), .val (.int y0), .val (.int y1), .val (.ref ba0), .val (.ref ba1), .val (.ref ba2), .val (.ref q), .val (.ref mm19), .val (.int (3 : Int32)), .val (.int (3 : Int32))] [])
                refine hs.go (fun _ kk_ => XS.iload X20.here hx rfl (hb hby at_262) rfl  kk_) ?_
                show G T20 (mkF m 264 #[.val (.int i1), .val (.int i2), .val (.int i3), .val (.int i4), .val (.long t5), .second, .val (.int (1 : Int32)), .val (.int fl), .val (.int nl), .val (.int ql), .val (.int c0), .val (.int c1), .val (.ref ca0), .val (.ref ca1), .val (.ref ca2), .val (.ref nm), .val (.int y0), .val (.int y1), .val (.ref ba0), .val (.ref ba1), .val (.ref ba2), .val (.ref q), .val (.ref mm19), .val (.int (3 : Int32)), .val (.int (3 : Int32))] [(.int (3 : Int32))])
                refine hs.go (fun _ kk_ => XS.iload X20.here hx rfl (hb hby at_264) rfl  kk_) ?_
                show G T20 (mkF m 266 #[.val (.int i1), .val (.int i2), .val (.int i3), .val (.int i4), .val (.long t5), .second, .val (.int (1 : Int32)), .val (.int fl), .val (.int nl), .val (.int ql), .val (.int c0), .val (.int c1), .val (.ref ca0), .val (.ref ca1), .val (.ref ca2), .val (.ref nm), .val (.int y0), .val (.int y1), .val (.ref ba0), .val (.ref ba1), .val (.ref ba2), .val (.ref q), .val (.ref mm19), .val (.int (3 : Int32)), .val (.int (3 : Int32))] [(.int (3 : Int32)), (.int (3 : Int32))])
                refine hs.go (fun _ kk_ => XS.icmpNo X20.here hx rfl (hb hby at_266) rfl (teq (rfl : (3 : Int32) = (3 : Int32))).2 kk_) ?_
                show G T20 (mkF m 269 #[.val (.int i1), .val (.int i2), .val (.int i3), .val (.int i4), .val (.long t5), .second, .val (.int (1 : Int32)), .val (.int fl), .val (.int nl), .val (.int ql), .val (.int c0), .val (.int c1), .val (.ref ca0), .val (.ref ca1), .val (.ref ca2), .val (.ref nm), .val (.int y0), .val (.int y1), .val (.ref ba0), .val (.ref ba1), .val (.ref ba2), .val (.ref q), .val (.ref mm19), .val (.int (3 : Int32)), .val (.int (3 : Int32))] [])
                refine hs.go (fun _ kk_ => XS.iload X20.here hx rfl (hb hby at_269) rfl  kk_) ?_
                show G T20 (mkF m 271 #[.val (.int i1), .val (.int i2), .val (.int i3), .val (.int i4), .val (.long t5), .second, .val (.int (1 : Int32)), .val (.int fl), .val (.int nl), .val (.int ql), .val (.int c0), .val (.int c1), .val (.ref ca0), .val (.ref ca1), .val (.ref ca2), .val (.ref nm), .val (.int y0), .val (.int y1), .val (.ref ba0), .val (.ref ba1), .val (.ref ba2), .val (.ref q), .val (.ref mm19), .val (.int (3 : Int32)), .val (.int (3 : Int32))] [(.int (3 : Int32))])
                refine rCallS hs X20 hx hZ (as' := [(.int (3 : Int32))]) stbT (rm6 l Z a0 hw [] (3 : Int32) h19 n0 Z0) hown (hw _ (List.mem_of_getElem? (i := 38) rfl)) (hw _ (List.mem_of_getElem? (i := 39) rfl)) (hw _ (List.mem_of_getElem? (i := 32) rfl)) (hw _ (List.mem_of_getElem? (i := 40) rfl)) hy_6 rfl (by rw [hml]; rfl) [] (lenOf pd_12 rfl) rfl 0 (by show 2 * 0 + _ ≤ _; exact Nat.le_of_eq rfl) (hb hby at_271) (by decide) (by decide) (by decide) (by decide) (fun r21 T21 h21 vm21 X21 q21 => ?_)
                obtain ⟨rfl, qh21⟩ := q21
                have X21 := X21 (fun _ => True) trivial
                rw [qh21] at X21
                show G T21 (mkF m 274 #[.val (.int i1), .val (.int i2), .val (.int i3), .val (.int i4), .val (.long t5), .second, .val (.int (1 : Int32)), .val (.int fl), .val (.int nl), .val (.int ql), .val (.int c0), .val (.int c1), .val (.ref ca0), .val (.ref ca1), .val (.ref ca2), .val (.ref nm), .val (.int y0), .val (.int y1), .val (.ref ba0), .val (.ref ba1), .val (.ref ba2), .val (.ref q), .val (.ref mm19), .val (.int (3 : Int32)), .val (.int (3 : Int32))] [(.int (fmk (3 : Int32)))])
                refine hs.go (fun _ kk_ => XS.ifNo X21.here hx rfl (hb hby at_274) rfl ((if0 _ _).trans (feq ((by decide) : ¬ ((fmk (3 : Int32)) = (0 : Int32)))).1) kk_) ?_
                show G T21 (mkF m 277 #[.val (.int i1), .val (.int i2), .val (.int i3), .val (.int i4), .val (.long t5), .second, .val (.int (1 : Int32)), .val (.int fl), .val (.int nl), .val (.int ql), .val (.int c0), .val (.int c1), .val (.ref ca0), .val (.ref ca1), .val (.ref ca2), .val (.ref nm), .val (.int y0), .val (.int y1), .val (.ref ba0), .val (.ref ba1), .val (.ref ba2), .val (.ref q), .val (.ref mm19), .val (.int (3 : Int32)), .val (.int (3 : Int32))] [])
                refine hs.go (fun _ kk_ => XS.iconst X21.here hx rfl (hb hby at_277) kk_) ?_
                show G T21 (mkF m 278 #[.val (.int i1), .val (.int i2), .val (.int i3), .val (.int i4), .val (.long t5), .second, .val (.int (1 : Int32)), .val (.int fl), .val (.int nl), .val (.int ql), .val (.int c0), .val (.int c1), .val (.ref ca0), .val (.ref ca1), .val (.ref ca2), .val (.ref nm), .val (.int y0), .val (.int y1), .val (.ref ba0), .val (.ref ba1), .val (.ref ba2), .val (.ref q), .val (.ref mm19), .val (.int (3 : Int32)), .val (.int (3 : Int32))] [(.int (1 : Int32))])
                refine hs.go (fun _ kk_ => XS.goto X21.here hx rfl (pc0 := 278) (pc' := 282) rfl (hb hby at_278) (by decide) (by decide) kk_) ?_
                show G T21 (mkF m 282 #[.val (.int i1), .val (.int i2), .val (.int i3), .val (.int i4), .val (.long t5), .second, .val (.int (1 : Int32)), .val (.int fl), .val (.int nl), .val (.int ql), .val (.int c0), .val (.int c1), .val (.ref ca0), .val (.ref ca1), .val (.ref ca2), .val (.ref nm), .val (.int y0), .val (.int y1), .val (.ref ba0), .val (.ref ba1), .val (.ref ba2), .val (.ref q), .val (.ref mm19), .val (.int (3 : Int32)), .val (.int (3 : Int32))] [(.int (1 : Int32))])
                exact rRetN fin stbT X21 hx (by decide) (by decide) hret (by simp) (hb hby at_282) (z' := (1 : Int32)) (by decide) (fun vm' hj => rfl)
              · refine hs.go (fun _ kk_ => XS.ifNo X19.here hx rfl (hb hby at_239) rfl ((if0 _ _).trans (feq c239).1) kk_) ?_
                show G T19 (mkF m 242 #[.val (.int i1), .val (.int i2), .val (.int i3), .val (.int i4), .val (.long t5), .second, .val (.int (1 : Int32)), .val (.int fl), .val (.int nl), .val (.int ql), .val (.int c0), .val (.int c1), .val (.ref ca0), .val (.ref ca1), .val (.ref ca2), .val (.ref nm), .val (.int y0), .val (.int y1), .val (.ref ba0), .val (.ref ba1), .val (.ref ba2), .val (.ref q), .val (.ref mm19), .val (.int (3 : Int32)), .unset] [])
                refine hs.go (fun _ kk_ => XS.aload X19.here hx rfl (hb hby at_242) rfl rfl kk_) ?_
                show G T19 (mkF m 244 #[.val (.int i1), .val (.int i2), .val (.int i3), .val (.int i4), .val (.long t5), .second, .val (.int (1 : Int32)), .val (.int fl), .val (.int nl), .val (.int ql), .val (.int c0), .val (.int c1), .val (.ref ca0), .val (.ref ca1), .val (.ref ca2), .val (.ref nm), .val (.int y0), .val (.int y1), .val (.ref ba0), .val (.ref ba1), .val (.ref ba2), .val (.ref q), .val (.ref mm19), .val (.int (3 : Int32)), .unset] [(.ref mm19)])
                refine hs.go (fun _ kk_ => XS.lload X19.here hx rfl (hb hby at_244) rfl  kk_) ?_
                show G T19 (mkF m 246 #[.val (.int i1), .val (.int i2), .val (.int i3), .val (.int i4), .val (.long t5), .second, .val (.int (1 : Int32)), .val (.int fl), .val (.int nl), .val (.int ql), .val (.int c0), .val (.int c1), .val (.ref ca0), .val (.ref ca1), .val (.ref ca2), .val (.ref nm), .val (.int y0), .val (.int y1), .val (.ref ba0), .val (.ref ba1), .val (.ref ba2), .val (.ref q), .val (.ref mm19), .val (.int (3 : Int32)), .unset] [(.long t5), (.ref mm19)])
                refine rLdcL hs X19 hx hZ hown (hw _ (List.mem_of_getElem? (i := 100) rfl)) rfl (hb hby at_246) ?_
                show G T19 (mkF m 249 #[.val (.int i1), .val (.int i2), .val (.int i3), .val (.int i4), .val (.long t5), .second, .val (.int (1 : Int32)), .val (.int fl), .val (.int nl), .val (.int ql), .val (.int c0), .val (.int c1), .val (.ref ca0), .val (.ref ca1), .val (.ref ca2), .val (.ref nm), .val (.int y0), .val (.int y1), .val (.ref ba0), .val (.ref ba1), .val (.ref ba2), .val (.ref q), .val (.ref mm19), .val (.int (3 : Int32)), .unset] [(.long (9223372036854775807 : Int64)), (.long t5), (.ref mm19)])
                refine hs.go (fun _ kk_ => XS.land X19.here hx rfl (hb hby at_249) rfl kk_) ?_
                show G T19 (mkF m 250 #[.val (.int i1), .val (.int i2), .val (.int i3), .val (.int i4), .val (.long t5), .second, .val (.int (1 : Int32)), .val (.int fl), .val (.int nl), .val (.int ql), .val (.int c0), .val (.int c1), .val (.ref ca0), .val (.ref ca1), .val (.ref ca2), .val (.ref nm), .val (.int y0), .val (.int y1), .val (.ref ba0), .val (.ref ba1), .val (.ref ba2), .val (.ref q), .val (.ref mm19), .val (.int (3 : Int32)), .unset] [(.long (t5 &&& (9223372036854775807 : Int64))), (.ref mm19)])
                refine rCallV hs X19 hx hZ (as' := [(.long (t5 &&& (9223372036854775807 : Int64)))]) stbT (rm17 l Z a0 hw [] mm19 cc19 (t5 &&& (9223372036854775807 : Int64)) h19 n0 Z0 F_columns_mm19 (own_ts _)) E_mm19 hown (hw _ (List.mem_of_getElem? (i := 101) rfl)) (hw _ (List.mem_of_getElem? (i := 102) rfl)) (hw _ (List.mem_of_getElem? (i := 104) rfl)) (hw _ (List.mem_of_getElem? (i := 103) rfl)) (hw _ (List.mem_of_getElem? (i := 26) rfl)) (hw _ (List.mem_of_getElem? (i := 105) rfl)) hy_17 rfl (by rw [hml]; rfl) [] (lenOf pd_13 rfl) rfl 0 (by show 2 * 0 + _ ≤ _; exact Nat.le_of_eq rfl) (hb hby at_250) (by decide) (by decide) (by decide) (by decide) (fun r22 T22 h22 vm22 X22 q22 => ?_)
                obtain ⟨mm22, rfl, Kc22, E_mm22, F_columns_mm22⟩ := q22
                have X22 := X22 (fun _ => True) trivial
                have O := O.keep Kc22 all0
                have E_nm := E_nm.keep Kc22
                have V_q := V_q.keep Kc22 nin0
                have E_q := E_q.keep Kc22
                have E_mm19 := E_mm19.keep Kc22
                have F_columns_mm19 := F_columns_mm19.keep Kc22 nin0
                have F_family_cc19 := F_family_cc19.keep Kc22 nin0
                have F_qualifier_cc19 := F_qualifier_cc19.keep Kc22 nin0
                have Z0 := Nat.le_trans Z0 Kc22.1
                show G T22 (mkF m 253 #[.val (.int i1), .val (.int i2), .val (.int i3), .val (.int i4), .val (.long t5), .second, .val (.int (1 : Int32)), .val (.int fl), .val (.int nl), .val (.int ql), .val (.int c0), .val (.int c1), .val (.ref ca0), .val (.ref ca1), .val (.ref ca2), .val (.ref nm), .val (.int y0), .val (.int y1), .val (.ref ba0), .val (.ref ba1), .val (.ref ba2), .val (.ref q), .val (.ref mm19), .val (.int (3 : Int32)), .unset] [(.ref mm22)])
                refine hs.go (fun _ kk_ => XS.astore X22.here hx rfl (hb hby at_253) rfl rfl (l' := #[.val (.int i1), .val (.int i2), .val (.int i3), .val (.int i4), .val (.long t5), .second, .val (.int (1 : Int32)), .val (.int fl), .val (.int nl), .val (.int ql), .val (.int c0), .val (.int c1), .val (.ref ca0), .val (.ref ca1), .val (.ref ca2), .val (.ref nm), .val (.int y0), .val (.int y1), .val (.ref ba0), .val (.ref ba1), .val (.ref ba2), .val (.ref q), .val (.ref mm22), .val (.int (3 : Int32)), .unset]) rfl kk_) ?_
                show G T22 (mkF m 255 #[.val (.int i1), .val (.int i2), .val (.int i3), .val (.int i4), .val (.long t5), .second, .val (.int (1 : Int32)), .val (.int fl), .val (.int nl), .val (.int ql), .val (.int c0), .val (.int c1), .val (.ref ca0), .val (.ref ca1), .val (.ref ca2), .val (.ref nm), .val (.int y0), .val (.int y1), .val (.ref ba0), .val (.ref ba1), .val (.ref ba2), .val (.ref q), .val (.ref mm22), .val (.int (3 : Int32)), .unset] [])
                refine hs.go (fun _ kk_ => XS.aload X22.here hx rfl (hb hby at_255) rfl rfl kk_) ?_
                show G T22 (mkF m 257 #[.val (.int i1), .val (.int i2), .val (.int i3), .val (.int i4), .val (.long t5), .second, .val (.int (1 : Int32)), .val (.int fl), .val (.int nl), .val (.int ql), .val (.int c0), .val (.int c1), .val (.ref ca0), .val (.ref ca1), .val (.ref ca2), .val (.ref nm), .val (.int y0), .val (.int y1), .val (.ref ba0), .val (.ref ba1), .val (.ref ba2), .val (.ref q), .val (.ref mm22), .val (.int (3 : Int32)), .unset] [(.ref mm22)])
                refine rCallS hs X22 hx hZ (as' := [(.ref mm22)]) stbT (mk_3 l Z a0 hw [] mm22 cc19 nm nm h22 n0 Z0 F_columns_mm22 F_family_cc19 F_qualifier_cc19) hown (hw _ (List.mem_of_getElem? (i := 30) rfl)) (hw _ (List.mem_of_getElem? (i := 31) rfl)) (hw _ (List.mem_of_getElem? (i := 32) rfl)) (hw _ (List.mem_of_getElem? (i := 33) rfl)) hy_5 rfl (by rw [hml]; rfl) [] (lenOf pd_11 rfl) rfl 0 (by show 2 * 0 + _ ≤ _; exact Nat.le_of_eq rfl) (hb hby at_257) (by decide) (by decide) (by decide) (by decide) (fun r23 T23 h23 vm23 X23 q23 => ?_)
                obtain ⟨rfl, qh23⟩ := q23
                have X23 := X23 (fun _ => True) trivial
                rw [qh23] at X23
                show G T23 (mkF m 260 #[.val (.int i1), .val (.int i2), .val (.int i3), .val (.int i4), .val (.long t5), .second, .val (.int (1 : Int32)), .val (.int fl), .val (.int nl), .val (.int ql), .val (.int c0), .val (.int c1), .val (.ref ca0), .val (.ref ca1), .val (.ref ca2), .val (.ref nm), .val (.int y0), .val (.int y1), .val (.ref ba0), .val (.ref ba1), .val (.ref ba2), .val (.ref q), .val (.ref mm22), .val (.int (3 : Int32)), .unset] [(.int (3 : Int32))])
                refine hs.go (fun _ kk_ => XS.istore X23.here hx rfl (hb hby at_260) rfl (l' := #[.val (.int i1), .val (.int i2), .val (.int i3), .val (.int i4), .val (.long t5), .second, .val (.int (1 : Int32)), .val (.int fl), .val (.int nl), .val (.int ql), .val (.int c0), .val (.int c1), .val (.ref ca0), .val (.ref ca1), .val (.ref ca2), .val (.ref nm), .val (.int y0), .val (.int y1), .val (.ref ba0), .val (.ref ba1), .val (.ref ba2), .val (.ref q), .val (.ref mm22), .val (.int (3 : Int32)), .val (.int (3 : Int32))]) rfl kk_) ?_
                show G T23 (mkF m 262 #[.val (.int i1), .val (.int i2), .val (.int i3), .val (.int i4), .val (.long t5), .second, .val (.int (1 : Int32)), .val (.int fl), .val (.int nl), .val (.int ql), .val (.int c0), .val (.int c1), .val (.ref ca0), .val (.ref ca1), .val (.ref ca2), .val (.ref nm), .val (.int y0), .val (.int y1), .val (.ref ba0), .val (.ref ba1), .val (.ref ba2), .val (.ref q), .val (.ref mm22), .val (.int (3 : Int32)), .val (.int (3 : Int32))] [])
                refine hs.go (fun _ kk_ => XS.iload X23.here hx rfl (hb hby at_262) rfl  kk_) ?_
                show G T23 (mkF m 264 #[.val (.int i1), .val (.int i2), .val (.int i3), .val (.int i4), .val (.long t5), .second, .val (.int (1 : Int32)), .val (.int fl), .val (.int nl), .val (.int ql), .val (.int c0), .val (.int c1), .val (.ref ca0), .val (.ref ca1), .val (.ref ca2), .val (.ref nm), .val (.int y0), .val (.int y1), .val (.ref ba0), .val (.ref ba1), .val (.ref ba2), .val (.ref q), .val (.ref mm22), .val (.int (3 : Int32)), .val (.int (3 : Int32))] [(.int (3 : Int32))])
                refine hs.go (fun _ kk_ => XS.iload X23.here hx rfl (hb hby at_264) rfl  kk_) ?_
                show G T23 (mkF m 266 #[.val (.int i1), .val (.int i2), .val (.int i3), .val (.int i4), .val (.long t5), .second, .val (.int (1 : Int32)), .val (.int fl), .val (.int nl), .val (.int ql), .val (.int c0), .val (.int c1), .val (.ref ca0), .val (.ref ca1), .val (.ref ca2), .val (.ref nm), .val (.int y0), .val (.int y1), .val (.ref ba0), .val (.ref ba1), .val (.ref ba2), .val (.ref q), .val (.ref mm22), .val (.int (3 : Int32)), .val (.int (3 : Int32))] [(.int (3 : Int32)), (.int (3 : Int32))])
                refine hs.go (fun _ kk_ => XS.icmpNo X23.here hx rfl (hb hby at_266) rfl (teq (rfl : (3 : Int32) = (3 : Int32))).2 kk_) ?_
                show G T23 (mkF m 269 #[.val (.int i1), .val (.int i2), .val (.int i3), .val (.int i4), .val (.long t5), .second, .val (.int (1 : Int32)), .val (.int fl), .val (.int nl), .val (.int ql), .val (.int c0), .val (.int c1), .val (.ref ca0), .val (.ref ca1), .val (.ref ca2), .val (.ref nm), .val (.int y0), .val (.int y1), .val (.ref ba0), .val (.ref ba1), .val (.ref ba2), .val (.ref q), .val (.ref mm22), .val (.int (3 : Int32)), .val (.int (3 : Int32))] [])
                refine hs.go (fun _ kk_ => XS.iload X23.here hx rfl (hb hby at_269) rfl  kk_) ?_
                show G T23 (mkF m 271 #[.val (.int i1), .val (.int i2), .val (.int i3), .val (.int i4), .val (.long t5), .second, .val (.int (1 : Int32)), .val (.int fl), .val (.int nl), .val (.int ql), .val (.int c0), .val (.int c1), .val (.ref ca0), .val (.ref ca1), .val (.ref ca2), .val (.ref nm), .val (.int y0), .val (.int y1), .val (.ref ba0), .val (.ref ba1), .val (.ref ba2), .val (.ref q), .val (.ref mm22), .val (.int (3 : Int32)), .val (.int (3 : Int32))] [(.int (3 : Int32))])
                refine rCallS hs X23 hx hZ (as' := [(.int (3 : Int32))]) stbT (rm6 l Z a0 hw [] (3 : Int32) h22 n0 Z0) hown (hw _ (List.mem_of_getElem? (i := 38) rfl)) (hw _ (List.mem_of_getElem? (i := 39) rfl)) (hw _ (List.mem_of_getElem? (i := 32) rfl)) (hw _ (List.mem_of_getElem? (i := 40) rfl)) hy_6 rfl (by rw [hml]; rfl) [] (lenOf pd_12 rfl) rfl 0 (by show 2 * 0 + _ ≤ _; exact Nat.le_of_eq rfl) (hb hby at_271) (by decide) (by decide) (by decide) (by decide) (fun r24 T24 h24 vm24 X24 q24 => ?_)
                obtain ⟨rfl, qh24⟩ := q24
                have X24 := X24 (fun _ => True) trivial
                rw [qh24] at X24
                show G T24 (mkF m 274 #[.val (.int i1), .val (.int i2), .val (.int i3), .val (.int i4), .val (.long t5), .second, .val (.int (1 : Int32)), .val (.int fl), .val (.int nl), .val (.int ql), .val (.int c0), .val (.int c1), .val (.ref ca0), .val (.ref ca1), .val (.ref ca2), .val (.ref nm), .val (.int y0), .val (.int y1), .val (.ref ba0), .val (.ref ba1), .val (.ref ba2), .val (.ref q), .val (.ref mm22), .val (.int (3 : Int32)), .val (.int (3 : Int32))] [(.int (fmk (3 : Int32)))])
                refine hs.go (fun _ kk_ => XS.ifNo X24.here hx rfl (hb hby at_274) rfl ((if0 _ _).trans (feq ((by decide) : ¬ ((fmk (3 : Int32)) = (0 : Int32)))).1) kk_) ?_
                show G T24 (mkF m 277 #[.val (.int i1), .val (.int i2), .val (.int i3), .val (.int i4), .val (.long t5), .second, .val (.int (1 : Int32)), .val (.int fl), .val (.int nl), .val (.int ql), .val (.int c0), .val (.int c1), .val (.ref ca0), .val (.ref ca1), .val (.ref ca2), .val (.ref nm), .val (.int y0), .val (.int y1), .val (.ref ba0), .val (.ref ba1), .val (.ref ba2), .val (.ref q), .val (.ref mm22), .val (.int (3 : Int32)), .val (.int (3 : Int32))] [])
                refine hs.go (fun _ kk_ => XS.iconst X24.here hx rfl (hb hby at_277) kk_) ?_
                show G T24 (mkF m 278 #[.val (.int i1), .val (.int i2), .val (.int i3), .val (.int i4), .val (.long t5), .second, .val (.int (1 : Int32)), .val (.int fl), .val (.int nl), .val (.int ql), .val (.int c0), .val (.int c1), .val (.ref ca0), .val (.ref ca1), .val (.ref ca2), .val (.ref nm), .val (.int y0), .val (.int y1), .val (.ref ba0), .val (.ref ba1), .val (.ref ba2), .val (.ref q), .val (.ref mm22), .val (.int (3 : Int32)), .val (.int (3 : Int32))] [(.int (1 : Int32))])
                refine hs.go (fun _ kk_ => XS.goto X24.here hx rfl (pc0 := 278) (pc' := 282) rfl (hb hby at_278) (by decide) (by decide) kk_) ?_
                show G T24 (mkF m 282 #[.val (.int i1), .val (.int i2), .val (.int i3), .val (.int i4), .val (.long t5), .second, .val (.int (1 : Int32)), .val (.int fl), .val (.int nl), .val (.int ql), .val (.int c0), .val (.int c1), .val (.ref ca0), .val (.ref ca1), .val (.ref ca2), .val (.ref nm), .val (.int y0), .val (.int y1), .val (.ref ba0), .val (.ref ba1), .val (.ref ba2), .val (.ref q), .val (.ref mm22), .val (.int (3 : Int32)), .val (.int (3 : Int32))] [(.int (1 : Int32))])
                exact rRetN fin stbT X24 hx (by decide) (by decide) hret (by simp) (hb hby at_282) (z' := (1 : Int32)) (by decide) (fun vm' hj => rfl)
            · subst e_
              show G T12 (mkF m 190 #[.val (.int i1), .val (.int i2), .val (.int i3), .val (.int i4), .val (.long t5), .second, .val (.int (2 : Int32)), .val (.int fl), .val (.int nl), .val (.int ql), .val (.int c0), .val (.int c1), .val (.ref ca0), .val (.ref ca1), .val (.ref ca2), .val (.ref nm), .val (.int y0), .val (.int y1), .val (.ref ba0), .val (.ref ba1), .val (.ref ba2), .val (.ref q), .unset, .unset, .unset] [])
              refine hs.go (fun _ kk_ => XS.iload X12.here hx rfl (hb hby at_190) rfl  kk_) ?_
              show G T12 (mkF m 192 #[.val (.int i1), .val (.int i2), .val (.int i3), .val (.int i4), .val (.long t5), .second, .val (.int (2 : Int32)), .val (.int fl), .val (.int nl), .val (.int ql), .val (.int c0), .val (.int c1), .val (.ref ca0), .val (.ref ca1), .val (.ref ca2), .val (.ref nm), .val (.int y0), .val (.int y1), .val (.ref ba0), .val (.ref ba1), .val (.ref ba2), .val (.ref q), .unset, .unset, .unset] [(.int (2 : Int32))])
              refine hs.go (fun _ kk_ => XS.ifYes X12.here hx rfl (pc0 := 192) (pc' := 206) rfl (hb hby at_192) rfl ((if0 _ _).trans (feq ((by decide) : ¬ ((2 : Int32) = (0 : Int32)))).2) (by decide) (by decide) kk_) ?_
              show G T12 (mkF m 206 #[.val (.int i1), .val (.int i2), .val (.int i3), .val (.int i4), .val (.long t5), .second, .val (.int (2 : Int32)), .val (.int fl), .val (.int nl), .val (.int ql), .val (.int c0), .val (.int c1), .val (.ref ca0), .val (.ref ca1), .val (.ref ca2), .val (.ref nm), .val (.int y0), .val (.int y1), .val (.ref ba0), .val (.ref ba1), .val (.ref ba2), .val (.ref q), .unset, .unset, .unset] [])
              refine hs.go (fun _ kk_ => XS.iload X12.here hx rfl (hb hby at_206) rfl  kk_) ?_
              show G T12 (mkF m 208 #[.val (.int i1), .val (.int i2), .val (.int i3), .val (.int i4), .val (.long t5), .second, .val (.int (2 : Int32)), .val (.int fl), .val (.int nl), .val (.int ql), .val (.int c0), .val (.int c1), .val (.ref ca0), .val (.ref ca1), .val (.ref ca2), .val (.ref nm), .val (.int y0), .val (.int y1), .val (.ref ba0), .val (.ref ba1), .val (.ref ba2), .val (.ref q), .unset, .unset, .unset] [(.int (2 : Int32))])
              refine hs.go (fun _ kk_ => XS.iconst X12.here hx rfl (hb hby at_208) kk_) ?_
              show G T12 (mkF m 209 #[.val (.int i1), .val (.int i2), .val (.int i3), .val (.int i4), .val (.long t5), .second, .val (.int (2 : Int32)), .val (.int fl), .val (.int nl), .val (.int ql), .val (.int c0), .val (.int c1), .val (.ref ca0), .val (.ref ca1), .val (.ref ca2), .val (.ref nm), .val (.int y0), .val (.int y1), .val (.ref ba0), .val (.ref ba1), .val (.ref ba2), .val (.ref q), .unset, .unset, .unset] [(.int (1 : Int32)), (.int (2 : Int32))])
              refine hs.go (fun _ kk_ => XS.icmpYes X12.here hx rfl (pc0 := 209) (pc' := 225) rfl (hb hby at_209) rfl (feq ((by decide) : ¬ ((2 : Int32) = (1 : Int32)))).2 (by decide) (by decide) kk_) ?_
              show G T12 (mkF m 225 #[.val (.int i1), .val (.int i2), .val (.int i3), .val (.int i4), .val (.long t5), .second, .val (.int (2 : Int32)), .val (.int fl), .val (.int nl), .val (.int ql), .val (.int c0), .val (.int c1), .val (.ref ca0), .val (.ref ca1), .val (.ref ca2), .val (.ref nm), .val (.int y0), .val (.int y1), .val (.ref ba0), .val (.ref ba1), .val (.ref ba2), .val (.ref q), .unset, .unset, .unset] [])
              refine hs.go (fun _ kk_ => XS.aload X12.here hx rfl (hb hby at_225) rfl rfl kk_) ?_
              show G T12 (mkF m 227 #[.val (.int i1), .val (.int i2), .val (.int i3), .val (.int i4), .val (.long t5), .second, .val (.int (2 : Int32)), .val (.int fl), .val (.int nl), .val (.int ql), .val (.int c0), .val (.int c1), .val (.ref ca0), .val (.ref ca1), .val (.ref ca2), .val (.ref nm), .val (.int y0), .val (.int y1), .val (.ref ba0), .val (.ref ba1), .val (.ref ba2), .val (.ref q), .unset, .unset, .unset] [(.ref nm)])
              refine hs.go (fun _ kk_ => XS.aload X12.here hx rfl (hb hby at_227) rfl rfl kk_) ?_
              show G T12 (mkF m 229 #[.val (.int i1), .val (.int i2), .val (.int i3), .val (.int i4), .val (.long t5), .second, .val (.int (2 : Int32)), .val (.int fl), .val (.int nl), .val (.int ql), .val (.int c0), .val (.int c1), .val (.ref ca0), .val (.ref ca1), .val (.ref ca2), .val (.ref nm), .val (.int y0), .val (.int y1), .val (.ref ba0), .val (.ref ba1), .val (.ref ba2), .val (.ref q), .unset, .unset, .unset] [(.ref q), (.ref nm)])
              refine rCallS hs X12 hx hZ (as' := [(.ref nm), (.ref q)]) stbT (rm15 l Z a0 hw [] nm q kq zq vq h12 n0 Z0 E_nm V_q E_q hz2) hown (hw _ (List.mem_of_getElem? (i := 85) rfl)) (hw _ (List.mem_of_getElem? (i := 86) rfl)) (hw _ (List.mem_of_getElem? (i := 26) rfl)) (hw _ (List.mem_of_getElem? (i := 87) rfl)) hy_15 rfl (by rw [hml]; rfl) [] (lenOf pd_15 rfl) rfl 0 (by show 2 * 0 + _ ≤ _; exact Nat.le_of_eq rfl) (hb hby at_229) (by decide) (by decide) (by decide) (by decide) (fun r25 T25 h25 vm25 X25 q25 => ?_)
              obtain ⟨mm25, cc25, q225, rfl, Kc25, E_mm25, F_columns_mm25, F_family_cc25, F_qualifier_cc25⟩ := q25
              have X25 := X25 (fun _ => True) trivial
              have O := O.keep Kc25 all0
              have E_nm := E_nm.keep Kc25
              have V_q := V_q.keep Kc25 nin0
              have E_q := E_q.keep Kc25
              have Z0 := Nat.le_trans Z0 Kc25.1
              show G T25 (mkF m 232 #[.val (.int i1), .val (.int i2), .val (.int i3), .val (.int i4), .val (.long t5), .second, .val (.int (2 : Int32)), .val (.int fl), .val (.int nl), .val (.int ql), .val (.int c0), .val (.int c1), .val (.ref ca0), .val (.ref ca1), .val (.ref ca2), .val (.ref nm), .val (.int y0), .val (.int y1), .val (.ref ba0), .val (.ref ba1), .val (.ref ba2), .val (.ref q), .unset, .unset, .unset] [(.ref mm25)])
              refine hs.go (fun _ kk_ => XS.astore X25.here hx rfl (hb hby at_232) rfl rfl (l' := #[.val (.int i1), .val (.int i2), .val (.int i3), .val (.int i4), .val (.long t5), .second, .val (.int (2 : Int32)), .val (.int fl), .val (.int nl), .val (.int ql), .val (.int c0), .val (.int c1), .val (.ref ca0), .val (.ref ca1), .val (.ref ca2), .val (.ref nm), .val (.int y0), .val (.int y1), .val (.ref ba0), .val (.ref ba1), .val (.ref ba2), .val (.ref q), .val (.ref mm25), .unset, .unset]) rfl kk_) ?_
              show G T25 (mkF m 234 #[.val (.int i1), .val (.int i2), .val (.int i3), .val (.int i4), .val (.long t5), .second, .val (.int (2 : Int32)), .val (.int fl), .val (.int nl), .val (.int ql), .val (.int c0), .val (.int c1), .val (.ref ca0), .val (.ref ca1), .val (.ref ca2), .val (.ref nm), .val (.int y0), .val (.int y1), .val (.ref ba0), .val (.ref ba1), .val (.ref ba2), .val (.ref q), .val (.ref mm25), .unset, .unset] [])
              refine hs.go (fun _ kk_ => XS.iconst X25.here hx rfl (hb hby at_234) kk_) ?_
              show G T25 (mkF m 235 #[.val (.int i1), .val (.int i2), .val (.int i3), .val (.int i4), .val (.long t5), .second, .val (.int (2 : Int32)), .val (.int fl), .val (.int nl), .val (.int ql), .val (.int c0), .val (.int c1), .val (.ref ca0), .val (.ref ca1), .val (.ref ca2), .val (.ref nm), .val (.int y0), .val (.int y1), .val (.ref ba0), .val (.ref ba1), .val (.ref ba2), .val (.ref q), .val (.ref mm25), .unset, .unset] [(.int (4 : Int32))])
              refine hs.go (fun _ kk_ => XS.istore X25.here hx rfl (hb hby at_235) rfl (l' := #[.val (.int i1), .val (.int i2), .val (.int i3), .val (.int i4), .val (.long t5), .second, .val (.int (2 : Int32)), .val (.int fl), .val (.int nl), .val (.int ql), .val (.int c0), .val (.int c1), .val (.ref ca0), .val (.ref ca1), .val (.ref ca2), .val (.ref nm), .val (.int y0), .val (.int y1), .val (.ref ba0), .val (.ref ba1), .val (.ref ba2), .val (.ref q), .val (.ref mm25), .val (.int (4 : Int32)), .unset]) rfl kk_) ?_
              show G T25 (mkF m 237 #[.val (.int i1), .val (.int i2), .val (.int i3), .val (.int i4), .val (.long t5), .second, .val (.int (2 : Int32)), .val (.int fl), .val (.int nl), .val (.int ql), .val (.int c0), .val (.int c1), .val (.ref ca0), .val (.ref ca1), .val (.ref ca2), .val (.ref nm), .val (.int y0), .val (.int y1), .val (.ref ba0), .val (.ref ba1), .val (.ref ba2), .val (.ref q), .val (.ref mm25), .val (.int (4 : Int32)), .unset] [])
              refine hs.go (fun _ kk_ => XS.iload X25.here hx rfl (hb hby at_237) rfl  kk_) ?_
              show G T25 (mkF m 239 #[.val (.int i1), .val (.int i2), .val (.int i3), .val (.int i4), .val (.long t5), .second, .val (.int (2 : Int32)), .val (.int fl), .val (.int nl), .val (.int ql), .val (.int c0), .val (.int c1), .val (.ref ca0), .val (.ref ca1), .val (.ref ca2), .val (.ref nm), .val (.int y0), .val (.int y1), .val (.ref ba0), .val (.ref ba1), .val (.ref ba2), .val (.ref q), .val (.ref mm25), .val (.int (4 : Int32)), .unset] [(.int fl)])
              by_cases c239 : fl = (0 : Int32)
              · refine hs.go (fun _ kk_ => XS.ifYes X25.here hx rfl (pc0 := 239) (pc' := 255) rfl (hb hby at_239) rfl ((if0 _ _).trans (teq c239).1) (by decide) (by decide) kk_) ?_
                show G T25 (mkF m 255 #[.val (.int i1), .val (.int i2), .val (.int i3), .val (.int i4), .val (.long t5), .second, .val (.int (2 : Int32)), .val (.int fl), .val (.int nl), .val (.int ql), .val (.int c0), .val (.int c1), .val (.ref ca0), .val (.ref ca1), .val (.ref ca2), .val (.ref nm), .val (.int y0), .val (.int y1), .val (.ref ba0), .val (.ref ba1), .val (.ref ba2), .val (.ref q), .val (.ref mm25), .val (.int (4 : Int32)), .unset] [])
                refine hs.go (fun _ kk_ => XS.aload X25.here hx rfl (hb hby at_255) rfl rfl kk_) ?_
                show G T25 (mkF m 257 #[.val (.int i1), .val (.int i2), .val (.int i3), .val (.int i4), .val (.long t5), .second, .val (.int (2 : Int32)), .val (.int fl), .val (.int nl), .val (.int ql), .val (.int c0), .val (.int c1), .val (.ref ca0), .val (.ref ca1), .val (.ref ca2), .val (.ref nm), .val (.int y0), .val (.int y1), .val (.ref ba0), .val (.ref ba1), .val (.ref ba2), .val (.ref q), .val (.ref mm25), .val (.int (4 : Int32)), .unset] [(.ref mm25)])
                refine rCallS hs X25 hx hZ (as' := [(.ref mm25)]) stbT (mk_4 l Z a0 hw [] mm25 cc25 nm q225 h25 n0 Z0 F_columns_mm25 F_family_cc25 F_qualifier_cc25) hown (hw _ (List.mem_of_getElem? (i := 30) rfl)) (hw _ (List.mem_of_getElem? (i := 31) rfl)) (hw _ (List.mem_of_getElem? (i := 32) rfl)) (hw _ (List.mem_of_getElem? (i := 33) rfl)) hy_5 rfl (by rw [hml]; rfl) [] (lenOf pd_11 rfl) rfl 0 (by show 2 * 0 + _ ≤ _; exact Nat.le_of_eq rfl) (hb hby at_257) (by decide) (by decide) (by decide) (by decide) (fun r26 T26 h26 vm26 X26 q26 => ?_)
                obtain ⟨rfl, qh26⟩ := q26
                have X26 := X26 (fun _ => True) trivial
                rw [qh26] at X26
                show G T26 (mkF m 260 #[.val (.int i1), .val (.int i2), .val (.int i3), .val (.int i4), .val (.long t5), .second, .val (.int (2 : Int32)), .val (.int fl), .val (.int nl), .val (.int ql), .val (.int c0), .val (.int c1), .val (.ref ca0), .val (.ref ca1), .val (.ref ca2), .val (.ref nm), .val (.int y0), .val (.int y1), .val (.ref ba0), .val (.ref ba1), .val (.ref ba2), .val (.ref q), .val (.ref mm25), .val (.int (4 : Int32)), .unset] [(.int (4 : Int32))])
                refine hs.go (fun _ kk_ => XS.istore X26.here hx rfl (hb hby at_260) rfl (l' := #[.val (.int i1), .val (.int i2), .val (.int i3), .val (.int i4), .val (.long t5), .second, .val (.int (2 : Int32)), .val (.int fl), .val (.int nl), .val (.int ql), .val (.int c0), .val (.int c1), .val (.ref ca0), .val (.ref ca1), .val (.ref ca2), .val (.ref nm), .val (.int y0), .val (.int y1), .val (.ref ba0), .val (.ref ba1), .val (.ref ba2), .val (.ref q), .val (.ref mm25), .val (.int (4 : Int32)), .val (.int (4 : Int32))]) rfl kk_) ?_
                show G T26 (mkF m 262 #[.val (.int i1), .val (.int i2), .val (.int i3), .val (.int i4), .val (.long t5), .second, .val (.int (2 : Int32)), .val (.int fl), .val (.int nl), .val (.int ql), .val (.int c0), .val (.int c1), .val (.ref ca0), .val (.ref ca1), .val (.ref ca2), .val (.ref nm), .val (.int y0), .val (.int y1), .val (.ref ba0), .val (.ref ba1), .val (.ref ba2), .val (.ref q), .val (.ref mm25), .val (.int (4 : Int32)), .val (.int (4 : Int32))] [])
                refine hs.go (fun _ kk_ => XS.iload X26.here hx rfl (hb hby at_262) rfl  kk_) ?_
                show G T26 (mkF m 264 #[.val (.int i1), .val (.int i2), .val (.int i3), .val (.int i4), .val (.long t5), .second, .val (.int (2 : Int32)), .val (.int fl), .val (.int nl), .val (.int ql), .val (.int c0), .val (.int c1), .val (.ref ca0), .val (.ref ca1), .val (.ref ca2), .val (.ref nm), .val (.int y0), .val (.int y1), .val (.ref ba0), .val (.ref ba1), .val (.ref ba2), .val (.ref q), .val (.ref mm25), .val (.int (4 : Int32)), .val (.int (4 : Int32))] [(.int (4 : Int32))])
                refine hs.go (fun _ kk_ => XS.iload X26.here hx rfl (hb hby at_264) rfl  kk_) ?_
                show G T26 (mkF m 266 #[.val (.int i1), .val (.int i2), .val (.int i3), .val (.int i4), .val (.long t5), .second, .val (.int (2 : Int32)), .val (.int fl), .val (.int nl), .val (.int ql), .val (.int c0), .val (.int c1), .val (.ref ca0), .val (.ref ca1), .val (.ref ca2), .val (.ref nm), .val (.int y0), .val (.int y1), .val (.ref ba0), .val (.ref ba1), .val (.ref ba2), .val (.ref q), .val (.ref mm25), .val (.int (4 : Int32)), .val (.int (4 : Int32))] [(.int (4 : Int32)), (.int (4 : Int32))])
                refine hs.go (fun _ kk_ => XS.icmpNo X26.here hx rfl (hb hby at_266) rfl (teq (rfl : (4 : Int32) = (4 : Int32))).2 kk_) ?_
                show G T26 (mkF m 269 #[.val (.int i1), .val (.int i2), .val (.int i3), .val (.int i4), .val (.long t5), .second, .val (.int (2 : Int32)), .val (.int fl), .val (.int nl), .val (.int ql), .val (.int c0), .val (.int c1), .val (.ref ca0), .val (.ref ca1), .val (.ref ca2), .val (.ref nm), .val (.int y0), .val (.int y1), .val (.ref ba0), .val (.ref ba1), .val (.ref ba2), .val (.ref q), .val (.ref mm25), .val (.int (4 : Int32)), .val (.int (4 : Int32))] [])
                refine hs.go (fun _ kk_ => XS.iload X26.here hx rfl (hb hby at_269) rfl  kk_) ?_
                show G T26 (mkF m 271 #[.val (.int i1), .val (.int i2), .val (.int i3), .val (.int i4), .val (.long t5), .second, .val (.int (2 : Int32)), .val (.int fl), .val (.int nl), .val (.int ql), .val (.int c0), .val (.int c1), .val (.ref ca0), .val (.ref ca1), .val (.ref ca2), .val (.ref nm), .val (.int y0), .val (.int y1), .val (.ref ba0), .val (.ref ba1), .val (.ref ba2), .val (.ref q), .val (.ref mm25), .val (.int (4 : Int32)), .val (.int (4 : Int32))] [(.int (4 : Int32))])
                refine rCallS hs X26 hx hZ (as' := [(.int (4 : Int32))]) stbT (rm6 l Z a0 hw [] (4 : Int32) h25 n0 Z0) hown (hw _ (List.mem_of_getElem? (i := 38) rfl)) (hw _ (List.mem_of_getElem? (i := 39) rfl)) (hw _ (List.mem_of_getElem? (i := 32) rfl)) (hw _ (List.mem_of_getElem? (i := 40) rfl)) hy_6 rfl (by rw [hml]; rfl) [] (lenOf pd_12 rfl) rfl 0 (by show 2 * 0 + _ ≤ _; exact Nat.le_of_eq rfl) (hb hby at_271) (by decide) (by decide) (by decide) (by decide) (fun r27 T27 h27 vm27 X27 q27 => ?_)
                obtain ⟨rfl, qh27⟩ := q27
                have X27 := X27 (fun _ => True) trivial
                rw [qh27] at X27
                show G T27 (mkF m 274 #[.val (.int i1), .val (.int i2), .val (.int i3), .val (.int i4), .val (.long t5), .second, .val (.int (2 : Int32)), .val (.int fl), .val (.int nl), .val (.int ql), .val (.int c0), .val (.int c1), .val (.ref ca0), .val (.ref ca1), .val (.ref ca2), .val (.ref nm), .val (.int y0), .val (.int y1), .val (.ref ba0), .val (.ref ba1), .val (.ref ba2), .val (.ref q), .val (.ref mm25), .val (.int (4 : Int32)), .val (.int (4 : Int32))] [(.int (fmk (4 : Int32)))])
                refine hs.go (fun _ kk_ => XS.ifNo X27.here hx rfl (hb hby at_274) rfl ((if0 _ _).trans (feq ((by decide) : ¬ ((fmk (4 : Int32)) = (0 : Int32)))).1) kk_) ?_
                show G T27 (mkF m 277 #[.val (.int i1), .val (.int i2), .val (.int i3), .val (.int i4), .val (.long t5), .second, .val (.int (2 : Int32)), .val (.int fl), .val (.int nl), .val (.int ql), .val (.int c0), .val (.int c1), .val (.ref ca0), .val (.ref ca1), .val (.ref ca2), .val (.ref nm), .val (.int y0), .val (.int y1), .val (.ref ba0), .val (.ref ba1), .val (.ref ba2), .val (.ref q), .val (.ref mm25), .val (.int (4 : Int32)), .val (.int (4 : Int32))] [])
                refine hs.go (fun _ kk_ => XS.iconst X27.here hx rfl (hb hby at_277) kk_) ?_
                show G T27 (mkF m 278 #[.val (.int i1), .val (.int i2), .val (.int i3), .val (.int i4), .val (.long t5), .second, .val (.int (2 : Int32)), .val (.int fl), .val (.int nl), .val (.int ql), .val (.int c0), .val (.int c1), .val (.ref ca0), .val (.ref ca1), .val (.ref ca2), .val (.ref nm), .val (.int y0), .val (.int y1), .val (.ref ba0), .val (.ref ba1), .val (.ref ba2), .val (.ref q), .val (.ref mm25), .val (.int (4 : Int32)), .val (.int (4 : Int32))] [(.int (1 : Int32))])
                refine hs.go (fun _ kk_ => XS.goto X27.here hx rfl (pc0 := 278) (pc' := 282) rfl (hb hby at_278) (by decide) (by decide) kk_) ?_
                show G T27 (mkF m 282 #[.val (.int i1), .val (.int i2), .val (.int i3), .val (.int i4), .val (.long t5), .second, .val (.int (2 : Int32)), .val (.int fl), .val (.int nl), .val (.int ql), .val (.int c0), .val (.int c1), .val (.ref ca0), .val (.ref ca1), .val (.ref ca2), .val (.ref nm), .val (.int y0), .val (.int y1), .val (.ref ba0), .val (.ref ba1), .val (.ref ba2), .val (.ref q), .val (.ref mm25), .val (.int (4 : Int32)), .val (.int (4 : Int32))] [(.int (1 : Int32))])
                exact rRetN fin stbT X27 hx (by decide) (by decide) hret (by simp) (hb hby at_282) (z' := (1 : Int32)) (by decide) (fun vm' hj => rfl)
              · refine hs.go (fun _ kk_ => XS.ifNo X25.here hx rfl (hb hby at_239) rfl ((if0 _ _).trans (feq c239).1) kk_) ?_
                show G T25 (mkF m 242 #[.val (.int i1), .val (.int i2), .val (.int i3), .val (.int i4), .val (.long t5), .second, .val (.int (2 : Int32)), .val (.int fl), .val (.int nl), .val (.int ql), .val (.int c0), .val (.int c1), .val (.ref ca0), .val (.ref ca1), .val (.ref ca2), .val (.ref nm), .val (.int y0), .val (.int y1), .val (.ref ba0), .val (.ref ba1), .val (.ref ba2), .val (.ref q), .val (.ref mm25), .val (.int (4 : Int32)), .unset] [])
                refine hs.go (fun _ kk_ => XS.aload X25.here hx rfl (hb hby at_242) rfl rfl kk_) ?_
                show G T25 (mkF m 244 #[.val (.int i1), .val (.int i2), .val (.int i3), .val (.int i4), .val (.long t5), .second, .val (.int (2 : Int32)), .val (.int fl), .val (.int nl), .val (.int ql), .val (.int c0), .val (.int c1), .val (.ref ca0), .val (.ref ca1), .val (.ref ca2), .val (.ref nm), .val (.int y0), .val (.int y1), .val (.ref ba0), .val (.ref ba1), .val (.ref ba2), .val (.ref q), .val (.ref mm25), .val (.int (4 : Int32)), .unset] [(.ref mm25)])
                refine hs.go (fun _ kk_ => XS.lload X25.here hx rfl (hb hby at_244) rfl  kk_) ?_
                show G T25 (mkF m 246 #[.val (.int i1), .val (.int i2), .val (.int i3), .val (.int i4), .val (.long t5), .second, .val (.int (2 : Int32)), .val (.int fl), .val (.int nl), .val (.int ql), .val (.int c0), .val (.int c1), .val (.ref ca0), .val (.ref ca1), .val (.ref ca2), .val (.ref nm), .val (.int y0), .val (.int y1), .val (.ref ba0), .val (.ref ba1), .val (.ref ba2), .val (.ref q), .val (.ref mm25), .val (.int (4 : Int32)), .unset] [(.long t5), (.ref mm25)])
                refine rLdcL hs X25 hx hZ hown (hw _ (List.mem_of_getElem? (i := 100) rfl)) rfl (hb hby at_246) ?_
                show G T25 (mkF m 249 #[.val (.int i1), .val (.int i2), .val (.int i3), .val (.int i4), .val (.long t5), .second, .val (.int (2 : Int32)), .val (.int fl), .val (.int nl), .val (.int ql), .val (.int c0), .val (.int c1), .val (.ref ca0), .val (.ref ca1), .val (.ref ca2), .val (.ref nm), .val (.int y0), .val (.int y1), .val (.ref ba0), .val (.ref ba1), .val (.ref ba2), .val (.ref q), .val (.ref mm25), .val (.int (4 : Int32)), .unset] [(.long (9223372036854775807 : Int64)), (.long t5), (.ref mm25)])
                refine hs.go (fun _ kk_ => XS.land X25.here hx rfl (hb hby at_249) rfl kk_) ?_
                show G T25 (mkF m 250 #[.val (.int i1), .val (.int i2), .val (.int i3), .val (.int i4), .val (.long t5), .second, .val (.int (2 : Int32)), .val (.int fl), .val (.int nl), .val (.int ql), .val (.int c0), .val (.int c1), .val (.ref ca0), .val (.ref ca1), .val (.ref ca2), .val (.ref nm), .val (.int y0), .val (.int y1), .val (.ref ba0), .val (.ref ba1), .val (.ref ba2), .val (.ref q), .val (.ref mm25), .val (.int (4 : Int32)), .unset] [(.long (t5 &&& (9223372036854775807 : Int64))), (.ref mm25)])
                refine rCallV hs X25 hx hZ (as' := [(.long (t5 &&& (9223372036854775807 : Int64)))]) stbT (rm17 l Z a0 hw [] mm25 cc25 (t5 &&& (9223372036854775807 : Int64)) h25 n0 Z0 F_columns_mm25 (own_ts _)) E_mm25 hown (hw _ (List.mem_of_getElem? (i := 101) rfl)) (hw _ (List.mem_of_getElem? (i := 102) rfl)) (hw _ (List.mem_of_getElem? (i := 104) rfl)) (hw _ (List.mem_of_getElem? (i := 103) rfl)) (hw _ (List.mem_of_getElem? (i := 26) rfl)) (hw _ (List.mem_of_getElem? (i := 105) rfl)) hy_17 rfl (by rw [hml]; rfl) [] (lenOf pd_13 rfl) rfl 0 (by show 2 * 0 + _ ≤ _; exact Nat.le_of_eq rfl) (hb hby at_250) (by decide) (by decide) (by decide) (by decide) (fun r28 T28 h28 vm28 X28 q28 => ?_)
                obtain ⟨mm28, rfl, Kc28, E_mm28, F_columns_mm28⟩ := q28
                have X28 := X28 (fun _ => True) trivial
                have O := O.keep Kc28 all0
                have E_nm := E_nm.keep Kc28
                have V_q := V_q.keep Kc28 nin0
                have E_q := E_q.keep Kc28
                have E_mm25 := E_mm25.keep Kc28
                have F_columns_mm25 := F_columns_mm25.keep Kc28 nin0
                have F_family_cc25 := F_family_cc25.keep Kc28 nin0
                have F_qualifier_cc25 := F_qualifier_cc25.keep Kc28 nin0
                have Z0 := Nat.le_trans Z0 Kc28.1
                show G T28 (mkF m 253 #[.val (.int i1), .val (.int i2), .val (.int i3), .val (.int i4), .val (.long t5), .second, .val (.int (2 : Int32)), .val (.int fl), .val (.int nl), .val (.int ql), .val (.int c0), .val (.int c1), .val (.ref ca0), .val (.ref ca1), .val (.ref ca2), .val (.ref nm), .val (.int y0), .val (.int y1), .val (.ref ba0), .val (.ref ba1), .val (.ref ba2), .val (.ref q), .val (.ref mm25), .val (.int (4 : Int32)), .unset] [(.ref mm28)])
                refine hs.go (fun _ kk_ => XS.astore X28.here hx rfl (hb hby at_253) rfl rfl (l' := #[.val (.int i1), .val (.int i2), .val (.int i3), .val (.int i4), .val (.long t5), .second, .val (.int (2 : Int32)), .val (.int fl), .val (.int nl), .val (.int ql), .val (.int c0), .val (.int c1), .val (.ref ca0), .val (.ref ca1), .val (.ref ca2), .val (.ref nm), .val (.int y0), .val (.int y1), .val (.ref ba0), .val (.ref ba1), .val (.ref ba2), .val (.ref q), .val (.ref mm28), .val (.int (4 : Int32)), .unset]) rfl kk_) ?_
                show G T28 (mkF m 255 #[.val (.int i1), .val (.int i2), .val (.int i3), .val (.int i4), .val (.long t5), .second, .val (.int (2 : Int32)), .val (.int fl), .val (.int nl), .val (.int ql), .val (.int c0), .val (.int c1), .val (.ref ca0), .val (.ref ca1), .val (.ref ca2), .val (.ref nm), .val (.int y0), .val (.int y1), .val (.ref ba0), .val (.ref ba1), .val (.ref ba2), .val (.ref q), .val (.ref mm28), .val (.int (4 : Int32)), .unset] [])
                refine hs.go (fun _ kk_ => XS.aload X28.here hx rfl (hb hby at_255) rfl rfl kk_) ?_
                show G T28 (mkF m 257 #[.val (.int i1), .val (.int i2), .val (.int i3), .val (.int i4), .val (.long t5), .second, .val (.int (2 : Int32)), .val (.int fl), .val (.int nl), .val (.int ql), .val (.int c0), .val (.int c1), .val (.ref ca0), .val (.ref ca1), .val (.ref ca2), .val (.ref nm), .val (.int y0), .val (.int y1), .val (.ref ba0), .val (.ref ba1), .val (.ref ba2), .val (.ref q), .val (.ref mm28), .val (.int (4 : Int32)), .unset] [(.ref mm28)])
                refine rCallS hs X28 hx hZ (as' := [(.ref mm28)]) stbT (mk_4 l Z a0 hw [] mm28 cc25 nm q225 h28 n0 Z0 F_columns_mm28 F_family_cc25 F_qualifier_cc25) hown (hw _ (List.mem_of_getElem? (i := 30) rfl)) (hw _ (List.mem_of_getElem? (i := 31) rfl)) (hw _ (List.mem_of_getElem? (i := 32) rfl)) (hw _ (List.mem_of_getElem? (i := 33) rfl)) hy_5 rfl (by rw [hml]; rfl) [] (lenOf pd_11 rfl) rfl 0 (by show 2 * 0 + _ ≤ _; exact Nat.le_of_eq rfl) (hb hby at_257) (by decide) (by decide) (by decide) (by decide) (fun r29 T29 h29 vm29 X29 q29 => ?_)
                obtain ⟨rfl, qh29⟩ := q29
                have X29 := X29 (fun _ => True) trivial
                rw [qh29] at X29
                show G T29 (mkF m 260 #[.val (.int i1), .val (.int i2), .val (.int i3), .val (.int i4), .val (.long t5), .second, .val (.int (2 : Int32)), .val (.int fl), .val (.int nl), .val (.int ql), .val (.int c0), .val (.int c1), .val (.ref ca0), .val (.ref ca1), .val (.ref ca2), .val (.ref nm), .val (.int y0), .val (.int y1), .val (.ref ba0), .val (.ref ba1), .val (.ref ba2), .val (.ref q), .val (.ref mm28), .val (.int (4 : Int32)), .unset] [(.int (4 : Int32))])
                refine hs.go (fun _ kk_ => XS.istore X29.here hx rfl (hb hby at_260) rfl (l' := #[.val (.int i1), .val (.int i2), .val (.int i3), .val (.int i4), .val (.long t5), .second, .val (.int (2 : Int32)), .val (.int fl), .val (.int nl), .val (.int ql), .val (.int c0), .val (.int c1), .val (.ref ca0), .val (.ref ca1), .val (.ref ca2), .val (.ref nm), .val (.int y0), .val (.int y1), .val (.ref ba0), .val (.ref ba1), .val (.ref ba2), .val (.ref q), .val (.ref mm28), .val (.int (4 : Int32)), .val (.int (4 : Int32))]) rfl kk_) ?_
                show G T29 (mkF m 262 #[.val (.int i1), .val (.int i2), .val (.int i3), .val (.int i4), .val (.long t5), .second, .val (.int (2 : Int32)), .val (.int fl), .val (.int nl), .val (.int ql), .val (.int c0), .val (.int c1), .val (.ref ca0), .val (.ref ca1), .val (.ref ca2), .val (.ref nm), .val (.int y0), .val (.int y1), .val (.ref ba0), .val (.ref ba1), .val (.ref ba2), .val (.ref q), .val (.ref mm28), .val (.int (4 : Int32)), .val (.int (4 : Int32))] [])
                refine hs.go (fun _ kk_ => XS.iload X29.here hx rfl (hb hby at_262) rfl  kk_) ?_
                show G T29 (mkF m 264 #[.val (.int i1), .val (.int i2), .val (.int i3), .val (.int i4), .val (.long t5), .second, .val (.int (2 : Int32)), .val (.int fl), .val (.int nl), .val (.int ql), .val (.int c0), .val (.int c1), .val (.ref ca0), .val (.ref ca1), .val (.ref ca2), .val (.ref nm), .val (.int y0), .val (.int y1), .val (.ref ba0), .val (.ref ba1), .val (.ref ba2), .val (.ref q), .val (.ref mm28), .val (.int (4 : Int32)), .val (.int (4 : Int32))] [(.int (4 : Int32))])
                refine hs.go (fun _ kk_ => XS.iload X29.here hx rfl (hb hby at_264) rfl  kk_) ?_
                show G T29 (mkF m 266 #[.val (.int i1), .val (.int i2), .val (.int i3), .val (.int i4), .val (.long t5), .second, .val (.int (2 : Int32)), .val (.int fl), .val (.int nl), .val (.int ql), .val (.int c0), .val (.int c1), .val (.ref ca0), .val (.ref ca1), .val (.ref ca2), .val (.ref nm), .val (.int y0), .val (.int y1), .val (.ref ba0), .val (.ref ba1), .val (.ref ba2), .val (.ref q), .val (.ref mm28), .val (.int (4 : Int32)), .val (.int (4 : Int32))] [(.int (4 : Int32)), (.int (4 : Int32))])
                refine hs.go (fun _ kk_ => XS.icmpNo X29.here hx rfl (hb hby at_266) rfl (teq (rfl : (4 : Int32) = (4 : Int32))).2 kk_) ?_
                show G T29 (mkF m 269 #[.val (.int i1), .val (.int i2), .val (.int i3), .val (.int i4), .val (.long t5), .second, .val (.int (2 : Int32)), .val (.int fl), .val (.int nl), .val (.int ql), .val (.int c0), .val (.int c1), .val (.ref ca0), .val (.ref ca1), .val (.ref ca2), .val (.ref nm), .val (.int y0), .val (.int y1), .val (.ref ba0), .val (.ref ba1), .val (.ref ba2), .val (.ref q), .val (.ref mm28), .val (.int (4 : Int32)), .val (.int (4 : Int32))] [])
                refine hs.go (fun _ kk_ => XS.iload X29.here hx rfl (hb hby at_269) rfl  kk_) ?_
                show G T29 (mkF m 271 #[.val (.int i1), .val (.int i2), .val (.int i3), .val (.int i4), .val (.long t5), .second, .val (.int (2 : Int32)), .val (.int fl), .val (.int nl), .val (.int ql), .val (.int c0), .val (.int c1), .val (.ref ca0), .val (.ref ca1), .val (.ref ca2), .val (.ref nm), .val (.int y0), .val (.int y1), .val (.ref ba0), .val (.ref ba1), .val (.ref ba2), .val (.ref q), .val (.ref mm28), .val (.int (4 : Int32)), .val (.int (4 : Int32))] [(.int (4 : Int32))])
                refine rCallS hs X29 hx hZ (as' := [(.int (4 : Int32))]) stbT (rm6 l Z a0 hw [] (4 : Int32) h28 n0 Z0) hown (hw _ (List.mem_of_getElem? (i := 38) rfl)) (hw _ (List.mem_of_getElem? (i := 39) rfl)) (hw _ (List.mem_of_getElem? (i := 32) rfl)) (hw _ (List.mem_of_getElem? (i := 40) rfl)) hy_6 rfl (by rw [hml]; rfl) [] (lenOf pd_12 rfl) rfl 0 (by show 2 * 0 + _ ≤ _; exact Nat.le_of_eq rfl) (hb hby at_271) (by decide) (by decide) (by decide) (by decide) (fun r30 T30 h30 vm30 X30 q30 => ?_)
                obtain ⟨rfl, qh30⟩ := q30
                have X30 := X30 (fun _ => True) trivial
                rw [qh30] at X30
                show G T30 (mkF m 274 #[.val (.int i1), .val (.int i2), .val (.int i3), .val (.int i4), .val (.long t5), .second, .val (.int (2 : Int32)), .val (.int fl), .val (.int nl), .val (.int ql), .val (.int c0), .val (.int c1), .val (.ref ca0), .val (.ref ca1), .val (.ref ca2), .val (.ref nm), .val (.int y0), .val (.int y1), .val (.ref ba0), .val (.ref ba1), .val (.ref ba2), .val (.ref q), .val (.ref mm28), .val (.int (4 : Int32)), .val (.int (4 : Int32))] [(.int (fmk (4 : Int32)))])
                refine hs.go (fun _ kk_ => XS.ifNo X30.here hx rfl (hb hby at_274) rfl ((if0 _ _).trans (feq ((by decide) : ¬ ((fmk (4 : Int32)) = (0 : Int32)))).1) kk_) ?_
                show G T30 (mkF m 277 #[.val (.int i1), .val (.int i2), .val (.int i3), .val (.int i4), .val (.long t5), .second, .val (.int (2 : Int32)), .val (.int fl), .val (.int nl), .val (.int ql), .val (.int c0), .val (.int c1), .val (.ref ca0), .val (.ref ca1), .val (.ref ca2), .val (.ref nm), .val (.int y0), .val (.int y1), .val (.ref ba0), .val (.ref ba1), .val (.ref ba2), .val (.ref q), .val (.ref mm28), .val (.int (4 : Int32)), .val (.int (4 : Int32))] [])
                refine hs.go (fun _ kk_ => XS.iconst X30.here hx rfl (hb hby at_277) kk_) ?_
                show G T30 (mkF m 278 #[.val (.int i1), .val (.int i2), .val (.int i3), .val (.int i4), .val (.long t5), .second, .val (.int (2 : Int32)), .val (.int fl), .val (.int nl), .val (.int ql), .val (.int c0), .val (.int c1), .val (.ref ca0), .val (.ref ca1), .val (.ref ca2), .val (.ref nm), .val (.int y0), .val (.int y1), .val (.ref ba0), .val (.ref ba1), .val (.ref ba2), .val (.ref q), .val (.ref mm28), .val (.int (4 : Int32)), .val (.int (4 : Int32))] [(.int (1 : Int32))])
                refine hs.go (fun _ kk_ => XS.goto X30.here hx rfl (pc0 := 278) (pc' := 282) rfl (hb hby at_278) (by decide) (by decide) kk_) ?_
                show G T30 (mkF m 282 #[.val (.int i1), .val (.int i2), .val (.int i3), .val (.int i4), .val (.long t5), .second, .val (.int (2 : Int32)), .val (.int fl), .val (.int nl), .val (.int ql), .val (.int c0), .val (.int c1), .val (.ref ca0), .val (.ref ca1), .val (.ref ca2), .val (.ref nm), .val (.int y0), .val (.int y1), .val (.ref ba0), .val (.ref ba1), .val (.ref ba2), .val (.ref q), .val (.ref mm28), .val (.int (4 : Int32)), .val (.int (4 : Int32))] [(.int (1 : Int32))])
                exact rRetN fin stbT X30 hx (by decide) (by decide) hret (by simp) (hb hby at_282) (z' := (1 : Int32)) (by decide) (fun vm' hj => rfl)
        rcases own_3 (by decide) hql with e_ | e_ | e_
        · subst e_
          show G T12 (mkF m 165 #[.val (.int i1), .val (.int i2), .val (.int i3), .val (.int i4), .val (.long t5), .second, .val (.int kd), .val (.int fl), .val (.int nl), .val (.int (0 : Int32)), .val (.int c0), .val (.int c1), .val (.ref ca0), .val (.ref ca1), .val (.ref ca2), .val (.ref nm), .val (.int y0), .val (.int y1), .val (.ref ba0), .val (.ref ba1), .val (.ref ba2), .unset, .unset, .unset, .unset] [])
          refine hs.go (fun _ kk_ => XS.iload X12.here hx rfl (hb hby at_165) rfl  kk_) ?_
          show G T12 (mkF m 167 #[.val (.int i1), .val (.int i2), .val (.int i3), .val (.int i4), .val (.long t5), .second, .val (.int kd), .val (.int fl), .val (.int nl), .val (.int (0 : Int32)), .val (.int c0), .val (.int c1), .val (.ref ca0), .val (.ref ca1), .val (.ref ca2), .val (.ref nm), .val (.int y0), .val (.int y1), .val (.ref ba0), .val (.ref ba1), .val (.ref ba2), .unset, .unset, .unset, .unset] [(.int (0 : Int32))])
          refine hs.go (fun _ kk_ => XS.ifNo X12.here hx rfl (hb hby at_167) rfl ((if0 _ _).trans (teq (rfl : (0 : Int32) = (0 : Int32))).2) kk_) ?_
          show G T12 (mkF m 170 #[.val (.int i1), .val (.int i2), .val (.int i3), .val (.int i4), .val (.long t5), .second, .val (.int kd), .val (.int fl), .val (.int nl), .val (.int (0 : Int32)), .val (.int c0), .val (.int c1), .val (.ref ca0), .val (.ref ca1), .val (.ref ca2), .val (.ref nm), .val (.int y0), .val (.int y1), .val (.ref ba0), .val (.ref ba1), .val (.ref ba2), .unset, .unset, .unset, .unset] [])
          refine hs.go (fun _ kk_ => XS.aload X12.here hx rfl (hb hby at_170) rfl rfl kk_) ?_
          show G T12 (mkF m 172 #[.val (.int i1), .val (.int i2), .val (.int i3), .val (.int i4), .val (.long t5), .second, .val (.int kd), .val (.int fl), .val (.int nl), .val (.int (0 : Int32)), .val (.int c0), .val (.int c1), .val (.ref ca0), .val (.ref ca1), .val (.ref ca2), .val (.ref nm), .val (.int y0), .val (.int y1), .val (.ref ba0), .val (.ref ba1), .val (.ref ba2), .unset, .unset, .unset, .unset] [(.ref ba0)])
          refine hs.go (fun _ kk_ => XS.goto X12.here hx rfl (pc0 := 172) (pc' := 188) rfl (hb hby at_172) (by decide) (by decide) kk_) ?_
          show G T12 (mkF m 188 #[.val (.int i1), .val (.int i2), .val (.int i3), .val (.int i4), .val (.long t5), .second, .val (.int kd), .val (.int fl), .val (.int nl), .val (.int (0 : Int32)), .val (.int c0), .val (.int c1), .val (.ref ca0), .val (.ref ca1), .val (.ref ca2), .val (.ref nm), .val (.int y0), .val (.int y1), .val (.ref ba0), .val (.ref ba1), .val (.ref ba2), .unset, .unset, .unset, .unset] [(.ref ba0)])
          exact J188 _ _ _ _ V_ba0 E_ba0 (by decide)
        · subst e_
          show G T12 (mkF m 165 #[.val (.int i1), .val (.int i2), .val (.int i3), .val (.int i4), .val (.long t5), .second, .val (.int kd), .val (.int fl), .val (.int nl), .val (.int (1 : Int32)), .val (.int c0), .val (.int c1), .val (.ref ca0), .val (.ref ca1), .val (.ref ca2), .val (.ref nm), .val (.int y0), .val (.int y1), .val (.ref ba0), .val (.ref ba1), .val (.ref ba2), .unset, .unset, .unset, .unset] [])
          refine hs.go (fun _ kk_ => XS.iload X12.here hx rfl (hb hby at_165) rfl  kk_) ?_
          show G T12 (mkF m 167 #[.val (.int i1), .val (.int i2), .val (.int i3), .val (.int i4), .val (.long t5), .second, .val (.int kd), .val (.int fl), .val (.int nl), .val (.int (1 : Int32)), .val (.int c0), .val (.int c1), .val (.ref ca0), .val (.ref ca1), .val (.ref ca2), .val (.ref nm), .val (.int y0), .val (.int y1), .val (.ref ba0), .val (.ref ba1), .val (.ref ba2), .unset, .unset, .unset, .unset] [(.int (1 : Int32))])
          refine hs.go (fun _ kk_ => XS.ifYes X12.here hx rfl (pc0 := 167) (pc' := 175) rfl (hb hby at_167) rfl ((if0 _ _).trans (feq ((by decide) : ¬ ((1 : Int32) = (0 : Int32)))).2) (by decide) (by decide) kk_) ?_
          show G T12 (mkF m 175 #[.val (.int i1), .val (.int i2), .val (.int i3), .val (.int i4), .val (.long t5), .second, .val (.int kd), .val (.int fl), .val (.int nl), .val (.int (1 : Int32)), .val (.int c0), .val (.int c1), .val (.ref ca0), .val (.ref ca1), .val (.ref ca2), .val (.ref nm), .val (.int y0), .val (.int y1), .val (.ref ba0), .val (.ref ba1), .val (.ref ba2), .unset, .unset, .unset, .unset] [])
          refine hs.go (fun _ kk_ => XS.iload X12.here hx rfl (hb hby at_175) rfl  kk_) ?_
          show G T12 (mkF m 177 #[.val (.int i1), .val (.int i2), .val (.int i3), .val (.int i4), .val (.long t5), .second, .val (.int kd), .val (.int fl), .val (.int nl), .val (.int (1 : Int32)), .val (.int c0), .val (.int c1), .val (.ref ca0), .val (.ref ca1), .val (.ref ca2), .val (.ref nm), .val (.int y0), .val (.int y1), .val (.ref ba0), .val (.ref ba1), .val (.ref ba2), .unset, .unset, .unset, .unset] [(.int (1 : Int32))])
          refine hs.go (fun _ kk_ => XS.iconst X12.here hx rfl (hb hby at_177) kk_) ?_
          show G T12 (mkF m 178 #[.val (.int i1), .val (.int i2), .val (.int i3), .val (.int i4), .val (.long t5), .second, .val (.int kd), .val (.int fl), .val (.int nl), .val (.int (1 : Int32)), .val (.int c0), .val (.int c1), .val (.ref ca0), .val (.ref ca1), .val (.ref ca2), .val (.ref nm), .val (.int y0), .val (.int y1), .val (.ref ba0), .val (.ref ba1), .val (.ref ba2), .unset, .unset, .unset, .unset] [(.int (1 : Int32)), (.int (1 : Int32))])
          refine hs.go (fun _ kk_ => XS.icmpNo X12.here hx rfl (hb hby at_178) rfl (teq (rfl : (1 : Int32) = (1 : Int32))).2 kk_) ?_
          show G T12 (mkF m 181 #[.val (.int i1), .val (.int i2), .val (.int i3), .val (.int i4), .val (.long t5), .second, .val (.int kd), .val (.int fl), .val (.int nl), .val (.int (1 : Int32)), .val (.int c0), .val (.int c1), .val (.ref ca0), .val (.ref ca1), .val (.ref ca2), .val (.ref nm), .val (.int y0), .val (.int y1), .val (.ref ba0), .val (.ref ba1), .val (.ref ba2), .unset, .unset, .unset, .unset] [])
          refine hs.go (fun _ kk_ => XS.aload X12.here hx rfl (hb hby at_181) rfl rfl kk_) ?_
          show G T12 (mkF m 183 #[.val (.int i1), .val (.int i2), .val (.int i3), .val (.int i4), .val (.long t5), .second, .val (.int kd), .val (.int fl), .val (.int nl), .val (.int (1 : Int32)), .val (.int c0), .val (.int c1), .val (.ref ca0), .val (.ref ca1), .val (.ref ca2), .val (.ref nm), .val (.int y0), .val (.int y1), .val (.ref ba0), .val (.ref ba1), .val (.ref ba2), .unset, .unset, .unset, .unset] [(.ref ba1)])
          refine hs.go (fun _ kk_ => XS.goto X12.here hx rfl (pc0 := 183) (pc' := 188) rfl (hb hby at_183) (by decide) (by decide) kk_) ?_
          show G T12 (mkF m 188 #[.val (.int i1), .val (.int i2), .val (.int i3), .val (.int i4), .val (.long t5), .second, .val (.int kd), .val (.int fl), .val (.int nl), .val (.int (1 : Int32)), .val (.int c0), .val (.int c1), .val (.ref ca0), .val (.ref ca1), .val (.ref ca2), .val (.ref nm), .val (.int y0), .val (.int y1), .val (.ref ba0), .val (.ref ba1), .val (.ref ba2), .unset, .unset, .unset, .unset] [(.ref ba1)])
          exact J188 _ _ _ _ V_ba1 E_ba1 (by decide)
        · subst e_
          show G T12 (mkF m 165 #[.val (.int i1), .val (.int i2), .val (.int i3), .val (.int i4), .val (.long t5), .second, .val (.int kd), .val (.int fl), .val (.int nl), .val (.int (2 : Int32)), .val (.int c0), .val (.int c1), .val (.ref ca0), .val (.ref ca1), .val (.ref ca2), .val (.ref nm), .val (.int y0), .val (.int y1), .val (.ref ba0), .val (.ref ba1), .val (.ref ba2), .unset, .unset, .unset, .unset] [])
          refine hs.go (fun _ kk_ => XS.iload X12.here hx rfl (hb hby at_165) rfl  kk_) ?_
          show G T12 (mkF m 167 #[.val (.int i1), .val (.int i2), .val (.int i3), .val (.int i4), .val (.long t5), .second, .val (.int kd), .val (.int fl), .val (.int nl), .val (.int (2 : Int32)), .val (.int c0), .val (.int c1), .val (.ref ca0), .val (.ref ca1), .val (.ref ca2), .val (.ref nm), .val (.int y0), .val (.int y1), .val (.ref ba0), .val (.ref ba1), .val (.ref ba2), .unset, .unset, .unset, .unset] [(.int (2 : Int32))])
          refine hs.go (fun _ kk_ => XS.ifYes X12.here hx rfl (pc0 := 167) (pc' := 175) rfl (hb hby at_167) rfl ((if0 _ _).trans (feq ((by decide) : ¬ ((2 : Int32) = (0 : Int32)))).2) (by decide) (by decide) kk_) ?_
          show G T12 (mkF m 175 #[.val (.int i1), .val (.int i2), .val (.int i3), .val (.int i4), .val (.long t5), .second, .val (.int kd), .val (.int fl), .val (.int nl), .val (.int (2 : Int32)), .val (.int c0), .val (.int c1), .val (.ref ca0), .val (.ref ca1), .val (.ref ca2), .val (.ref nm), .val (.int y0), .val (.int y1), .val (.ref ba0), .val (.ref ba1), .val (.ref ba2), .unset, .unset, .unset, .unset] [])
          refine hs.go (fun _ kk_ => XS.iload X12.here hx rfl (hb hby at_175) rfl  kk_) ?_
          show G T12 (mkF m 177 #[.val (.int i1), .val (.int i2), .val (.int i3), .val (.int i4), .val (.long t5), .second, .val (.int kd), .val (.int fl), .val (.int nl), .val (.int (2 : Int32)), .val (.int c0), .val (.int c1), .val (.ref ca0), .val (.ref ca1), .val (.ref ca2), .val (.ref nm), .val (.int y0), .val (.int y1), .val (.ref ba0), .val (.ref ba1), .val (.ref ba2), .unset, .unset, .unset, .unset] [(.int (2 : Int32))])
          refine hs.go (fun _ kk_ => XS.iconst X12.here hx rfl (hb hby at_177) kk_) ?_
          show G T12 (mkF m 178 #[.val (.int i1), .val (.int i2), .val (.int i3), .val (.int i4), .val (.long t5), .second, .val (.int kd), .val (.int fl), .val (.int nl), .val (.int (2 : Int32)), .val (.int c0), .val (.int c1), .val (.ref ca0), .val (.ref ca1), .val (.ref ca2), .val (.ref nm), .val (.int y0), .val (.int y1), .val (.ref ba0), .val (.ref ba1), .val (.ref ba2), .unset, .unset, .unset, .unset] [(.int (1 : Int32)), (.int (2 : Int32))])
          refine hs.go (fun _ kk_ => XS.icmpYes X12.here hx rfl (pc0 := 178) (pc' := 186) rfl (hb hby at_178) rfl (feq ((by decide) : ¬ ((2 : Int32) = (1 : Int32)))).2 (by decide) (by decide) kk_) ?_
          show G T12 (mkF m 186 #[.val (.int i1), .val (.int i2), .val (.int i3), .val (.int i4), .val (.long t5), .second, .val (.int kd), .val (.int fl), .val (.int nl), .val (.int (2 : Int32)), .val (.int c0), .val (.int c1), .val (.ref ca0), .val (.ref ca1), .val (.ref ca2), .val (.ref nm), .val (.int y0), .val (.int y1), .val (.ref ba0), .val (.ref ba1), .val (.ref ba2), .unset, .unset, .unset, .unset] [])
          refine hs.go (fun _ kk_ => XS.aload X12.here hx rfl (hb hby at_186) rfl rfl kk_) ?_
          show G T12 (mkF m 188 #[.val (.int i1), .val (.int i2), .val (.int i3), .val (.int i4), .val (.long t5), .second, .val (.int kd), .val (.int fl), .val (.int nl), .val (.int (2 : Int32)), .val (.int c0), .val (.int c1), .val (.ref ca0), .val (.ref ca1), .val (.ref ca2), .val (.ref nm), .val (.int y0), .val (.int y1), .val (.ref ba0), .val (.ref ba1), .val (.ref ba2), .unset, .unset, .unset, .unset] [(.ref ba2)])
          exact J188 _ _ _ _ V_ba2 E_ba2 (by decide)
    rcases own_3 (by decide) hnl with e_ | e_ | e_
    · subst e_
      show G T6 (mkF m 92 #[.val (.int i1), .val (.int i2), .val (.int i3), .val (.int i4), .val (.long t5), .second, .val (.int kd), .val (.int fl), .val (.int (0 : Int32)), .val (.int ql), .val (.int c0), .val (.int c1), .val (.ref ca0), .val (.ref ca1), .val (.ref ca2), .unset, .unset, .unset, .unset, .unset, .unset, .unset, .unset, .unset, .unset] [])
      refine rNewO hs X6 hx hZ hown (hw _ (List.mem_of_getElem? (i := 3) rfl)) (hw _ (List.mem_of_getElem? (i := 4) rfl)) (hw _ (List.mem_of_getElem? (i := 5) rfl)) rfl (hb hby at_92) (by decide) (by decide) (fun T31 h31 sa g31 X31 E31 E_sa D31 => ?_)
      have g_sa : n0 ≤ sa := by rw [g31]; exact Z0
      have Z0 := Nat.le_trans Z0 E31.1
      have ne_ca0_sa : ca0 ≠ sa := Nat.ne_of_lt (Nat.lt_of_lt_of_le V_ca0.lt (Nat.le_of_eq g31.symm))
      have ne_ca1_sa : ca1 ≠ sa := Nat.ne_of_lt (Nat.lt_of_lt_of_le V_ca1.lt (Nat.le_of_eq g31.symm))
      have ne_ca2_sa : ca2 ≠ sa := Nat.ne_of_lt (Nat.lt_of_lt_of_le V_ca2.lt (Nat.le_of_eq g31.symm))
      have O := O.ext E31
      have V_ca0 := V_ca0.ext E31
      have V_ca1 := V_ca1.ext E31
      have V_ca2 := V_ca2.ext E31
      have F_value_sa : Fld Z h31 sa "java/lang/String" "value" "[B" .null := D31 (Or.inr (hw _ (List.mem_of_getElem? (i := 18) rfl))) (ty := (.array .byte)) (by decide)
      have F_coder_sa : Fld Z h31 sa "java/lang/String" "coder" "B" (.int (0 : Int32)) := D31 (Or.inr (hw _ (List.mem_of_getElem? (i := 19) rfl))) (ty := .byte) (by decide)
      show G T31 (mkF m 95 #[.val (.int i1), .val (.int i2), .val (.int i3), .val (.int i4), .val (.long t5), .second, .val (.int kd), .val (.int fl), .val (.int (0 : Int32)), .val (.int ql), .val (.int c0), .val (.int c1), .val (.ref ca0), .val (.ref ca1), .val (.ref ca2), .unset, .unset, .unset, .unset, .unset, .unset, .unset, .unset, .unset, .unset] [(.ref sa)])
      refine hs.go (fun _ kk_ => XS.dup X31.here hx rfl (hb hby at_95) rfl rfl kk_) ?_
      show G T31 (mkF m 96 #[.val (.int i1), .val (.int i2), .val (.int i3), .val (.int i4), .val (.long t5), .second, .val (.int kd), .val (.int fl), .val (.int (0 : Int32)), .val (.int ql), .val (.int c0), .val (.int c1), .val (.ref ca0), .val (.ref ca1), .val (.ref ca2), .unset, .unset, .unset, .unset, .unset, .unset, .unset, .unset, .unset, .unset] [(.ref sa), (.ref sa)])
      refine hs.go (fun _ kk_ => XS.iload X31.here hx rfl (hb hby at_96) rfl  kk_) ?_
      show G T31 (mkF m 98 #[.val (.int i1), .val (.int i2), .val (.int i3), .val (.int i4), .val (.long t5), .second, .val (.int kd), .val (.int fl), .val (.int (0 : Int32)), .val (.int ql), .val (.int c0), .val (.int c1), .val (.ref ca0), .val (.ref ca1), .val (.ref ca2), .unset, .unset, .unset, .unset, .unset, .unset, .unset, .unset, .unset, .unset] [(.int (0 : Int32)), (.ref sa), (.ref sa)])
      refine hs.go (fun _ kk_ => XS.ifNo X31.here hx rfl (hb hby at_98) rfl ((if0 _ _).trans (teq (rfl : (0 : Int32) = (0 : Int32))).2) kk_) ?_
      show G T31 (mkF m 101 #[.val (.int i1), .val (.int i2), .val (.int i3), .val (.int i4), .val (.long t5), .second, .val (.int kd), .val (.int fl), .val (.int (0 : Int32)), .val (.int ql), .val (.int c0), .val (.int c1), .val (.ref ca0), .val (.ref ca1), .val (.ref ca2), .unset, .unset, .unset, .unset, .unset, .unset, .unset, .unset, .unset, .unset] [(.ref sa), (.ref sa)])
      refine hs.go (fun _ kk_ => XS.aload X31.here hx rfl (hb hby at_101) rfl rfl kk_) ?_
      show G T31 (mkF m 103 #[.val (.int i1), .val (.int i2), .val (.int i3), .val (.int i4), .val (.long t5), .second, .val (.int kd), .val (.int fl), .val (.int (0 : Int32)), .val (.int ql), .val (.int c0), .val (.int c1), .val (.ref ca0), .val (.ref ca1), .val (.ref ca2), .unset, .unset, .unset, .unset, .unset, .unset, .unset, .unset, .unset, .unset] [(.ref ca0), (.ref sa), (.ref sa)])
      refine hs.go (fun _ kk_ => XS.goto X31.here hx rfl (pc0 := 103) (pc' := 119) rfl (hb hby at_103) (by decide) (by decide) kk_) ?_
      show G T31 (mkF m 119 #[.val (.int i1), .val (.int i2), .val (.int i3), .val (.int i4), .val (.long t5), .second, .val (.int kd), .val (.int fl), .val (.int (0 : Int32)), .val (.int ql), .val (.int c0), .val (.int c1), .val (.ref ca0), .val (.ref ca1), .val (.ref ca2), .unset, .unset, .unset, .unset, .unset, .unset, .unset, .unset, .unset, .unset] [(.ref ca0), (.ref sa), (.ref sa)])
      refine rCallI hs X31 hx hZ (as' := [(.ref ca0)]) Jn.stb (i1_f l Z a0 hw [] sa ca0 k1 h31 n0 Z0 E_sa g_sa F_value_sa F_coder_sa V_ca0 O HC HW) rfl hown (hw _ (List.mem_of_getElem? (i := 6) rfl)) (hw _ (List.mem_of_getElem? (i := 7) rfl)) (hw _ (List.mem_of_getElem? (i := 5) rfl)) (hw _ (List.mem_of_getElem? (i := 8) rfl)) hy_1 rfl (by rw [hml]; rfl) [(.ref sa)] (lenOf pd_16 rfl) rfl 1 (by show 2 * 0 + _ ≤ _; exact Nat.le_of_eq rfl) (hb hby at_119) (by decide) (by decide) (by decide) (by decide) (fun r32 T32 h32 vm32 X32 q32 => ?_)
      obtain ⟨aL, bL, kL, rfl, Kc32, E_sa, F_value_sa, E_aL, F_value_aL, F_coder_aL, V_bL, hj32⟩ := q32
      have X32 := X32 _ hj32
      have O := O.keep Kc32 (allS g_sa all0)
      have V_ca1 := V_ca1.keep Kc32 (ninS ne_ca1_sa nin0)
      have V_ca2 := V_ca2.keep Kc32 (ninS ne_ca2_sa nin0)
      have Z0 := Nat.le_trans Z0 Kc32.1
      show G T32 (mkF m 122 #[.val (.int i1), .val (.int i2), .val (.int i3), .val (.int i4), .val (.long t5), .second, .val (.int kd), .val (.int fl), .val (.int (0 : Int32)), .val (.int ql), .val (.int c0), .val (.int c1), .val (.ref ca0), .val (.ref ca1), .val (.ref ca2), .unset, .unset, .unset, .unset, .unset, .unset, .unset, .unset, .unset, .unset] [(.ref sa)])
      exact J122 _ _ _ (X32.weak.more (by decide) (by decide)) Z0 O E_sa
    · subst e_
      show G T6 (mkF m 92 #[.val (.int i1), .val (.int i2), .val (.int i3), .val (.int i4), .val (.long t5), .second, .val (.int kd), .val (.int fl), .val (.int (1 : Int32)), .val (.int ql), .val (.int c0), .val (.int c1), .val (.ref ca0), .val (.ref ca1), .val (.ref ca2), .unset, .unset, .unset, .unset, .unset, .unset, .unset, .unset, .unset, .unset] [])
      refine rNewO hs X6 hx hZ hown (hw _ (List.mem_of_getElem? (i := 3) rfl)) (hw _ (List.mem_of_getElem? (i := 4) rfl)) (hw _ (List.mem_of_getElem? (i := 5) rfl)) rfl (hb hby at_92) (by decide) (by decide) (fun T33 h33 sa g33 X33 E33 E_sa D33 => ?_)
      have g_sa : n0 ≤ sa := by rw [g33]; exact Z0
      have Z0 := Nat.le_trans Z0 E33.1
      have ne_ca0_sa : ca0 ≠ sa := Nat.ne_of_lt (Nat.lt_of_lt_of_le V_ca0.lt (Nat.le_of_eq g33.symm))
      have ne_ca1_sa : ca1 ≠ sa := Nat.ne_of_lt (Nat.lt_of_lt_of_le V_ca1.lt (Nat.le_of_eq g33.symm))
      have ne_ca2_sa : ca2 ≠ sa := Nat.ne_of_lt (Nat.lt_of_lt_of_le V_ca2.lt (Nat.le_of_eq g33.symm))
      have O := O.ext E33
      have V_ca0 := V_ca0.ext E33
      have V_ca1 := V_ca1.ext E33
      have V_ca2 := V_ca2.ext E33
      have F_value_sa : Fld Z h33 sa "java/lang/String" "value" "[B" .null := D33 (Or.inr (hw _ (List.mem_of_getElem? (i := 18) rfl))) (ty := (.array .byte)) (by decide)
      have F_coder_sa : Fld Z h33 sa "java/lang/String" "coder" "B" (.int (0 : Int32)) := D33 (Or.inr (hw _ (List.mem_of_getElem? (i := 19) rfl))) (ty := .byte) (by decide)
      show G T33 (mkF m 95 #[.val (.int i1), .val (.int i2), .val (.int i3), .val (.int i4), .val (.long t5), .second, .val (.int kd), .val (.int fl), .val (.int (1 : Int32)), .val (.int ql), .val (.int c0), .val (.int c1), .val (.ref ca0), .val (.ref ca1), .val (.ref ca2), .unset, .unset, .unset, .unset, .unset, .unset, .unset, .unset, .unset, .unset] [(.ref sa)])
      refine hs.go (fun _ kk_ => XS.dup X33.here hx rfl (hb hby at_95) rfl rfl kk_) ?_
      show G T33 (mkF m 96 #[.val (.int i1), .val (.int i2), .val (.int i3), .val (.int i4), .val (.long t5), .second, .val (.int kd), .val (.int fl), .val (.int (1 : Int32)), .val (.int ql), .val (.int c0), .val (.int c1), .val (.ref ca0), .val (.ref ca1), .val (.ref ca2), .unset, .unset, .unset, .unset, .unset, .unset, .unset, .unset, .unset, .unset] [(.ref sa), (.ref sa)])
      refine hs.go (fun _ kk_ => XS.iload X33.here hx rfl (hb hby at_96) rfl  kk_) ?_
      show G T33 (mkF m 98 #[.val (.int i1), .val (.int i2), .val (.int i3), .val (.int i4), .val (.long t5), .second, .val (.int kd), .val (.int fl), .val (.int (1 : Int32)), .val (.int ql), .val (.int c0), .val (.int c1), .val (.ref ca0), .val (.ref ca1), .val (.ref ca2), .unset, .unset, .unset, .unset, .unset, .unset, .unset, .unset, .unset, .unset] [(.int (1 : Int32)), (.ref sa), (.ref sa)])
      refine hs.go (fun _ kk_ => XS.ifYes X33.here hx rfl (pc0 := 98) (pc' := 106) rfl (hb hby at_98) rfl ((if0 _ _).trans (feq ((by decide) : ¬ ((1 : Int32) = (0 : Int32)))).2) (by decide) (by decide) kk_) ?_
      show G T33 (mkF m 106 #[.val (.int i1), .val (.int i2), .val (.int i3), .val (.int i4), .val (.long t5), .second, .val (.int kd), .val (.int fl), .val (.int (1 : Int32)), .val (.int ql), .val (.int c0), .val (.int c1), .val (.ref ca0), .val (.ref ca1), .val (.ref ca2), .unset, .unset, .unset, .unset, .unset, .unset, .unset, .unset, .unset, .unset] [(.ref sa), (.ref sa)])
      refine hs.go (fun _ kk_ => XS.iload X33.here hx rfl (hb hby at_106) rfl  kk_) ?_
      show G T33 (mkF m 108 #[.val (.int i1), .val (.int i2), .val (.int i3), .val (.int i4), .val (.long t5), .second, .val (.int kd), .val (.int fl), .val (.int (1 : Int32)), .val (.int ql), .val (.int c0), .val (.int c1), .val (.ref ca0), .val (.ref ca1), .val (.ref ca2), .unset, .unset, .unset, .unset, .unset, .unset, .unset, .unset, .unset, .unset] [(.int (1 : Int32)), (.ref sa), (.ref sa)])
      refine hs.go (fun _ kk_ => XS.iconst X33.here hx rfl (hb hby at_108) kk_) ?_
      show G T33 (mkF m 109 #[.val (.int i1), .val (.int i2), .val (.int i3), .val (.int i4), .val (.long t5), .second, .val (.int kd), .val (.int fl), .val (.int (1 : Int32)), .val (.int ql), .val (.int c0), .val (.int c1), .val (.ref ca0), .val (.ref ca1), .val (.ref ca2), .unset, .unset, .unset, .unset, .unset, .unset, .unset, .unset, .unset, .unset] [(.int (1 : Int32)), (.int (1 : Int32)), (.ref sa), (.ref sa)])
      refine hs.go (fun _ kk_ => XS.icmpNo X33.here hx rfl (hb hby at_109) rfl (teq (rfl : (1 : Int32) = (1 : Int32))).2 kk_) ?_
      show G T33 (mkF m 112 #[.val (.int i1), .val (.int i2), .val (.int i3), .val (.int i4), .val (.long t5), .second, .val (.int kd), .val (.int fl), .val (.int (1 : Int32)), .val (.int ql), .val (.int c0), .val (.int c1), .val (.ref ca0), .val (.ref ca1), .val (.ref ca2), .unset, .unset, .unset, .unset, .unset, .unset, .unset, .unset, .unset, .unset] [(.ref sa), (.ref sa)])
      refine hs.go (fun _ kk_ => XS.aload X33.here hx rfl (hb hby at_112) rfl rfl kk_) ?_
      show G T33 (mkF m 114 #[.val (.int i1), .val (.int i2), .val (.int i3), .val (.int i4), .val (.long t5), .second, .val (.int kd), .val (.int fl), .val (.int (1 : Int32)), .val (.int ql), .val (.int c0), .val (.int c1), .val (.ref ca0), .val (.ref ca1), .val (.ref ca2), .unset, .unset, .unset, .unset, .unset, .unset, .unset, .unset, .unset, .unset] [(.ref ca1), (.ref sa), (.ref sa)])
      refine hs.go (fun _ kk_ => XS.goto X33.here hx rfl (pc0 := 114) (pc' := 119) rfl (hb hby at_114) (by decide) (by decide) kk_) ?_
      show G T33 (mkF m 119 #[.val (.int i1), .val (.int i2), .val (.int i3), .val (.int i4), .val (.long t5), .second, .val (.int kd), .val (.int fl), .val (.int (1 : Int32)), .val (.int ql), .val (.int c0), .val (.int c1), .val (.ref ca0), .val (.ref ca1), .val (.ref ca2), .unset, .unset, .unset, .unset, .unset, .unset, .unset, .unset, .unset, .unset] [(.ref ca1), (.ref sa), (.ref sa)])
      refine rCallI hs X33 hx hZ (as' := [(.ref ca1)]) Jn.stb (i1_1 l Z a0 hw [] ((Jn Z [])) Jn.stb sa ca1 c0 k2 h33 n0 Z0 O cw S0 hcw E_sa g_sa F_value_sa F_coder_sa V_ca1 (own_hx hc0)) rfl hown (hw _ (List.mem_of_getElem? (i := 6) rfl)) (hw _ (List.mem_of_getElem? (i := 7) rfl)) (hw _ (List.mem_of_getElem? (i := 5) rfl)) (hw _ (List.mem_of_getElem? (i := 8) rfl)) hy_1 rfl (by rw [hml]; rfl) [(.ref sa)] (lenOf pd_16 rfl) rfl 1 (by show 2 * 0 + _ ≤ _; exact Nat.le_of_eq rfl) (hb hby at_119) (by decide) (by decide) (by decide) (by decide) (fun r34 T34 h34 vm34 X34 q34 => ?_)
      obtain ⟨rfl, Kc34, E_sa, ⟨vb_sa, kv_sa, vv_sa, F_value_sa, V_vb_sa⟩, hj34⟩ := q34
      have X34 := X34 _ hj34
      have O := O.keep Kc34 (allS g_sa all0)
      have V_ca0 := V_ca0.keep Kc34 (ninS ne_ca0_sa nin0)
      have V_ca2 := V_ca2.keep Kc34 (ninS ne_ca2_sa nin0)
      have Z0 := Nat.le_trans Z0 Kc34.1
      show G T34 (mkF m 122 #[.val (.int i1), .val (.int i2), .val (.int i3), .val (.int i4), .val (.long t5), .second, .val (.int kd), .val (.int fl), .val (.int (1 : Int32)), .val (.int ql), .val (.int c0), .val (.int c1), .val (.ref ca0), .val (.ref ca1), .val (.ref ca2), .unset, .unset, .unset, .unset, .unset, .unset, .unset, .unset, .unset, .unset] [(.ref sa)])
      exact J122 _ _ _ (X34.weak.more (by decide) (by decide)) Z0 O E_sa
    · subst e_
      show G T6 (mkF m 92 #[.val (.int i1), .val (.int i2), .val (.int i3), .val (.int i4), .val (.long t5), .second, .val (.int kd), .val (.int fl), .val (.int (2 : Int32)), .val (.int ql), .val (.int c0), .val (.int c1), .val (.ref ca0), .val (.ref ca1), .val (.ref ca2), .unset, .unset, .unset, .unset, .unset, .unset, .unset, .unset, .unset, .unset] [])
      refine rNewO hs X6 hx hZ hown (hw _ (List.mem_of_getElem? (i := 3) rfl)) (hw _ (List.mem_of_getElem? (i := 4) rfl)) (hw _ (List.mem_of_getElem? (i := 5) rfl)) rfl (hb hby at_92) (by decide) (by decide) (fun T35 h35 sa g35 X35 E35 E_sa D35 => ?_)
      have g_sa : n0 ≤ sa := by rw [g35]; exact Z0
      have Z0 := Nat.le_trans Z0 E35.1
      have ne_ca0_sa : ca0 ≠ sa := Nat.ne_of_lt (Nat.lt_of_lt_of_le V_ca0.lt (Nat.le_of_eq g35.symm))
      have ne_ca1_sa : ca1 ≠ sa := Nat.ne_of_lt (Nat.lt_of_lt_of_le V_ca1.lt (Nat.le_of_eq g35.symm))
      have ne_ca2_sa : ca2 ≠ sa := Nat.ne_of_lt (Nat.lt_of_lt_of_le V_ca2.lt (Nat.le_of_eq g35.symm))
      have O := O.ext E35
      have V_ca0 := V_ca0.ext E35
      have V_ca1 := V_ca1.ext E35
      have V_ca2 := V_ca2.ext E35
      have F_value_sa : Fld Z h35 sa "java/lang/String" "value" "[B" .null := D35 (Or.inr (hw _ (List.mem_of_getElem? (i := 18) rfl))) (ty := (.array .byte)) (by decide)
      have F_coder_sa : Fld Z h35 sa "java/lang/String" "coder" "B" (.int (0 : Int32)) := D35 (Or.inr (hw _ (List.mem_of_getElem? (i := 19) rfl))) (ty := .byte) (by decide)
      show G T35 (mkF m 95 #[.val (.int i1), .val (.int i2), .val (.int i3), .val (.int i4), .val (.long t5), .second, .val (.int kd), .val (.int fl), .val (.int (2 : Int32)), .val (.int ql), .val (.int c0), .val (.int c1), .val (.ref ca0), .val (.ref ca1), .val (.ref ca2), .unset, .unset, .unset, .unset, .unset, .unset, .unset, .unset, .unset, .unset] [(.ref sa)])
      refine hs.go (fun _ kk_ => XS.dup X35.here hx rfl (hb hby at_95) rfl rfl kk_) ?_
      show G T35 (mkF m 96 #[.val (.int i1), .val (.int i2), .val (.int i3), .val (.int i4), .val (.long t5), .second, .val (.int kd), .val (.int fl), .val (.int (2 : Int32)), .val (.int ql), .val (.int c0), .val (.int c1), .val (.ref ca0), .val (.ref ca1), .val (.ref ca2), .unset, .unset, .unset, .unset, .unset, .unset, .unset, .unset, .unset, .unset] [(.ref sa), (.ref sa)])
      refine hs.go (fun _ kk_ => XS.iload X35.here hx rfl (hb hby at_96) rfl  kk_) ?_
      show G T35 (mkF m 98 #[.val (.int i1), .val (.int i2), .val (.int i3), .val (.int i4), .val (.long t5), .second, .val (.int kd), .val (.int fl), .val (.int (2 : Int32)), .val (.int ql), .val (.int c0), .val (.int c1), .val (.ref ca0), .val (.ref ca1), .val (.ref ca2), .unset, .unset, .unset, .unset, .unset, .unset, .unset, .unset, .unset, .unset] [(.int (2 : Int32)), (.ref sa), (.ref sa)])
      refine hs.go (fun _ kk_ => XS.ifYes X35.here hx rfl (pc0 := 98) (pc' := 106) rfl (hb hby at_98) rfl ((if0 _ _).trans (feq ((by decide) : ¬ ((2 : Int32) = (0 : Int32)))).2) (by decide) (by decide) kk_) ?_
      show G T35 (mkF m 106 #[.val (.int i1), .val (.int i2), .val (.int i3), .val (.int i4), .val (.long t5), .second, .val (.int kd), .val (.int fl), .val (.int (2 : Int32)), .val (.int ql), .val (.int c0), .val (.int c1), .val (.ref ca0), .val (.ref ca1), .val (.ref ca2), .unset, .unset, .unset, .unset, .unset, .unset, .unset, .unset, .unset, .unset] [(.ref sa), (.ref sa)])
      refine hs.go (fun _ kk_ => XS.iload X35.here hx rfl (hb hby at_106) rfl  kk_) ?_
      show G T35 (mkF m 108 #[.val (.int i1), .val (.int i2), .val (.int i3), .val (.int i4), .val (.long t5), .second, .val (.int kd), .val (.int fl), .val (.int (2 : Int32)), .val (.int ql), .val (.int c0), .val (.int c1), .val (.ref ca0), .val (.ref ca1), .val (.ref ca2), .unset, .unset, .unset, .unset, .unset, .unset, .unset, .unset, .unset, .unset] [(.int (2 : Int32)), (.ref sa), (.ref sa)])
      refine hs.go (fun _ kk_ => XS.iconst X35.here hx rfl (hb hby at_108) kk_) ?_
      show G T35 (mkF m 109 #[.val (.int i1), .val (.int i2), .val (.int i3), .val (.int i4), .val (.long t5), .second, .val (.int kd), .val (.int fl), .val (.int (2 : Int32)), .val (.int ql), .val (.int c0), .val (.int c1), .val (.ref ca0), .val (.ref ca1), .val (.ref ca2), .unset, .unset, .unset, .unset, .unset, .unset, .unset, .unset, .unset, .unset] [(.int (1 : Int32)), (.int (2 : Int32)), (.ref sa), (.ref sa)])
      refine hs.go (fun _ kk_ => XS.icmpYes X35.here hx rfl (pc0 := 109) (pc' := 117) rfl (hb hby at_109) rfl (feq ((by decide) : ¬ ((2 : Int32) = (1 : Int32)))).2 (by decide) (by decide) kk_) ?_
      show G T35 (mkF m 117 #[.val (.int i1), .val (.int i2), .val (.int i3), .val (.int i4), .val (.long t5), .second, .val (.int kd), .val (.int fl), .val (.int (2 : Int32)), .val (.int ql), .val (.int c0), .val (.int c1), .val (.ref ca0), .val (.ref ca1), .val (.ref ca2), .unset, .unset, .unset, .unset, .unset, .unset, .unset, .unset, .unset, .unset] [(.ref sa), (.ref sa)])
      refine hs.go (fun _ kk_ => XS.aload X35.here hx rfl (hb hby at_117) rfl rfl kk_) ?_
      show G T35 (mkF m 119 #[.val (.int i1), .val (.int i2), .val (.int i3), .val (.int i4), .val (.long t5), .second, .val (.int kd), .val (.int fl), .val (.int (2 : Int32)), .val (.int ql), .val (.int c0), .val (.int c1), .val (.ref ca0), .val (.ref ca1), .val (.ref ca2), .unset, .unset, .unset, .unset, .unset, .unset, .unset, .unset, .unset, .unset] [(.ref ca2), (.ref sa), (.ref sa)])
      refine rCallI hs X35 hx hZ (as' := [(.ref ca2)]) Jn.stb (i1_2 l Z a0 hw [] ((Jn Z [])) Jn.stb sa ca2 c0 c1 k4 h35 n0 Z0 O cw S0 hcw E_sa g_sa F_value_sa F_coder_sa V_ca2 (own_hx hc0) (own_hx hc1)) rfl hown (hw _ (List.mem_of_getElem? (i := 6) rfl)) (hw _ (List.mem_of_getElem? (i := 7) rfl)) (hw _ (List.mem_of_getElem? (i := 5) rfl)) (hw _ (List.mem_of_getElem? (i := 8) rfl)) hy_1 rfl (by rw [hml]; rfl) [(.ref sa)] (lenOf pd_16 rfl) rfl 1 (by show 2 * 0 + _ ≤ _; exact Nat.le_of_eq rfl) (hb hby at_119) (by decide) (by decide) (by decide) (by decide) (fun r36 T36 h36 vm36 X36 q36 => ?_)
      obtain ⟨rfl, Kc36, E_sa, ⟨vb_sa, kv_sa, vv_sa, F_value_sa, V_vb_sa⟩, hj36⟩ := q36
      have X36 := X36 _ hj36
      have O := O.keep Kc36 (allS g_sa all0)
      have V_ca0 := V_ca0.keep Kc36 (ninS ne_ca0_sa nin0)
      have V_ca1 := V_ca1.keep Kc36 (ninS ne_ca1_sa nin0)
      have Z0 := Nat.le_trans Z0 Kc36.1
      show G T36 (mkF m 122 #[.val (.int i1), .val (.int i2), .val (.int i3), .val (.int i4), .val (.long t5), .second, .val (.int kd), .val (.int fl), .val (.int (2 : Int32)), .val (.int ql), .val (.int c0), .val (.int c1), .val (.ref ca0), .val (.ref ca1), .val (.ref ca2), .unset, .unset, .unset, .unset, .unset, .unset, .unset, .unset, .unset, .unset] [(.ref sa)])
      exact J122 _ _ _ (X36.weak.more (by decide) (by decide)) Z0 O E_sa
  refine hs.go (fun _ kk_ => XS.iloadN X0.here hx rfl (hb hby at_8) rfl  kk_) ?_
  show G s₁ (mkF m 9 #[.val (.int i1), .val (.int i2), .val (.int i3), .val (.int i4), .val (.long t5), .second, .val (.int kd), .unset, .unset, .unset, .unset, .unset, .unset, .unset, .unset, .unset, .unset, .unset, .unset, .unset, .unset, .unset, .unset, .unset, .unset] [(.int i1)])
  refine hs.go (fun _ kk_ => XS.bipush X0.here hx rfl (hb hby at_9) kk_) ?_
  show G s₁ (mkF m 11 #[.val (.int i1), .val (.int i2), .val (.int i3), .val (.int i4), .val (.long t5), .second, .val (.int kd), .unset, .unset, .unset, .unset, .unset, .unset, .unset, .unset, .unset, .unset, .unset, .unset, .unset, .unset, .unset, .unset, .unset, .unset] [(.int (16 : Int32)), (.int i1)])
  refine hs.go (fun _ kk_ => XS.iushr X0.here hx rfl (hb hby at_11) rfl kk_) ?_
  show G s₁ (mkF m 12 #[.val (.int i1), .val (.int i2), .val (.int i3), .val (.int i4), .val (.long t5), .second, .val (.int kd), .unset, .unset, .unset, .unset, .unset, .unset, .unset, .unset, .unset, .unset, .unset, .unset, .unset, .unset, .unset, .unset, .unset, .unset] [(.int ((i1.toUInt32 >>> ((16 : Int32) &&& 31).toUInt32).toInt32))])
  refine hs.go (fun _ kk_ => XS.iconst X0.here hx rfl (hb hby at_12) kk_) ?_
  show G s₁ (mkF m 13 #[.val (.int i1), .val (.int i2), .val (.int i3), .val (.int i4), .val (.long t5), .second, .val (.int kd), .unset, .unset, .unset, .unset, .unset, .unset, .unset, .unset, .unset, .unset, .unset, .unset, .unset, .unset, .unset, .unset, .unset, .unset] [(.int (1 : Int32)), (.int ((i1.toUInt32 >>> ((16 : Int32) &&& 31).toUInt32).toInt32))])
  refine hs.go (fun _ kk_ => XS.iand X0.here hx rfl (hb hby at_13) rfl kk_) ?_
  show G s₁ (mkF m 14 #[.val (.int i1), .val (.int i2), .val (.int i3), .val (.int i4), .val (.long t5), .second, .val (.int kd), .unset, .unset, .unset, .unset, .unset, .unset, .unset, .unset, .unset, .unset, .unset, .unset, .unset, .unset, .unset, .unset, .unset, .unset] [(.int (((i1.toUInt32 >>> ((16 : Int32) &&& 31).toUInt32).toInt32) &&& (1 : Int32)))])
  by_cases c14 : (((i1.toUInt32 >>> ((16 : Int32) &&& 31).toUInt32).toInt32) &&& (1 : Int32)) = (0 : Int32)
  · refine hs.go (fun _ kk_ => XS.ifYes X0.here hx rfl (pc0 := 14) (pc' := 21) rfl (hb hby at_14) rfl ((if0 _ _).trans (teq c14).1) (by decide) (by decide) kk_) ?_
    show G s₁ (mkF m 21 #[.val (.int i1), .val (.int i2), .val (.int i3), .val (.int i4), .val (.long t5), .second, .val (.int kd), .unset, .unset, .unset, .unset, .unset, .unset, .unset, .unset, .unset, .unset, .unset, .unset, .unset, .unset, .unset, .unset, .unset, .unset] [])
    refine hs.go (fun _ kk_ => XS.iconst X0.here hx rfl (hb hby at_21) kk_) ?_
    show G s₁ (mkF m 22 #[.val (.int i1), .val (.int i2), .val (.int i3), .val (.int i4), .val (.long t5), .second, .val (.int kd), .unset, .unset, .unset, .unset, .unset, .unset, .unset, .unset, .unset, .unset, .unset, .unset, .unset, .unset, .unset, .unset, .unset, .unset] [(.int (0 : Int32))])
    exact J22 _ (Or.inl (⟨c14, rfl⟩))
  · refine hs.go (fun _ kk_ => XS.ifNo X0.here hx rfl (hb hby at_14) rfl ((if0 _ _).trans (feq c14).1) kk_) ?_
    show G s₁ (mkF m 17 #[.val (.int i1), .val (.int i2), .val (.int i3), .val (.int i4), .val (.long t5), .second, .val (.int kd), .unset, .unset, .unset, .unset, .unset, .unset, .unset, .unset, .unset, .unset, .unset, .unset, .unset, .unset, .unset, .unset, .unset, .unset] [])
    refine hs.go (fun _ kk_ => XS.iconst X0.here hx rfl (hb hby at_17) kk_) ?_
    show G s₁ (mkF m 18 #[.val (.int i1), .val (.int i2), .val (.int i3), .val (.int i4), .val (.long t5), .second, .val (.int kd), .unset, .unset, .unset, .unset, .unset, .unset, .unset, .unset, .unset, .unset, .unset, .unset, .unset, .unset, .unset, .unset, .unset, .unset] [(.int (1 : Int32))])
    refine hs.go (fun _ kk_ => XS.goto X0.here hx rfl (pc0 := 18) (pc' := 22) rfl (hb hby at_18) (by decide) (by decide) kk_) ?_
    show G s₁ (mkF m 22 #[.val (.int i1), .val (.int i2), .val (.int i3), .val (.int i4), .val (.long t5), .second, .val (.int kd), .unset, .unset, .unset, .unset, .unset, .unset, .unset, .unset, .unset, .unset, .unset, .unset, .unset, .unset, .unset, .unset, .unset, .unset] [(.int (1 : Int32))])
    exact J22 _ (Or.inr (⟨c14, rfl⟩))
set_option maxRecDepth 65536 in
set_option maxHeartbeats 40000000 in
theorem comes_1 {Post : Tables → Env → Array Value → State → Outcome → State → Prop} (hpost : ∀ tb e args s v u, (limb_1_1.after args s (.returned v) u = true ∧ limb_1_2.after args s (.returned v) u = true ∧ True) → ReturnedEndW s (.returned v) u (Jvm.fieldLocs frame_1_writes args s ++ Jvm.arrayLocs frame_1_arrays args s ++ Jvm.staticLocs frame_1_statics s) 40 2176 → Post tb e args s (.returned v) u) :
    ArmFor flags0 classFile x code maxLocals ret World_1 tables_1 room_1 Calls_1 rest_1 Pre_1 Post := by
  intro l hfl _ _ p e ha hc hk s m args below hf hA hF happ hP
  obtain ⟨hcalls, hrest, hpre⟩ := hP
  obtain ⟨-, -, -, hnamed, -, -, -, hat⟩ := (Spec.applies_iff hf).mp happ
  obtain ⟨hg, hn⟩ := and_e (Cond.before_iff.mp (show (Jvm.Cond.and given_1 narrow_1).before args s = true from hpre))
  obtain ⟨hcnt, hg0⟩ := and_e hg
  obtain ⟨t0, hg1⟩ := and_e hg0
  obtain ⟨t1, hg2⟩ := and_e hg1
  obtain ⟨t2, hg3⟩ := and_e hg2
  obtain ⟨t3, hg4⟩ := and_e hg3
  have t4 := hg4
  obtain ⟨w0, w1, w2, w3, w4, rfl⟩ : ∃ w0 w1 w2 w3 w4 : Value, args = #[w0, w1, w2, w3, w4] := by
    have hs : args.size = 5 := by simpa [Cond.value, given_1] using hcnt
    obtain ⟨L⟩ := args
    match L, hs with
    | [w0, w1, w2, w3, w4], _ => exact ⟨w0, w1, w2, w3, w4, rfl⟩
  have hw := fun d (hd : d ∈ tables_1) => atoms_spec (ws := Jvm.Cond.code x code maxLocals ret :: tables_1) hat d (List.mem_cons_of_mem _ hd)
  have hfit : Fit s := fun {y c} hc i hi => by
    obtain ⟨ha, rfl⟩ := Array.getElem?_eq_some_iff.mp hc
    have q := List.all_eq_true.mp ((Array.all_eq_true_iff_forall_mem.mp hF) _ (Array.getElem_mem ha)) i (List.mem_range.mpr hi)
    simpa [Array.getElem?_eq_getElem hi] using q
  obtain ⟨i0, ei0⟩ := is_v t0
  obtain rfl : w0 = (.int i0) := Option.some.inj ei0
  obtain ⟨i1, ei1⟩ := is_v t1
  obtain rfl : w1 = (.int i1) := Option.some.inj ei1
  obtain ⟨i2, ei2⟩ := is_v t2
  obtain rfl : w2 = (.int i2) := Option.some.inj ei2
  obtain ⟨i3, ei3⟩ := is_v t3
  obtain rfl : w3 = (.int i3) := Option.some.inj ei3
  obtain ⟨i4, ei4⟩ := isL_v t4
  obtain rfl : w4 = (.long i4) := Option.some.inj ei4
  obtain ⟨hsets, -⟩ := atoms_of _ (rest_1_c_eq ▸ (show rest_1_c.before _ s = true from hrest))
  have HW : Jvm.Lit.compactW.before _ s = true := hsets _ (List.mem_of_getElem? (i := 2) rfl)
  obtain ⟨cw, ecw⟩ := is_v (Cond.before_iff.mp (hsets _ (List.mem_of_getElem? (i := 1) rfl)))
  have S0 : Sta s s.heap "java/lang/String" "COMPACT_STRINGS" "Z" (.int cw) := Sta.start ecw (Or.inl (hsets _ (List.mem_of_getElem? (i := 0) rfl)))
  have hcw : ¬ (cw = (0 : Int32)) := gotF (Cond.eq_ints ecw (Term.int_eval (0))) (not_v (Cond.before_iff.mp (hsets _ (List.mem_of_getElem? (i := 2) rfl))))
  obtain ⟨n1, hn1⟩ := and_e hn
  obtain ⟨n2, n3⟩ := and_e hn1
  obtain ⟨ro, er⟩ := exa_v n1
  obtain ⟨rc, ec⟩ := exa_v n2
  have R0 := Sta.start er (Or.inr ⟨(hw _ (List.mem_of_getElem? (i := 26) rfl)), (hw _ (List.mem_of_getElem? (i := 29) rfl))⟩)
  have E_ro := Exa.start er n1
  have F_columns_ro := Fld.start ((fld_at er).symm.trans ec)
  have F_family_rc := Fld.start ((fld_at ec).symm.trans (null_v n3))
  obtain ⟨n, o, h1, h2, h3, _, L, rfl, ⟨rfl, N⟩, hq⟩ := rm0 l s _ hw tables_1 i0 i1 i2 i3 i4  s.heap s.heap.size (Nat.le_refl _) (Old.start s) cw S0 hcw (hcalls.1 _ (List.mem_of_getElem? (i := 1) rfl)) HW ro rc R0 E_ro F_columns_ro F_family_rc p e ha hc hk s m _ below hf ((Spec.applies_iff_loose hf).mp happ).1 ⟨rfl, State.Warmed39.refl s, rfl, IB.start⟩ trivial
  refine ⟨n, _, h1, h2, h3, hpost _ _ _ _ _ _ ⟨Cond.after_iff.mpr rfl, Cond.after_iff.mpr (eq_i res_at (Term.int_eval (1)) rfl), trivial⟩ ⟨hq.1, hq.2.1, hq.2.2.1, (hq.2.2.2.sift fun y hy => Or.inr (N y hy)).mono (by decide) (by decide)⟩⟩
theorem main_1_1 : Claimed_1_1 := comes_1 fun _ _ _ _ _ _ h hF => ⟨h.1, hF⟩
theorem main_1_2 : Claimed_1_2 := comes_1 fun _ _ _ _ _ _ h hF => ⟨h.2.1, hF⟩
end Jvm.Pilot.@@N@@
namespace Jvm.Pilot.@@N@@
open Jvm Jvm.ClassFile Sem Op Lib Jvm.Free Jvm.Stand Jvm.Pilot.@@N@@.Jvm.D
/-! MADE BY PROGRAM (witnessworld.py) out of the Statement's table words and the real class files: 26 classes; the members and pool entries that the words name. The judged class is class 1, her method 1. -/
namespace start1
open Jvm.ClassFile
def u (s : String) : CpInfo := .utf8 (stringToUtf16 s)
/-- a pool by its gaps: so many unusable entries, then the entry; so many at the end -/
def gap : Nat → List CpInfo → List CpInfo
  | 0, r => r
  | n + 1, r => .unusable :: gap n r
def poolList (es : List (Nat × CpInfo)) (last : Nat) : List CpInfo := es.foldr (fun e r => gap e.1 (e.2 :: r)) (gap last [])
def pool (es : List (Nat × CpInfo)) (last : Nat) : Array CpInfo := ⟨poolList es last⟩
def fileOf (pool : Array CpInfo) (this : Nat) (attrs : Array Attribute := #[]) (ms : Array MethodInfo := #[]) (fl : Nat := 33) (sup : Nat := 0) (ifs : Array Nat := #[]) (fds : Array FieldInfo := #[]) : ClassFile where
  minorVersion := 0
  majorVersion := 65
  constantPool := pool
  accessFlags := fl
  thisClass := this
  superClass := sup
  interfaces := ifs
  fields := fds
  methods := ms
  attributes := attrs
def plain (name : String) (sup : Option ClassId) : Class where
  name := name
  kind := .ordinary
  loader := none
  accessFlags := 33
  super := sup
  interfaces := #[]
  cf := none
  fields := #[]
  methods := #[]
  instanceTypes := #[]
  staticTypes := #[]
  resolved := #[]
  callSites := []
  init := .initialized
  statics := none
  mirror := none

def pool0 : Array CpInfo := pool [(5, u "<init>"), (0, u "()V"), (1, .class_ 10), (1, u "java/lang/Object"), (85, u "clone"), (0, u "()Ljava/lang/Object;")] 26

def k0c0 : Code := { maxStack := 0, maxLocals := 1, code := object_method_1_code, exceptionTable := #[], attributes := #[] }
def k0m0 : Method := { name := "<init>", desc := "()V", sig := { parameters := [], returnType := none }, accessFlags := 1, code := some k0c0 }
def k0m1 : Method := { name := "clone", desc := "()Ljava/lang/Object;", sig := { parameters := [], returnType := some (.object "java/lang/Object") }, accessFlags := 260, code := none }
/-- java/lang/Object -/
def k0 : Class := { plain "java/lang/Object" none with
  accessFlags := 33
  interfaces := #[]
  cf := some (fileOf pool0 8 #[] #[{ accessFlags := 1, nameIndex := 5, descriptorIndex := 6, attributes := #[] }, { accessFlags := 260, nameIndex := 96, descriptorIndex := 97, attributes := #[] }] 33 0 #[] #[])
  fields := #[]
  methods := #[k0m0, k0m1]
  instanceTypes := #[]
  staticTypes := #[]
  resolved := Array.replicate 124 none
  statics := none }

def pool1 : Array CpInfo := pool [(2, .class_ 4), (1, u "java/lang/Object"), (0, u "<init>"), (0, u "()V"), (0, .integer 2147483647), (0, .integer 8388607), (0, .class_ 10), (0, u "java/lang/String"), (0, .methodref 9 12), (0, .nameAndType 5 13), (0, u "([C)V"), (0, .methodref 15 16), (0, .class_ 17), (0, .nameAndType 18 19), (0, u "com/example/rowcall/rowcall/DeleteMarker"), (0, u "row"), (0, u "()Lcom/example/rowcall/rowcall/DeleteMarker;"), (0, .methodref 15 21), (0, .nameAndType 22 23), (0, u "family"), (0, u "(Ljava/lang/String;)Lcom/example/rowcall/rowcall/DeleteMarker;"), (0, .methodref 15 25), (0, .nameAndType 26 27), (0, u "column"), (0, u "(Ljava/lang/String;[B)Lcom/example/rowcall/rowcall/DeleteMarker;"), (2, .long 9223372036854775807), (1, .methodref 15 33), (0, .nameAndType 34 35), (0, u "at"), (0, u "(J)Lcom/example/rowcall/rowcall/DeleteMarker;"), (0, .methodref 37 38), (0, .class_ 39), (0, .nameAndType 40 41), (0, u "com/example/rowcall/rowcall/TableFiles"), (0, u "markerKind"), (0, u "(Lcom/example/rowcall/rowcall/DeleteMarker;)B"), (0, .methodref 37 43), (0, .nameAndType 44 45), (0, u "isMarkerKind"), (0, u "(B)Z"), (0, .class_ 47), (0, u "com/example/rowcall/rowcall/TableFilesMarkerKindPinLaw"), (2, u "law"), (0, u "(IIIIJ)Z")] 7

def k1m0 : Method := { name := "<init>", desc := "()V", sig := { parameters := [], returnType := none }, accessFlags := 1, code := none }
def k1c1 : Code := { maxStack := 5, maxLocals := 25, code := code, exceptionTable := #[], attributes := #[] }
def k1m1 : Method := { name := "law", desc := "(IIIIJ)Z", sig := { parameters := [.int, .int, .int, .int, .long], returnType := some .boolean }, accessFlags := 9, code := some k1c1 }
/-- com/example/rowcall/rowcall/TableFilesMarkerKindPinLaw -/
def k1 : Class := { plain "com/example/rowcall/rowcall/TableFilesMarkerKindPinLaw" (some 0) with
  accessFlags := 49
  interfaces := #[]
  cf := some (fileOf pool1 46 #[] #[{ accessFlags := 1, nameIndex := 5, descriptorIndex := 6, attributes := #[] }, { accessFlags := 9, nameIndex := 50, descriptorIndex := 51, attributes := #[] }] 49 2 #[] #[])
  fields := #[]
  methods := #[k1m0, k1m1]
  instanceTypes := #[]
  staticTypes := #[]
  resolved := Array.replicate 59 none
  statics := none }

def pool2 : Array CpInfo := pool [(1, .class_ 2), (0, u "java/io/Serializable"), (0, .class_ 4), (0, u "java/lang/Object")] 2

/-- java/io/Serializable -/
def k2 : Class := { plain "java/io/Serializable" (some 0) with
  accessFlags := 1537
  interfaces := #[]
  cf := some (fileOf pool2 1 #[] #[] 1537 3 #[] #[])
  fields := #[]
  methods := #[]
  instanceTypes := #[]
  staticTypes := #[]
  resolved := Array.replicate 7 none
  statics := none }

def pool3 : Array CpInfo := pool [(1, .class_ 2), (0, u "java/lang/Comparable"), (0, .class_ 4), (0, u "java/lang/Object")] 7

/-- java/lang/Comparable -/
def k3 : Class := { plain "java/lang/Comparable" (some 0) with
  accessFlags := 1537
  interfaces := #[]
  cf := some (fileOf pool3 1 #[] #[] 1537 3 #[] #[])
  fields := #[]
  methods := #[]
  instanceTypes := #[]
  staticTypes := #[]
  resolved := Array.replicate 12 none
  statics := none }

def pool4 : Array CpInfo := pool [(2, .class_ 4), (1, u "java/lang/CharSequence"), (42, .class_ 48), (0, u "java/lang/CharSequence$1CodePointIterator"), (10, .class_ 60), (0, u "java/lang/CharSequence$1CharIterator"), (5, .class_ 67), (0, u "java/lang/Object")] 63

/-- java/lang/CharSequence -/
def k4 : Class := { plain "java/lang/CharSequence" (some 0) with
  accessFlags := 1537
  interfaces := #[]
  cf := some (fileOf pool4 2 #[.nestMembers #[47, 59]] #[] 1537 66 #[] #[])
  fields := #[]
  methods := #[]
  instanceTypes := #[]
  staticTypes := #[]
  resolved := Array.replicate 131 none
  statics := none }

def pool5 : Array CpInfo := pool [(1, .class_ 2), (0, u "java/lang/constant/Constable"), (0, .class_ 4), (0, u "java/lang/Object")] 6

/-- java/lang/constant/Constable -/
def k5 : Class := { plain "java/lang/constant/Constable" (some 0) with
  accessFlags := 1537
  interfaces := #[]
  cf := some (fileOf pool5 1 #[] #[] 1537 3 #[] #[])
  fields := #[]
  methods := #[]
  instanceTypes := #[]
  staticTypes := #[]
  resolved := Array.replicate 11 none
  statics := none }

def pool6 : Array CpInfo := pool [(1, .class_ 2), (0, u "java/lang/constant/ConstantDesc"), (0, .class_ 4), (0, u "java/lang/Object")] 32

/-- java/lang/constant/ConstantDesc -/
def k6 : Class := { plain "java/lang/constant/ConstantDesc" (some 0) with
  accessFlags := 1537
  interfaces := #[]
  cf := some (fileOf pool6 1 #[] #[] 1537 3 #[] #[])
  fields := #[]
  methods := #[]
  instanceTypes := #[]
  staticTypes := #[]
  resolved := Array.replicate 37 none
  statics := none }

def pool7 : Array CpInfo := pool [(1, .methodref 2 3), (0, .class_ 4), (0, .nameAndType 5 6), (0, u "java/lang/Object"), (0, u "<init>"), (0, u "()V"), (0, .string 8), (0, u ""), (0, .fieldref 10 11), (0, .class_ 12), (0, .nameAndType 13 14), (0, u "java/lang/String"), (0, u "value"), (0, u "[B"), (0, .fieldref 10 16), (0, .nameAndType 17 18), (0, u "coder"), (0, u "B"), (2, u "hash"), (0, u "I"), (2, u "hashIsZero"), (0, u "Z"), (0, .methodref 10 28), (0, .nameAndType 5 29), (0, u "([CIILjava/lang/Void;)V"), (8, .fieldref 10 39), (0, .nameAndType 40 26), (0, u "COMPACT_STRINGS"), (1, .class_ 44), (1, u "java/lang/StringUTF16"), (0, u "compress"), (1, .methodref 42 48), (0, .nameAndType 49 50), (0, u "coderFromArrayLen"), (0, u "([BI)B"), (126, .methodref 42 178), (0, .nameAndType 45 179), (0, u "([CII)[B"), (395, .class_ 576), (0, u "java/lang/CharSequence"), (22, u "CASE_INSENSITIVE_ORDER"), (0, u "Ljava/util/Comparator;"), (409, u "([C)V"), (90, u "serialPersistentFields"), (0, u "[Ljava/io/ObjectStreamField;"), (0, .class_ 1104), (0, u "java/lang/String$CaseInsensitiveComparator"), (1, .class_ 1107), (0, u "java/io/Serializable"), (0, .class_ 1109), (0, u "java/lang/Comparable"), (0, .class_ 1111), (0, u "java/lang/constant/Constable"), (0, .class_ 1113), (0, u "java/lang/constant/ConstantDesc"), (2, u "serialVersionUID"), (0, u "J"), (3, u "REPL"), (0, u "C"), (2, u "LATIN1"), (1, u "UTF16")] 323

def k7m0 : Method := { name := "<init>", desc := "()V", sig := { parameters := [], returnType := none }, accessFlags := 1, code := none }
def k7c1 : Code := { maxStack := 5, maxLocals := 2, code := jdk_42_method_3_code, exceptionTable := #[], attributes := #[] }
def k7m1 : Method := { name := "<init>", desc := "([C)V", sig := { parameters := [(.array .char)], returnType := none }, accessFlags := 1, code := some k7c1 }
def k7c2 : Code := { maxStack := 4, maxLocals := 6, code := jdk_42_method_149_code, exceptionTable := #[], attributes := #[] }
def k7m2 : Method := { name := "<init>", desc := "([CIILjava/lang/Void;)V", sig := { parameters := [(.array .char), .int, .int, (.object "java/lang/Void")], returnType := none }, accessFlags := 2, code := some k7c2 }
/-- java/lang/String -/
def k7 : Class := { plain "java/lang/String" (some 0) with
  accessFlags := 49
  interfaces := #[2, 3, 4, 5, 6]
  cf := some (fileOf pool7 10 #[.nestMembers #[1103]] #[{ accessFlags := 1, nameIndex := 5, descriptorIndex := 6, attributes := #[] }, { accessFlags := 1, nameIndex := 5, descriptorIndex := 1010, attributes := #[] }, { accessFlags := 2, nameIndex := 5, descriptorIndex := 29, attributes := #[] }] 49 2 #[1106, 1108, 575, 1110, 1112] #[{ accessFlags := 18, nameIndex := 13, descriptorIndex := 14, attributes := #[] }, { accessFlags := 18, nameIndex := 17, descriptorIndex := 18, attributes := #[] }, { accessFlags := 2, nameIndex := 21, descriptorIndex := 22, attributes := #[] }, { accessFlags := 2, nameIndex := 25, descriptorIndex := 26, attributes := #[] }, { accessFlags := 26, nameIndex := 1116, descriptorIndex := 1117, attributes := #[] }, { accessFlags := 24, nameIndex := 40, descriptorIndex := 26, attributes := #[] }, { accessFlags := 26, nameIndex := 1101, descriptorIndex := 1102, attributes := #[] }, { accessFlags := 26, nameIndex := 1121, descriptorIndex := 1122, attributes := #[] }, { accessFlags := 25, nameIndex := 599, descriptorIndex := 600, attributes := #[] }, { accessFlags := 24, nameIndex := 1125, descriptorIndex := 18, attributes := #[] }, { accessFlags := 24, nameIndex := 1127, descriptorIndex := 18, attributes := #[] }])
  fields := #[{ name := "value", type := (.array .byte), accessFlags := 18, slot := 0, constantValue := 0 }, { name := "coder", type := .byte, accessFlags := 18, slot := 1, constantValue := 0 }, { name := "hash", type := .int, accessFlags := 2, slot := 2, constantValue := 0 }, { name := "hashIsZero", type := .boolean, accessFlags := 2, slot := 3, constantValue := 0 }, { name := "serialVersionUID", type := .long, accessFlags := 26, slot := 0, constantValue := 0 }, { name := "COMPACT_STRINGS", type := .boolean, accessFlags := 24, slot := 1, constantValue := 0 }, { name := "serialPersistentFields", type := (.array (.object "java/io/ObjectStreamField")), accessFlags := 26, slot := 2, constantValue := 0 }, { name := "REPL", type := .char, accessFlags := 26, slot := 3, constantValue := 0 }, { name := "CASE_INSENSITIVE_ORDER", type := (.object "java/util/Comparator"), accessFlags := 25, slot := 4, constantValue := 0 }, { name := "LATIN1", type := .byte, accessFlags := 24, slot := 5, constantValue := 0 }, { name := "UTF16", type := .byte, accessFlags := 24, slot := 6, constantValue := 0 }]
  methods := #[k7m0, k7m1, k7m2]
  instanceTypes := #[(.array .byte), .byte, .int, .boolean]
  staticTypes := #[.long, .boolean, (.array (.object "java/io/ObjectStreamField")), .char, (.object "java/util/Comparator"), .byte, .byte]
  resolved := Array.replicate 1451 none
  statics := some 0 }

def pool8 : Array CpInfo := pool [(1, .methodref 2 3), (0, .class_ 4), (0, .nameAndType 5 6), (0, u "java/lang/Object"), (0, u "<init>"), (0, u "()V"), (0, .fieldref 8 9), (0, .class_ 10), (0, .nameAndType 11 12), (0, u "com/example/rowcall/rowcall/DeleteMarker"), (0, u "columns"), (0, u "Lcom/example/rowcall/rowcall/Columns;"), (0, .fieldref 8 14), (0, .nameAndType 15 16), (0, u "timestamp"), (0, u "J"), (0, .fieldref 8 18), (0, .nameAndType 19 20), (0, u "ROW"), (0, u "Lcom/example/rowcall/rowcall/DeleteMarker;"), (0, .methodref 22 23), (0, .class_ 24), (0, .nameAndType 25 26), (0, u "com/example/rowcall/rowcall/Columns"), (0, u "family"), (0, u "(Ljava/lang/String;)Lcom/example/rowcall/rowcall/Columns;"), (0, .class_ 28), (0, u "com/example/rowcall/rowcall/Cell"), (0, .long 18446744073709551615), (1, .methodref 8 32), (0, .nameAndType 5 33), (0, u "(Lcom/example/rowcall/rowcall/Columns;J)V"), (0, .methodref 22 35), (0, .nameAndType 36 37), (0, u "column"), (0, u "(Ljava/lang/String;[B)Lcom/example/rowcall/rowcall/Columns;"), (3, .methodref 27 42), (0, .nameAndType 43 44), (0, u "checkTimestamp"), (0, u "(J)J"), (33, u "row"), (0, u "()Lcom/example/rowcall/rowcall/DeleteMarker;"), (0, u "(Ljava/lang/String;)Lcom/example/rowcall/rowcall/DeleteMarker;"), (0, u "(Ljava/lang/String;[B)Lcom/example/rowcall/rowcall/DeleteMarker;"), (1, u "at"), (0, u "(J)Lcom/example/rowcall/rowcall/DeleteMarker;")] 27

def k8c0 : Code := { maxStack := 3, maxLocals := 4, code := prog_14_method_1_code, exceptionTable := #[], attributes := #[] }
def k8m0 : Method := { name := "<init>", desc := "(Lcom/example/rowcall/rowcall/Columns;J)V", sig := { parameters := [(.object "com/example/rowcall/rowcall/Columns"), .long], returnType := none }, accessFlags := 0, code := some k8c0 }
def k8c1 : Code := { maxStack := 1, maxLocals := 0, code := prog_14_method_2_code, exceptionTable := #[], attributes := #[] }
def k8m1 : Method := { name := "row", desc := "()Lcom/example/rowcall/rowcall/DeleteMarker;", sig := { parameters := [], returnType := some (.object "com/example/rowcall/rowcall/DeleteMarker") }, accessFlags := 9, code := some k8c1 }
def k8c2 : Code := { maxStack := 5, maxLocals := 1, code := prog_14_method_3_code, exceptionTable := #[], attributes := #[] }
def k8m2 : Method := { name := "family", desc := "(Ljava/lang/String;)Lcom/example/rowcall/rowcall/DeleteMarker;", sig := { parameters := [(.object "java/lang/String")], returnType := some (.object "com/example/rowcall/rowcall/DeleteMarker") }, accessFlags := 9, code := some k8c2 }
def k8c3 : Code := { maxStack := 5, maxLocals := 2, code := prog_14_method_4_code, exceptionTable := #[], attributes := #[] }
def k8m3 : Method := { name := "column", desc := "(Ljava/lang/String;[B)Lcom/example/rowcall/rowcall/DeleteMarker;", sig := { parameters := [(.object "java/lang/String"), (.array .byte)], returnType := some (.object "com/example/rowcall/rowcall/DeleteMarker") }, accessFlags := 9, code := some k8c3 }
def k8c4 : Code := { maxStack := 5, maxLocals := 3, code := prog_14_method_6_code, exceptionTable := #[], attributes := #[] }
def k8m4 : Method := { name := "at", desc := "(J)Lcom/example/rowcall/rowcall/DeleteMarker;", sig := { parameters := [.long], returnType := some (.object "com/example/rowcall/rowcall/DeleteMarker") }, accessFlags := 1, code := some k8c4 }
/-- com/example/rowcall/rowcall/DeleteMarker -/
def k8 : Class := { plain "com/example/rowcall/rowcall/DeleteMarker" (some 0) with
  accessFlags := 49
  interfaces := #[]
  cf := some (fileOf pool8 8 #[] #[{ accessFlags := 0, nameIndex := 5, descriptorIndex := 33, attributes := #[] }, { accessFlags := 9, nameIndex := 78, descriptorIndex := 79, attributes := #[] }, { accessFlags := 9, nameIndex := 25, descriptorIndex := 80, attributes := #[] }, { accessFlags := 9, nameIndex := 36, descriptorIndex := 81, attributes := #[] }, { accessFlags := 1, nameIndex := 83, descriptorIndex := 84, attributes := #[] }] 49 2 #[] #[{ accessFlags := 26, nameIndex := 19, descriptorIndex := 20, attributes := #[] }, { accessFlags := 16, nameIndex := 11, descriptorIndex := 12, attributes := #[] }, { accessFlags := 16, nameIndex := 15, descriptorIndex := 16, attributes := #[] }])
  fields := #[{ name := "ROW", type := (.object "com/example/rowcall/rowcall/DeleteMarker"), accessFlags := 26, slot := 0, constantValue := 0 }, { name := "columns", type := (.object "com/example/rowcall/rowcall/Columns"), accessFlags := 16, slot := 0, constantValue := 0 }, { name := "timestamp", type := .long, accessFlags := 16, slot := 1, constantValue := 0 }]
  methods := #[k8m0, k8m1, k8m2, k8m3, k8m4]
  instanceTypes := #[(.object "com/example/rowcall/rowcall/Columns"), .long]
  staticTypes := #[(.object "com/example/rowcall/rowcall/DeleteMarker")]
  resolved := Array.replicate 112 none
  statics := some 1 }

def pool9 : Array CpInfo := pool [(1, .class_ 2), (0, u "java/lang/AutoCloseable"), (0, .class_ 4), (0, u "java/lang/Object")] 7

/-- java/lang/AutoCloseable -/
def k9 : Class := { plain "java/lang/AutoCloseable" (some 0) with
  accessFlags := 1537
  interfaces := #[]
  cf := some (fileOf pool9 1 #[] #[] 1537 3 #[] #[])
  fields := #[]
  methods := #[]
  instanceTypes := #[]
  staticTypes := #[]
  resolved := Array.replicate 12 none
  statics := none }

def pool10 : Array CpInfo := pool [(1, .class_ 2), (0, u "java/io/Closeable"), (0, .class_ 4), (0, u "java/lang/Object"), (0, .class_ 6), (0, u "java/lang/AutoCloseable")] 7

/-- java/io/Closeable -/
def k10 : Class := { plain "java/io/Closeable" (some 0) with
  accessFlags := 1537
  interfaces := #[9]
  cf := some (fileOf pool10 1 #[] #[] 1537 3 #[5] #[])
  fields := #[]
  methods := #[]
  instanceTypes := #[]
  staticTypes := #[]
  resolved := Array.replicate 14 none
  statics := none }

def pool11 : Array CpInfo := pool [(3, .class_ 4), (0, u "com/example/rowcall/rowcall/TableFiles"), (1, .class_ 8), (1, u "java/lang/Object"), (4, u "log"), (0, u "Ljava/nio/file/Path;"), (2, u "channel"), (0, u "Ljava/nio/channels/FileChannel;"), (2, u "end"), (0, u "J"), (29, .class_ 54), (1, u "com/example/rowcall/rowcall/TableFiles$Kind"), (64, u "Ljava/lang/String;"), (155, u "markerKind"), (0, u "(Lcom/example/rowcall/rowcall/DeleteMarker;)B"), (16, u "failed"), (0, u "Z"), (74, u "isMarkerKind"), (0, u "(B)Z"), (56, u "I"), (49, .nameAndType 478 119), (0, u "family"), (1, .nameAndType 481 482), (0, u "qualifier"), (0, u "[B"), (18, .fieldref 502 503), (0, .class_ 504), (0, .nameAndType 505 506), (0, u "com/example/rowcall/rowcall/DeleteMarker"), (0, u "columns"), (0, u "Lcom/example/rowcall/rowcall/Columns;"), (0, .fieldref 508 477), (0, .class_ 509), (0, u "com/example/rowcall/rowcall/Columns"), (0, .fieldref 508 480), (21, u "NO_BYTES"), (31, .class_ 565), (0, u "java/io/Closeable"), (0, u "FORMAT_VERSION"), (2, u "OLDEST_FORMAT_VERSION"), (1, u "HEADER_LENGTH"), (1, u "RECORD_HEADER_LENGTH"), (1, u "RECORD_HEADER_CHECKED"), (0, u "MAX_BODY_LENGTH"), (1, u "PUT"), (0, u "B"), (1, u "DELETE_ROW"), (1, u "DELETE_FAMILY"), (0, u "DELETE_COLUMN")] 90

def k11c0 : Code := { maxStack := 1, maxLocals := 2, code := prog_35_method_24_code, exceptionTable := #[], attributes := #[] }
def k11m0 : Method := { name := "markerKind", desc := "(Lcom/example/rowcall/rowcall/DeleteMarker;)B", sig := { parameters := [(.object "com/example/rowcall/rowcall/DeleteMarker")], returnType := some .byte }, accessFlags := 8, code := some k11c0 }
def k11c1 : Code := { maxStack := 2, maxLocals := 1, code := prog_35_method_25_code, exceptionTable := #[], attributes := #[] }
def k11m1 : Method := { name := "isMarkerKind", desc := "(B)Z", sig := { parameters := [.byte], returnType := some .boolean }, accessFlags := 8, code := some k11c1 }
/-- com/example/rowcall/rowcall/TableFiles -/
def k11 : Class := { plain "com/example/rowcall/rowcall/TableFiles" (some 0) with
  accessFlags := 48
  interfaces := #[10]
  cf := some (fileOf pool11 3 #[.nestMembers #[52]] #[{ accessFlags := 8, nameIndex := 275, descriptorIndex := 276, attributes := #[] }, { accessFlags := 8, nameIndex := 369, descriptorIndex := 370, attributes := #[] }] 48 6 #[564] #[{ accessFlags := 26, nameIndex := 566, descriptorIndex := 427, attributes := #[] }, { accessFlags := 26, nameIndex := 569, descriptorIndex := 427, attributes := #[] }, { accessFlags := 24, nameIndex := 571, descriptorIndex := 427, attributes := #[] }, { accessFlags := 26, nameIndex := 573, descriptorIndex := 427, attributes := #[] }, { accessFlags := 26, nameIndex := 575, descriptorIndex := 427, attributes := #[] }, { accessFlags := 26, nameIndex := 576, descriptorIndex := 427, attributes := #[] }, { accessFlags := 26, nameIndex := 532, descriptorIndex := 482, attributes := #[] }, { accessFlags := 26, nameIndex := 578, descriptorIndex := 579, attributes := #[] }, { accessFlags := 26, nameIndex := 581, descriptorIndex := 579, attributes := #[] }, { accessFlags := 26, nameIndex := 583, descriptorIndex := 579, attributes := #[] }, { accessFlags := 26, nameIndex := 584, descriptorIndex := 579, attributes := #[] }, { accessFlags := 18, nameIndex := 13, descriptorIndex := 14, attributes := #[] }, { accessFlags := 18, nameIndex := 17, descriptorIndex := 18, attributes := #[] }, { accessFlags := 2, nameIndex := 21, descriptorIndex := 22, attributes := #[] }, { accessFlags := 2, nameIndex := 293, descriptorIndex := 294, attributes := #[] }])
  fields := #[{ name := "FORMAT_VERSION", type := .int, accessFlags := 26, slot := 0, constantValue := 0 }, { name := "OLDEST_FORMAT_VERSION", type := .int, accessFlags := 26, slot := 1, constantValue := 0 }, { name := "HEADER_LENGTH", type := .int, accessFlags := 24, slot := 2, constantValue := 0 }, { name := "RECORD_HEADER_LENGTH", type := .int, accessFlags := 26, slot := 3, constantValue := 0 }, { name := "RECORD_HEADER_CHECKED", type := .int, accessFlags := 26, slot := 4, constantValue := 0 }, { name := "MAX_BODY_LENGTH", type := .int, accessFlags := 26, slot := 5, constantValue := 0 }, { name := "NO_BYTES", type := (.array .byte), accessFlags := 26, slot := 6, constantValue := 0 }, { name := "PUT", type := .byte, accessFlags := 26, slot := 7, constantValue := 0 }, { name := "DELETE_ROW", type := .byte, accessFlags := 26, slot := 8, constantValue := 0 }, { name := "DELETE_FAMILY", type := .byte, accessFlags := 26, slot := 9, constantValue := 0 }, { name := "DELETE_COLUMN", type := .byte, accessFlags := 26, slot := 10, constantValue := 0 }, { name := "log", type := (.object "java/nio/file/Path"), accessFlags := 18, slot := 0, constantValue := 0 }, { name := "channel", type := (.object "java/nio/channels/FileChannel"), accessFlags := 18, slot := 1, constantValue := 0 }, { name := "end", type := .long, accessFlags := 2, slot := 2, constantValue := 0 }, { name := "failed", type := .boolean, accessFlags := 2, slot := 3, constantValue := 0 }]
  methods := #[k11m0, k11m1]
  instanceTypes := #[(.object "java/nio/file/Path"), (.object "java/nio/channels/FileChannel"), .long, .boolean]
  staticTypes := #[.int, .int, .int, .int, .int, .int, (.array .byte), .byte, .byte, .byte, .byte]
  resolved := Array.replicate 675 none
  statics := none }

def pool12 : Array CpInfo := pool [(1, .methodref 2 3), (0, .class_ 4), (0, .nameAndType 5 6), (0, u "java/lang/Object"), (0, u "<init>"), (0, u "()V"), (0, .fieldref 8 9), (0, .class_ 10), (0, .nameAndType 11 12), (0, u "com/example/rowcall/rowcall/Columns"), (0, u "family"), (0, u "Ljava/lang/String;"), (0, .fieldref 8 14), (0, .nameAndType 15 16), (0, u "qualifier"), (0, u "[B"), (0, .string 11), (0, .methodref 19 20), (0, .class_ 21), (0, .nameAndType 22 23), (0, u "java/util/Objects"), (0, u "requireNonNull"), (0, u "(Ljava/lang/Object;Ljava/lang/String;)Ljava/lang/Object;"), (0, .class_ 25), (0, u "java/lang/String"), (0, .methodref 8 27), (0, .nameAndType 5 28), (0, u "(Ljava/lang/String;[B)V"), (0, .methodref 30 31), (0, .class_ 16), (0, .nameAndType 32 33), (0, u "clone"), (0, u "()Ljava/lang/Object;"), (6, u "(Ljava/lang/String;)Lcom/example/rowcall/rowcall/Columns;"), (44, u "ROW"), (0, u "Lcom/example/rowcall/rowcall/Columns;"), (2, u "column"), (0, u "(Ljava/lang/String;[B)Lcom/example/rowcall/rowcall/Columns;")] 25

def k12c0 : Code := { maxStack := 2, maxLocals := 3, code := prog_12_method_1_code, exceptionTable := #[], attributes := #[] }
def k12m0 : Method := { name := "<init>", desc := "(Ljava/lang/String;[B)V", sig := { parameters := [(.object "java/lang/String"), (.array .byte)], returnType := none }, accessFlags := 0, code := some k12c0 }
def k12c1 : Code := { maxStack := 4, maxLocals := 1, code := prog_12_method_2_code, exceptionTable := #[], attributes := #[] }
def k12m1 : Method := { name := "family", desc := "(Ljava/lang/String;)Lcom/example/rowcall/rowcall/Columns;", sig := { parameters := [(.object "java/lang/String")], returnType := some (.object "com/example/rowcall/rowcall/Columns") }, accessFlags := 8, code := some k12c1 }
def k12c2 : Code := { maxStack := 4, maxLocals := 2, code := prog_12_method_3_code, exceptionTable := #[], attributes := #[] }
def k12m2 : Method := { name := "column", desc := "(Ljava/lang/String;[B)Lcom/example/rowcall/rowcall/Columns;", sig := { parameters := [(.object "java/lang/String"), (.array .byte)], returnType := some (.object "com/example/rowcall/rowcall/Columns") }, accessFlags := 8, code := some k12c2 }
/-- com/example/rowcall/rowcall/Columns -/
def k12 : Class := { plain "com/example/rowcall/rowcall/Columns" (some 0) with
  accessFlags := 48
  interfaces := #[]
  cf := some (fileOf pool12 8 #[] #[{ accessFlags := 0, nameIndex := 5, descriptorIndex := 28, attributes := #[] }, { accessFlags := 8, nameIndex := 11, descriptorIndex := 40, attributes := #[] }, { accessFlags := 8, nameIndex := 89, descriptorIndex := 90, attributes := #[] }] 48 2 #[] #[{ accessFlags := 24, nameIndex := 85, descriptorIndex := 86, attributes := #[] }, { accessFlags := 16, nameIndex := 11, descriptorIndex := 12, attributes := #[] }, { accessFlags := 16, nameIndex := 15, descriptorIndex := 16, attributes := #[] }])
  fields := #[{ name := "ROW", type := (.object "com/example/rowcall/rowcall/Columns"), accessFlags := 24, slot := 0, constantValue := 0 }, { name := "family", type := (.object "java/lang/String"), accessFlags := 16, slot := 0, constantValue := 0 }, { name := "qualifier", type := (.array .byte), accessFlags := 16, slot := 1, constantValue := 0 }]
  methods := #[k12m0, k12m1, k12m2]
  instanceTypes := #[(.object "java/lang/String"), (.array .byte)]
  staticTypes := #[(.object "com/example/rowcall/rowcall/Columns")]
  resolved := Array.replicate 116 none
  statics := none }

def pool13 : Array CpInfo := pool [(2, .class_ 4), (1, u "java/lang/Object"), (0, u "<init>"), (0, u "()V"), (35, .class_ 44), (1, u "java/util/Objects"), (0, u "requireNonNull"), (48, u "(Ljava/lang/Object;Ljava/lang/String;)Ljava/lang/Object;")] 89

def k13m0 : Method := { name := "<init>", desc := "()V", sig := { parameters := [], returnType := none }, accessFlags := 2, code := none }
def k13c1 : Code := { maxStack := 3, maxLocals := 2, code := jdk_31_method_11_code, exceptionTable := #[], attributes := #[] }
def k13m1 : Method := { name := "requireNonNull", desc := "(Ljava/lang/Object;Ljava/lang/String;)Ljava/lang/Object;", sig := { parameters := [(.object "java/lang/Object"), (.object "java/lang/String")], returnType := some (.object "java/lang/Object") }, accessFlags := 9, code := some k13c1 }
/-- java/util/Objects -/
def k13 : Class := { plain "java/util/Objects" (some 0) with
  accessFlags := 49
  interfaces := #[]
  cf := some (fileOf pool13 42 #[] #[{ accessFlags := 2, nameIndex := 5, descriptorIndex := 6, attributes := #[] }, { accessFlags := 9, nameIndex := 45, descriptorIndex := 94, attributes := #[] }] 49 2 #[] #[])
  fields := #[]
  methods := #[k13m0, k13m1]
  instanceTypes := #[]
  staticTypes := #[]
  resolved := Array.replicate 184 none
  statics := none }

def pool14 : Array CpInfo := pool [(6, .class_ 8), (1, u "java/lang/Object"), (0, u "<init>"), (0, u "()V"), (1, .class_ 14), (1, u "java/lang/StringUTF16"), (31, u "$assertionsDisabled"), (0, u "Z"), (13, u "HI_BYTE_SHIFT"), (0, u "I"), (2, u "LO_BYTE_SHIFT"), (49, .methodref 12 116), (0, .nameAndType 117 118), (0, u "compress"), (0, u "([CI[BII)I"), (3, u "([CII)[B"), (138, u "coderFromArrayLen"), (0, u "([BI)B"), (106, .class_ 371), (1, u "java/lang/StringUTF16$LinesSpliterator"), (58, u "MAX_LENGTH"), (196, .class_ 628), (0, u "java/lang/StringUTF16$CodePointsSpliterator"), (0, .class_ 630), (0, u "java/lang/StringUTF16$CharsSpliterator")] 4

def k14m0 : Method := { name := "<init>", desc := "()V", sig := { parameters := [], returnType := none }, accessFlags := 0, code := none }
def k14c1 : Code := { maxStack := 2, maxLocals := 2, code := jdk_52_method_15_code, exceptionTable := #[], attributes := #[] }
def k14m1 : Method := { name := "coderFromArrayLen", desc := "([BI)B", sig := { parameters := [(.array .byte), .int], returnType := some .byte }, accessFlags := 8, code := some k14c1 }
def k14c2 : Code := { maxStack := 5, maxLocals := 6, code := jdk_52_method_16_code, exceptionTable := #[], attributes := #[] }
def k14m2 : Method := { name := "compress", desc := "([CII)[B", sig := { parameters := [(.array .char), .int, .int], returnType := some (.array .byte) }, accessFlags := 9, code := some k14c2 }
def k14c3 : Code := { maxStack := 3, maxLocals := 7, code := jdk_52_method_21_code, exceptionTable := #[], attributes := #[] }
def k14m3 : Method := { name := "compress", desc := "([CI[BII)I", sig := { parameters := [(.array .char), .int, (.array .byte), .int, .int], returnType := some .int }, accessFlags := 9, code := some k14c3 }
/-- java/lang/StringUTF16 -/
def k14 : Class := { plain "java/lang/StringUTF16" (some 0) with
  accessFlags := 48
  interfaces := #[]
  cf := some (fileOf pool14 12 #[.nestMembers #[627, 629, 369]] #[{ accessFlags := 0, nameIndex := 9, descriptorIndex := 10, attributes := #[] }, { accessFlags := 8, nameIndex := 261, descriptorIndex := 262, attributes := #[] }, { accessFlags := 9, nameIndex := 117, descriptorIndex := 122, attributes := #[] }, { accessFlags := 9, nameIndex := 117, descriptorIndex := 118, attributes := #[] }] 48 6 #[] #[{ accessFlags := 26, nameIndex := 61, descriptorIndex := 62, attributes := #[] }, { accessFlags := 26, nameIndex := 65, descriptorIndex := 62, attributes := #[] }, { accessFlags := 24, nameIndex := 430, descriptorIndex := 62, attributes := #[] }, { accessFlags := 4120, nameIndex := 46, descriptorIndex := 47, attributes := #[] }])
  fields := #[{ name := "HI_BYTE_SHIFT", type := .int, accessFlags := 26, slot := 0, constantValue := 0 }, { name := "LO_BYTE_SHIFT", type := .int, accessFlags := 26, slot := 1, constantValue := 0 }, { name := "MAX_LENGTH", type := .int, accessFlags := 24, slot := 2, constantValue := 0 }, { name := "$assertionsDisabled", type := .boolean, accessFlags := 4120, slot := 3, constantValue := 0 }]
  methods := #[k14m0, k14m1, k14m2, k14m3]
  instanceTypes := #[]
  staticTypes := #[.int, .int, .int, .boolean]
  resolved := Array.replicate 635 none
  statics := none }

def pool15 : Array CpInfo := pool [(1, .class_ 2), (0, u "java/lang/Cloneable"), (0, .class_ 4), (0, u "java/lang/Object")] 2

/-- java/lang/Cloneable -/
def k15 : Class := { plain "java/lang/Cloneable" (some 0) with
  accessFlags := 1537
  interfaces := #[]
  cf := some (fileOf pool15 1 #[] #[] 1537 3 #[] #[])
  fields := #[]
  methods := #[]
  instanceTypes := #[]
  staticTypes := #[]
  resolved := Array.replicate 7 none
  statics := none }

def pool16 : Array CpInfo := pool [(2, .class_ 4), (1, u "java/lang/Object"), (3, u "family"), (9, .class_ 20), (1, u "com/example/rowcall/rowcall/Cell"), (0, u "Ljava/lang/String;"), (3, u "[B"), (4, u "qualifier"), (4, u "timestamp"), (0, u "J"), (2, u "value"), (2, u "checkTimestamp"), (0, u "(J)J"), (38, u "EMPTY"), (69, u "COLUMN_ORDER"), (0, u "Ljava/util/Comparator;"), (16, u "VERSION_ORDER"), (0, u "NO_TIMESTAMP")] 84

def k16c0 : Code := { maxStack := 4, maxLocals := 2, code := prog_11_method_10_code, exceptionTable := #[], attributes := #[] }
def k16m0 : Method := { name := "checkTimestamp", desc := "(J)J", sig := { parameters := [.long], returnType := some .long }, accessFlags := 8, code := some k16c0 }
/-- com/example/rowcall/rowcall/Cell -/
def k16 : Class := { plain "com/example/rowcall/rowcall/Cell" (some 0) with
  accessFlags := 49
  interfaces := #[]
  cf := some (fileOf pool16 18 #[] #[{ accessFlags := 8, nameIndex := 42, descriptorIndex := 43, attributes := #[] }] 49 2 #[] #[{ accessFlags := 25, nameIndex := 171, descriptorIndex := 36, attributes := #[] }, { accessFlags := 24, nameIndex := 152, descriptorIndex := 153, attributes := #[] }, { accessFlags := 24, nameIndex := 170, descriptorIndex := 153, attributes := #[] }, { accessFlags := 26, nameIndex := 82, descriptorIndex := 25, attributes := #[] }, { accessFlags := 16, nameIndex := 8, descriptorIndex := 21, attributes := #[] }, { accessFlags := 16, nameIndex := 30, descriptorIndex := 25, attributes := #[] }, { accessFlags := 16, nameIndex := 35, descriptorIndex := 36, attributes := #[] }, { accessFlags := 16, nameIndex := 39, descriptorIndex := 25, attributes := #[] }])
  fields := #[{ name := "NO_TIMESTAMP", type := .long, accessFlags := 25, slot := 0, constantValue := 0 }, { name := "COLUMN_ORDER", type := (.object "java/util/Comparator"), accessFlags := 24, slot := 1, constantValue := 0 }, { name := "VERSION_ORDER", type := (.object "java/util/Comparator"), accessFlags := 24, slot := 2, constantValue := 0 }, { name := "EMPTY", type := (.array .byte), accessFlags := 26, slot := 3, constantValue := 0 }, { name := "family", type := (.object "java/lang/String"), accessFlags := 16, slot := 0, constantValue := 0 }, { name := "qualifier", type := (.array .byte), accessFlags := 16, slot := 1, constantValue := 0 }, { name := "timestamp", type := .long, accessFlags := 16, slot := 2, constantValue := 0 }, { name := "value", type := (.array .byte), accessFlags := 16, slot := 3, constantValue := 0 }]
  methods := #[k16m0]
  instanceTypes := #[(.object "java/lang/String"), (.array .byte), .long, (.array .byte)]
  staticTypes := #[.long, (.object "java/util/Comparator"), (.object "java/util/Comparator"), (.array .byte)]
  resolved := Array.replicate 256 none
  statics := none }

def pool17 : Array CpInfo := pool [(4, .class_ 6), (1, u "java/lang/Object"), (0, u "<init>"), (0, u "()V"), (5, .class_ 16), (1, u "java/lang/StringLatin1"), (104, u "$assertionsDisabled"), (0, u "Z"), (98, .class_ 223), (1, u "java/lang/StringLatin1$LinesSpliterator"), (166, .class_ 391), (0, u "java/lang/StringLatin1$CharsSpliterator")] 3

def k17m0 : Method := { name := "<init>", desc := "()V", sig := { parameters := [], returnType := none }, accessFlags := 0, code := none }
/-- java/lang/StringLatin1 -/
def k17 : Class := { plain "java/lang/StringLatin1" (some 0) with
  accessFlags := 48
  interfaces := #[]
  cf := some (fileOf pool17 14 #[.nestMembers #[390, 221]] #[{ accessFlags := 0, nameIndex := 7, descriptorIndex := 8, attributes := #[] }] 48 4 #[] #[{ accessFlags := 4120, nameIndex := 121, descriptorIndex := 122, attributes := #[] }])
  fields := #[{ name := "$assertionsDisabled", type := .boolean, accessFlags := 4120, slot := 0, constantValue := 0 }]
  methods := #[k17m0]
  instanceTypes := #[]
  staticTypes := #[.boolean]
  resolved := Array.replicate 395 none
  statics := none }

def pool18 : Array CpInfo := pool [(2, .class_ 4), (1, u "java/lang/Object"), (0, u "<init>"), (0, u "()V"), (17, .class_ 26), (1, u "jdk/internal/util/Preconditions"), (28, .class_ 56), (0, u "jdk/internal/util/Preconditions$4"), (57, .class_ 115), (0, u "jdk/internal/util/Preconditions$1"), (7, u "SIOOBE_FORMATTER"), (0, u "Ljava/util/function/BiFunction;"), (0, .class_ 126), (0, u "jdk/internal/util/Preconditions$2"), (3, u "AIOOBE_FORMATTER"), (0, .class_ 132), (0, u "jdk/internal/util/Preconditions$3"), (3, u "IOOBE_FORMATTER")] 57

def k18m0 : Method := { name := "<init>", desc := "()V", sig := { parameters := [], returnType := none }, accessFlags := 1, code := none }
/-- jdk/internal/util/Preconditions -/
def k18 : Class := { plain "jdk/internal/util/Preconditions" (some 0) with
  accessFlags := 33
  interfaces := #[]
  cf := some (fileOf pool18 24 #[.nestMembers #[55, 131, 125, 114]] #[{ accessFlags := 1, nameIndex := 5, descriptorIndex := 6, attributes := #[] }] 33 2 #[] #[{ accessFlags := 25, nameIndex := 123, descriptorIndex := 124, attributes := #[] }, { accessFlags := 25, nameIndex := 130, descriptorIndex := 124, attributes := #[] }, { accessFlags := 25, nameIndex := 136, descriptorIndex := 124, attributes := #[] }])
  fields := #[{ name := "SIOOBE_FORMATTER", type := (.object "java/util/function/BiFunction"), accessFlags := 25, slot := 0, constantValue := 0 }, { name := "AIOOBE_FORMATTER", type := (.object "java/util/function/BiFunction"), accessFlags := 25, slot := 1, constantValue := 0 }, { name := "IOOBE_FORMATTER", type := (.object "java/util/function/BiFunction"), accessFlags := 25, slot := 2, constantValue := 0 }]
  methods := #[k18m0]
  instanceTypes := #[]
  staticTypes := #[(.object "java/util/function/BiFunction"), (.object "java/util/function/BiFunction"), (.object "java/util/function/BiFunction")]
  resolved := Array.replicate 194 none
  statics := some 2 }

def pool19 : Array CpInfo := pool [(9, u "<init>"), (6, .class_ 18), (1, u "java/lang/Object"), (0, u "()V"), (1, .class_ 23), (1, u "jdk/internal/util/ArraysSupport"), (0, u "LOG2_ARRAY_LONG_INDEX_SCALE"), (0, u "I"), (2, u "U"), (0, u "Ljdk/internal/misc/Unsafe;"), (8, u "BIG_ENDIAN"), (0, u "Z"), (8, u "LOG2_BYTE_BIT_SIZE"), (4, u "LOG2_ARRAY_INT_INDEX_SCALE"), (54, u "JLA"), (0, u "Ljdk/internal/access/JavaLangAccess;"), (11, u "LOG2_ARRAY_BOOLEAN_INDEX_SCALE"), (9, u "LOG2_ARRAY_BYTE_INDEX_SCALE"), (5, u "LOG2_ARRAY_CHAR_INDEX_SCALE"), (5, u "LOG2_ARRAY_SHORT_INDEX_SCALE"), (18, u "LOG2_ARRAY_FLOAT_INDEX_SCALE"), (24, u "LOG2_ARRAY_DOUBLE_INDEX_SCALE"), (89, u "T_BOOLEAN"), (2, u "T_CHAR"), (1, u "T_FLOAT"), (1, u "T_DOUBLE"), (1, u "T_BYTE"), (1, u "T_SHORT"), (1, u "T_INT"), (1, u "T_LONG"), (1, u "SOFT_MAX_ARRAY_LENGTH")] 83

def k19m0 : Method := { name := "<init>", desc := "()V", sig := { parameters := [], returnType := none }, accessFlags := 2, code := none }
/-- jdk/internal/util/ArraysSupport -/
def k19 : Class := { plain "jdk/internal/util/ArraysSupport" (some 0) with
  accessFlags := 33
  interfaces := #[]
  cf := some (fileOf pool19 21 #[] #[{ accessFlags := 2, nameIndex := 9, descriptorIndex := 19, attributes := #[] }] 33 16 #[] #[{ accessFlags := 24, nameIndex := 28, descriptorIndex := 29, attributes := #[] }, { accessFlags := 26, nameIndex := 38, descriptorIndex := 39, attributes := #[] }, { accessFlags := 25, nameIndex := 121, descriptorIndex := 25, attributes := #[] }, { accessFlags := 25, nameIndex := 131, descriptorIndex := 25, attributes := #[] }, { accessFlags := 25, nameIndex := 137, descriptorIndex := 25, attributes := #[] }, { accessFlags := 25, nameIndex := 143, descriptorIndex := 25, attributes := #[] }, { accessFlags := 25, nameIndex := 53, descriptorIndex := 25, attributes := #[] }, { accessFlags := 25, nameIndex := 24, descriptorIndex := 25, attributes := #[] }, { accessFlags := 25, nameIndex := 162, descriptorIndex := 25, attributes := #[] }, { accessFlags := 25, nameIndex := 187, descriptorIndex := 25, attributes := #[] }, { accessFlags := 26, nameIndex := 48, descriptorIndex := 25, attributes := #[] }, { accessFlags := 25, nameIndex := 277, descriptorIndex := 25, attributes := #[] }, { accessFlags := 25, nameIndex := 280, descriptorIndex := 25, attributes := #[] }, { accessFlags := 25, nameIndex := 282, descriptorIndex := 25, attributes := #[] }, { accessFlags := 25, nameIndex := 284, descriptorIndex := 25, attributes := #[] }, { accessFlags := 25, nameIndex := 286, descriptorIndex := 25, attributes := #[] }, { accessFlags := 25, nameIndex := 288, descriptorIndex := 25, attributes := #[] }, { accessFlags := 25, nameIndex := 290, descriptorIndex := 25, attributes := #[] }, { accessFlags := 25, nameIndex := 292, descriptorIndex := 25, attributes := #[] }, { accessFlags := 26, nameIndex := 108, descriptorIndex := 109, attributes := #[] }, { accessFlags := 25, nameIndex := 294, descriptorIndex := 25, attributes := #[] }])
  fields := #[{ name := "U", type := (.object "jdk/internal/misc/Unsafe"), accessFlags := 24, slot := 0, constantValue := 0 }, { name := "BIG_ENDIAN", type := .boolean, accessFlags := 26, slot := 1, constantValue := 0 }, { name := "LOG2_ARRAY_BOOLEAN_INDEX_SCALE", type := .int, accessFlags := 25, slot := 2, constantValue := 0 }, { name := "LOG2_ARRAY_BYTE_INDEX_SCALE", type := .int, accessFlags := 25, slot := 3, constantValue := 0 }, { name := "LOG2_ARRAY_CHAR_INDEX_SCALE", type := .int, accessFlags := 25, slot := 4, constantValue := 0 }, { name := "LOG2_ARRAY_SHORT_INDEX_SCALE", type := .int, accessFlags := 25, slot := 5, constantValue := 0 }, { name := "LOG2_ARRAY_INT_INDEX_SCALE", type := .int, accessFlags := 25, slot := 6, constantValue := 0 }, { name := "LOG2_ARRAY_LONG_INDEX_SCALE", type := .int, accessFlags := 25, slot := 7, constantValue := 0 }, { name := "LOG2_ARRAY_FLOAT_INDEX_SCALE", type := .int, accessFlags := 25, slot := 8, constantValue := 0 }, { name := "LOG2_ARRAY_DOUBLE_INDEX_SCALE", type := .int, accessFlags := 25, slot := 9, constantValue := 0 }, { name := "LOG2_BYTE_BIT_SIZE", type := .int, accessFlags := 26, slot := 10, constantValue := 0 }, { name := "T_BOOLEAN", type := .int, accessFlags := 25, slot := 11, constantValue := 0 }, { name := "T_CHAR", type := .int, accessFlags := 25, slot := 12, constantValue := 0 }, { name := "T_FLOAT", type := .int, accessFlags := 25, slot := 13, constantValue := 0 }, { name := "T_DOUBLE", type := .int, accessFlags := 25, slot := 14, constantValue := 0 }, { name := "T_BYTE", type := .int, accessFlags := 25, slot := 15, constantValue := 0 }, { name := "T_SHORT", type := .int, accessFlags := 25, slot := 16, constantValue := 0 }, { name := "T_INT", type := .int, accessFlags := 25, slot := 17, constantValue := 0 }, { name := "T_LONG", type := .int, accessFlags := 25, slot := 18, constantValue := 0 }, { name := "JLA", type := (.object "jdk/internal/access/JavaLangAccess"), accessFlags := 26, slot := 19, constantValue := 0 }, { name := "SOFT_MAX_ARRAY_LENGTH", type := .int, accessFlags := 25, slot := 20, constantValue := 0 }]
  methods := #[k19m0]
  instanceTypes := #[]
  staticTypes := #[(.object "jdk/internal/misc/Unsafe"), .boolean, .int, .int, .int, .int, .int, .int, .int, .int, .int, .int, .int, .int, .int, .int, .int, .int, .int, (.object "jdk/internal/access/JavaLangAccess"), .int]
  resolved := Array.replicate 378 none
  statics := none }

/-- the primitive byte -/
def k20 : Class := { plain "byte" none with kind := .primitive 'B', accessFlags := 0x411 }
/-- [B -/
def k21 : Class := { plain "[B" (some 0) with kind := .array 20 .byte, interfaces := #[15, 2], accessFlags := 1041 }

/-- the primitive char -/
def k22 : Class := { plain "char" none with kind := .primitive 'C', accessFlags := 0x411 }
/-- [C -/
def k23 : Class := { plain "[C" (some 0) with kind := .array 22 .char, interfaces := #[15, 2], accessFlags := 1041 }

/-- the primitive int -/
def k24 : Class := { plain "int" none with kind := .primitive 'I', accessFlags := 0x411 }
/-- [I -/
def k25 : Class := { plain "[I" (some 0) with kind := .array 24 .int, interfaces := #[15, 2], accessFlags := 1041 }

def heap : Heap := #[{ cls := 7, slots := #[.long 0, .int 1, .null, .int 0, .null, .int 0, .int 0], vm := .statics 7 },
  { cls := 8, slots := #[.ref 4], vm := .statics 8 },
  { cls := 18, slots := #[.null, .null, .null], vm := .statics 18 },
  { cls := 12, slots := #[.null, .null], vm := .none },
  { cls := 8, slots := #[.ref 3, .long 0], vm := .none }]
def classes : Array Class := #[k0, k1, k2, k3, k4, k5, k6, k7, k8, k9, k10, k11, k12, k13, k14, k15, k16, k17, k18, k19, k20, k21, k22, k23, k24, k25]
def interned : List (Array UInt16 × Addr) := []
def slotsUsed : Nat := 15
def theMethod : MethodId := ⟨1, 1⟩
def args0 : Array Value := #[.int 5, .int 5, .int 5, .int 5, .long 7]
def aboutOver (below : List Frame) : State where
  vm := { classes := classes, interned := interned.toArray }
  heap := heap
  slotsUsed := slotsUsed
  threads := #[{ frames := .invoking theMethod args0 :: below }]
def below0 : List Frame := [.native { method := ⟨0, 0⟩, args := #[] }]
def about1 : State := aboutOver below0
def p0 : Program := .bare "" "" ""
def e0 : Env := launch0.env 0 0 0
theorem w_frames : about1.frames = Frame.invoking theMethod args0 :: below0 := rfl
set_option maxRecDepth 65536 in
theorem w_args : argsFit about1.vm theMethod args0 = true := by decide +kernel
set_option maxRecDepth 65536 in
theorem w_heap : heapFits about1 = true := by decide +kernel
set_option maxRecDepth 65536 in
theorem w_runnable : about1.curStatus? = some .runnable := by decide +kernel
set_option maxRecDepth 65536 in
theorem w_alone : about1.alone = true := by decide +kernel
set_option maxRecDepth 65536 in
theorem w_named : about1.methodNamed? x = some theMethod := by decide +kernel
set_option maxRecDepth 65536 in
theorem w_hears : about1.hears theMethod below0 = true := by decide +kernel
set_option maxRecDepth 65536 in
theorem w_ripe : about1.ripe theMethod args0 below0 = true := by decide +kernel
theorem w_running : about1.status = .running := rfl
set_option maxRecDepth 65536 in
theorem w_room : about1.hasRoom e0.platform room_1 = true :=
  launch0.hasRoom_least _ room_1 (by decide +kernel) (by decide +kernel) (by decide +kernel) (by decide +kernel) (by decide +kernel) (by decide +kernel)
theorem allAtoms_all (ts : List Jvm.Cond) (a : Array Jvm.Value) (st : Jvm.State) : (allAtoms ts).before a st = ts.all (fun c => c.before a st) := by
  induction ts with
  | nil => rfl
  | cons c t ih =>
    show (Jvm.Cond.and c (allAtoms t)).before a st = _
    rw [Jvm.Cond.before_and, ih, List.all_cons]
def words1 : List Jvm.Cond := Jvm.Cond.code x code maxLocals ret :: tables_1
/-- a 'code' word, met by the world's own term for the bytes: nothing is compared byte by byte -/
theorem code_word {y : MethodName} {bytes : ByteArray} {mx : Nat} {rt : Option FieldType} {a : Array Value} {s : State} {m : MethodId} {meth : Method} {c : Code} (h1 : s.methodNamed? y = some m) (h2 : s.vm.method? m = some meth) (h3 : meth.code = some c) (h4 : c.code = bytes)
    (h5 : (c.maxLocals == mx && c.exceptionTable.isEmpty && decide (c.maxStack ≤ mostOperands) && decide (meth.sig.returnType = rt) && !meth.locks && decide (parseMethodDescriptor y.desc = some meth.sig)) = true) : (Jvm.Cond.code y bytes mx rt).before a s = true := by
  simp only [Bool.and_eq_true, beq_iff_eq, Bool.not_eq_true', decide_eq_true_eq] at h5
  obtain ⟨⟨⟨⟨⟨g1, g2⟩, g3⟩, g4⟩, g5⟩, g6⟩ := h5
  simp [Cond.before, Cond.holds, Cond.value, h1, h2, h3, h4, g1, g2, g3, g4, g5, g6]
def isCode : Jvm.Cond → Bool
  | .code _ _ _ _ => true
  | _ => false
theorem all_split {L : List Jvm.Cond} {P : Jvm.Cond → Bool} (h1 : L.all (fun c => isCode c || P c) = true) (h2 : ∀ c ∈ L.filter isCode, P c = true) : L.all P = true := by
  refine List.all_eq_true.mpr fun c hc => ?_
  have h := List.all_eq_true.mp h1 c hc
  rcases Bool.eq_false_or_eq_true (isCode c) with hi | hi
  · exact h2 c (List.mem_filter.mpr ⟨hc, hi⟩)
  · simpa [hi] using h
set_option maxRecDepth 65536 in
theorem w_c0 : (Jvm.Cond.code x code maxLocals ret).before args0 about1 = true := code_word (m := ⟨1, 1⟩) (meth := k1m1) (c := k1c1) (by decide +kernel) rfl rfl rfl (by decide +kernel)
set_option maxRecDepth 65536 in
theorem w_c1 : (Jvm.Cond.code ({ cls := "java/lang/String", name := "<init>", desc := "([C)V" } : Jvm.MethodName) jdk_42_method_3_code (2 : Nat) (Option.none : Option Jvm.ClassFile.FieldType)).before args0 about1 = true := code_word (m := ⟨7, 1⟩) (meth := k7m1) (c := k7c1) (by decide +kernel) rfl rfl rfl (by decide +kernel)
set_option maxRecDepth 65536 in
theorem w_c2 : (Jvm.Cond.code ({ cls := "java/lang/String", name := "<init>", desc := "([CIILjava/lang/Void;)V" } : Jvm.MethodName) jdk_42_method_149_code (6 : Nat) (Option.none : Option Jvm.ClassFile.FieldType)).before args0 about1 = true := code_word (m := ⟨7, 2⟩) (meth := k7m2) (c := k7c2) (by decide +kernel) rfl rfl rfl (by decide +kernel)
set_option maxRecDepth 65536 in
theorem w_c3 : (Jvm.Cond.code ({ cls := "java/lang/Object", name := "<init>", desc := "()V" } : Jvm.MethodName) object_method_1_code (1 : Nat) (Option.none : Option Jvm.ClassFile.FieldType)).before args0 about1 = true := code_word (m := ⟨0, 0⟩) (meth := k0m0) (c := k0c0) (by decide +kernel) rfl rfl rfl (by decide +kernel)
set_option maxRecDepth 65536 in
theorem w_c4 : (Jvm.Cond.code ({ cls := "com/example/rowcall/rowcall/DeleteMarker", name := "row", desc := "()Lcom/example/rowcall/rowcall/DeleteMarker;" } : Jvm.MethodName) prog_14_method_2_code (0 : Nat) (Option.some (Jvm.ClassFile.FieldType.object "com/example/rowcall/rowcall/DeleteMarker"))).before args0 about1 = true := code_word (m := ⟨8, 1⟩) (meth := k8m1) (c := k8c1) (by decide +kernel) rfl rfl rfl (by decide +kernel)
set_option maxRecDepth 65536 in
theorem w_c5 : (Jvm.Cond.code ({ cls := "com/example/rowcall/rowcall/TableFiles", name := "markerKind", desc := "(Lcom/example/rowcall/rowcall/DeleteMarker;)B" } : Jvm.MethodName) prog_35_method_24_code (2 : Nat) (Option.some Jvm.ClassFile.FieldType.byte)).before args0 about1 = true := code_word (m := ⟨11, 0⟩) (meth := k11m0) (c := k11c0) (by decide +kernel) rfl rfl rfl (by decide +kernel)
set_option maxRecDepth 65536 in
theorem w_c6 : (Jvm.Cond.code ({ cls := "com/example/rowcall/rowcall/TableFiles", name := "isMarkerKind", desc := "(B)Z" } : Jvm.MethodName) prog_35_method_25_code (1 : Nat) (Option.some Jvm.ClassFile.FieldType.boolean)).before args0 about1 = true := code_word (m := ⟨11, 1⟩) (meth := k11m1) (c := k11c1) (by decide +kernel) rfl rfl rfl (by decide +kernel)
set_option maxRecDepth 65536 in
theorem w_c7 : (Jvm.Cond.code ({ cls := "com/example/rowcall/rowcall/DeleteMarker", name := "family", desc := "(Ljava/lang/String;)Lcom/example/rowcall/rowcall/DeleteMarker;" } : Jvm.MethodName) prog_14_method_3_code (1 : Nat) (Option.some (Jvm.ClassFile.FieldType.object "com/example/rowcall/rowcall/DeleteMarker"))).before args0 about1 = true := code_word (m := ⟨8, 2⟩) (meth := k8m2) (c := k8c2) (by decide +kernel) rfl rfl rfl (by decide +kernel)
set_option maxRecDepth 65536 in
theorem w_c8 : (Jvm.Cond.code ({ cls := "com/example/rowcall/rowcall/Columns", name := "family", desc := "(Ljava/lang/String;)Lcom/example/rowcall/rowcall/Columns;" } : Jvm.MethodName) prog_12_method_2_code (1 : Nat) (Option.some (Jvm.ClassFile.FieldType.object "com/example/rowcall/rowcall/Columns"))).before args0 about1 = true := code_word (m := ⟨12, 1⟩) (meth := k12m1) (c := k12c1) (by decide +kernel) rfl rfl rfl (by decide +kernel)
set_option maxRecDepth 65536 in
theorem w_c9 : (Jvm.Cond.code ({ cls := "java/util/Objects", name := "requireNonNull", desc := "(Ljava/lang/Object;Ljava/lang/String;)Ljava/lang/Object;" } : Jvm.MethodName) jdk_31_method_11_code (2 : Nat) (Option.some (Jvm.ClassFile.FieldType.object "java/lang/Object"))).before args0 about1 = true := code_word (m := ⟨13, 1⟩) (meth := k13m1) (c := k13c1) (by decide +kernel) rfl rfl rfl (by decide +kernel)
set_option maxRecDepth 65536 in
theorem w_c10 : (Jvm.Cond.code ({ cls := "com/example/rowcall/rowcall/Columns", name := "<init>", desc := "(Ljava/lang/String;[B)V" } : Jvm.MethodName) prog_12_method_1_code (3 : Nat) (Option.none : Option Jvm.ClassFile.FieldType)).before args0 about1 = true := code_word (m := ⟨12, 0⟩) (meth := k12m0) (c := k12c0) (by decide +kernel) rfl rfl rfl (by decide +kernel)
set_option maxRecDepth 65536 in
theorem w_c11 : (Jvm.Cond.code ({ cls := "com/example/rowcall/rowcall/DeleteMarker", name := "<init>", desc := "(Lcom/example/rowcall/rowcall/Columns;J)V" } : Jvm.MethodName) prog_14_method_1_code (4 : Nat) (Option.none : Option Jvm.ClassFile.FieldType)).before args0 about1 = true := code_word (m := ⟨8, 0⟩) (meth := k8m0) (c := k8c0) (by decide +kernel) rfl rfl rfl (by decide +kernel)
set_option maxRecDepth 65536 in
theorem w_c12 : (Jvm.Cond.code ({ cls := "java/lang/StringUTF16", name := "compress", desc := "([CII)[B" } : Jvm.MethodName) jdk_52_method_16_code (6 : Nat) (Option.some (Jvm.ClassFile.FieldType.array Jvm.ClassFile.FieldType.byte))).before args0 about1 = true := code_word (m := ⟨14, 2⟩) (meth := k14m2) (c := k14c2) (by decide +kernel) rfl rfl rfl (by decide +kernel)
set_option maxRecDepth 65536 in
theorem w_c13 : (Jvm.Cond.code ({ cls := "java/lang/StringUTF16", name := "compress", desc := "([CI[BII)I" } : Jvm.MethodName) jdk_52_method_21_code (7 : Nat) (Option.some Jvm.ClassFile.FieldType.int)).before args0 about1 = true := code_word (m := ⟨14, 3⟩) (meth := k14m3) (c := k14c3) (by decide +kernel) rfl rfl rfl (by decide +kernel)
set_option maxRecDepth 65536 in
theorem w_c14 : (Jvm.Cond.code ({ cls := "java/lang/StringUTF16", name := "coderFromArrayLen", desc := "([BI)B" } : Jvm.MethodName) jdk_52_method_15_code (2 : Nat) (Option.some Jvm.ClassFile.FieldType.byte)).before args0 about1 = true := code_word (m := ⟨14, 1⟩) (meth := k14m1) (c := k14c1) (by decide +kernel) rfl rfl rfl (by decide +kernel)
set_option maxRecDepth 65536 in
theorem w_c15 : (Jvm.Cond.code ({ cls := "com/example/rowcall/rowcall/DeleteMarker", name := "column", desc := "(Ljava/lang/String;[B)Lcom/example/rowcall/rowcall/DeleteMarker;" } : Jvm.MethodName) prog_14_method_4_code (2 : Nat) (Option.some (Jvm.ClassFile.FieldType.object "com/example/rowcall/rowcall/DeleteMarker"))).before args0 about1 = true := code_word (m := ⟨8, 3⟩) (meth := k8m3) (c := k8c3) (by decide +kernel) rfl rfl rfl (by decide +kernel)
set_option maxRecDepth 65536 in
theorem w_c16 : (Jvm.Cond.code ({ cls := "com/example/rowcall/rowcall/Columns", name := "column", desc := "(Ljava/lang/String;[B)Lcom/example/rowcall/rowcall/Columns;" } : Jvm.MethodName) prog_12_method_3_code (2 : Nat) (Option.some (Jvm.ClassFile.FieldType.object "com/example/rowcall/rowcall/Columns"))).before args0 about1 = true := code_word (m := ⟨12, 2⟩) (meth := k12m2) (c := k12c2) (by decide +kernel) rfl rfl rfl (by decide +kernel)
set_option maxRecDepth 65536 in
theorem w_c17 : (Jvm.Cond.code ({ cls := "com/example/rowcall/rowcall/DeleteMarker", name := "at", desc := "(J)Lcom/example/rowcall/rowcall/DeleteMarker;" } : Jvm.MethodName) prog_14_method_6_code (3 : Nat) (Option.some (Jvm.ClassFile.FieldType.object "com/example/rowcall/rowcall/DeleteMarker"))).before args0 about1 = true := code_word (m := ⟨8, 4⟩) (meth := k8m4) (c := k8c4) (by decide +kernel) rfl rfl rfl (by decide +kernel)
set_option maxRecDepth 65536 in
theorem w_c18 : (Jvm.Cond.code ({ cls := "com/example/rowcall/rowcall/Cell", name := "checkTimestamp", desc := "(J)J" } : Jvm.MethodName) prog_11_method_10_code (2 : Nat) (Option.some Jvm.ClassFile.FieldType.long)).before args0 about1 = true := code_word (m := ⟨16, 0⟩) (meth := k16m0) (c := k16c0) (by decide +kernel) rfl rfl rfl (by decide +kernel)
def codes1 : List Jvm.Cond := [Jvm.Cond.code x code maxLocals ret, Jvm.Cond.code ({ cls := "java/lang/String", name := "<init>", desc := "([C)V" } : Jvm.MethodName) jdk_42_method_3_code (2 : Nat) (Option.none : Option Jvm.ClassFile.FieldType), Jvm.Cond.code ({ cls := "java/lang/String", name := "<init>", desc := "([CIILjava/lang/Void;)V" } : Jvm.MethodName) jdk_42_method_149_code (6 : Nat) (Option.none : Option Jvm.ClassFile.FieldType), Jvm.Cond.code ({ cls := "java/lang/Object", name := "<init>", desc := "()V" } : Jvm.MethodName) object_method_1_code (1 : Nat) (Option.none : Option Jvm.ClassFile.FieldType), Jvm.Cond.code ({ cls := "com/example/rowcall/rowcall/DeleteMarker", name := "row", desc := "()Lcom/example/rowcall/rowcall/DeleteMarker;" } : Jvm.MethodName) prog_14_method_2_code (0 : Nat) (Option.some (Jvm.ClassFile.FieldType.object "com/example/rowcall/rowcall/DeleteMarker")), Jvm.Cond.code ({ cls := "com/example/rowcall/rowcall/TableFiles", name := "markerKind", desc := "(Lcom/example/rowcall/rowcall/DeleteMarker;)B" } : Jvm.MethodName) prog_35_method_24_code (2 : Nat) (Option.some Jvm.ClassFile.FieldType.byte), Jvm.Cond.code ({ cls := "com/example/rowcall/rowcall/TableFiles", name := "isMarkerKind", desc := "(B)Z" } : Jvm.MethodName) prog_35_method_25_code (1 : Nat) (Option.some Jvm.ClassFile.FieldType.boolean), Jvm.Cond.code ({ cls := "com/example/rowcall/rowcall/DeleteMarker", name := "family", desc := "(Ljava/lang/String;)Lcom/example/rowcall/rowcall/DeleteMarker;" } : Jvm.MethodName) prog_14_method_3_code (1 : Nat) (Option.some (Jvm.ClassFile.FieldType.object "com/example/rowcall/rowcall/DeleteMarker")), Jvm.Cond.code ({ cls := "com/example/rowcall/rowcall/Columns", name := "family", desc := "(Ljava/lang/String;)Lcom/example/rowcall/rowcall/Columns;" } : Jvm.MethodName) prog_12_method_2_code (1 : Nat) (Option.some (Jvm.ClassFile.FieldType.object "com/example/rowcall/rowcall/Columns")), Jvm.Cond.code ({ cls := "java/util/Objects", name := "requireNonNull", desc := "(Ljava/lang/Object;Ljava/lang/String;)Ljava/lang/Object;" } : Jvm.MethodName) jdk_31_method_11_code (2 : Nat) (Option.some (Jvm.ClassFile.FieldType.object "java/lang/Object")), Jvm.Cond.code ({ cls := "com/example/rowcall/rowcall/Columns", name := "<init>", desc := "(Ljava/lang/String;[B)V" } : Jvm.MethodName) prog_12_method_1_code (3 : Nat) (Option.none : Option Jvm.ClassFile.FieldType), Jvm.Cond.code ({ cls := "com/example/rowcall/rowcall/DeleteMarker", name := "<init>", desc := "(Lcom/example/rowcall/rowcall/Columns;J)V" } : Jvm.MethodName) prog_14_method_1_code (4 : Nat) (Option.none : Option Jvm.ClassFile.FieldType), Jvm.Cond.code ({ cls := "java/lang/StringUTF16", name := "compress", desc := "([CII)[B" } : Jvm.MethodName) jdk_52_method_16_code (6 : Nat) (Option.some (Jvm.ClassFile.FieldType.array Jvm.ClassFile.FieldType.byte)), Jvm.Cond.code ({ cls := "java/lang/StringUTF16", name := "compress", desc := "([CI[BII)I" } : Jvm.MethodName) jdk_52_method_21_code (7 : Nat) (Option.some Jvm.ClassFile.FieldType.int), Jvm.Cond.code ({ cls := "java/lang/StringUTF16", name := "coderFromArrayLen", desc := "([BI)B" } : Jvm.MethodName) jdk_52_method_15_code (2 : Nat) (Option.some Jvm.ClassFile.FieldType.byte), Jvm.Cond.code ({ cls := "com/example/rowcall/rowcall/DeleteMarker", name := "column", desc := "(Ljava/lang/String;[B)Lcom/example/rowcall/rowcall/DeleteMarker;" } : Jvm.MethodName) prog_14_method_4_code (2 : Nat) (Option.some (Jvm.ClassFile.FieldType.object "com/example/rowcall/rowcall/DeleteMarker")), Jvm.Cond.code ({ cls := "com/example/rowcall/rowcall/Columns", name := "column", desc := "(Ljava/lang/String;[B)Lcom/example/rowcall/rowcall/Columns;" } : Jvm.MethodName) prog_12_method_3_code (2 : Nat) (Option.some (Jvm.ClassFile.FieldType.object "com/example/rowcall/rowcall/Columns")), Jvm.Cond.code ({ cls := "com/example/rowcall/rowcall/DeleteMarker", name := "at", desc := "(J)Lcom/example/rowcall/rowcall/DeleteMarker;" } : Jvm.MethodName) prog_14_method_6_code (3 : Nat) (Option.some (Jvm.ClassFile.FieldType.object "com/example/rowcall/rowcall/DeleteMarker")), Jvm.Cond.code ({ cls := "com/example/rowcall/rowcall/Cell", name := "checkTimestamp", desc := "(J)J" } : Jvm.MethodName) prog_11_method_10_code (2 : Nat) (Option.some Jvm.ClassFile.FieldType.long)]
set_option maxRecDepth 65536 in
theorem codes_eq : words1.filter isCode = codes1 := rfl
theorem w_codes : ∀ c ∈ words1.filter isCode, c.before args0 about1 = true := by
  rw [codes_eq]
  intro c hc
  simp only [codes1, List.mem_cons, List.not_mem_nil, or_false] at hc
  rcases hc with rfl | rfl | rfl | rfl | rfl | rfl | rfl | rfl | rfl | rfl | rfl | rfl | rfl | rfl | rfl | rfl | rfl | rfl | rfl
  · exact w_c0
  · exact w_c1
  · exact w_c2
  · exact w_c3
  · exact w_c4
  · exact w_c5
  · exact w_c6
  · exact w_c7
  · exact w_c8
  · exact w_c9
  · exact w_c10
  · exact w_c11
  · exact w_c12
  · exact w_c13
  · exact w_c14
  · exact w_c15
  · exact w_c16
  · exact w_c17
  · exact w_c18
set_option maxRecDepth 65536 in
theorem w_t1 : (words1.take 24).all (fun c => isCode c || c.before args0 about1) = true := by decide +kernel
set_option maxRecDepth 65536 in
theorem w_t2 : ((words1.drop 24).take 24).all (fun c => isCode c || c.before args0 about1) = true := by decide +kernel
set_option maxRecDepth 65536 in
theorem w_t3 : (((words1.drop 24).drop 24).take 24).all (fun c => isCode c || c.before args0 about1) = true := by decide +kernel
set_option maxRecDepth 65536 in
theorem w_t4 : ((((words1.drop 24).drop 24).drop 24).take 24).all (fun c => isCode c || c.before args0 about1) = true := by decide +kernel
set_option maxRecDepth 65536 in
theorem w_t5 : ((((words1.drop 24).drop 24).drop 24).drop 24).all (fun c => isCode c || c.before args0 about1) = true := by decide +kernel
theorem w_tables : (allAtoms (Jvm.Cond.code x code maxLocals ret :: tables_1)).before args0 about1 = true := by
  rw [allAtoms_all]
  show words1.all (fun c => c.before args0 about1) = true
  refine all_split ?_ w_codes
  rw [← List.take_append_drop 24 words1, List.all_append, w_t1, ← List.take_append_drop 24 (words1.drop 24), List.all_append, w_t2, ← List.take_append_drop 24 ((words1.drop 24).drop 24), List.all_append, w_t3, ← List.take_append_drop 24 (((words1.drop 24).drop 24).drop 24), List.all_append, w_t4, w_t5]
  rfl
set_option maxRecDepth 65536 in
theorem w_rest : rest_1_c.before args0 about1 = true := by decide +kernel
set_option maxRecDepth 65536 in
theorem w_case : (Jvm.Cond.and given_1 narrow_1).before args0 about1 = true := by decide +kernel
set_option maxRecDepth 65536 in
theorem w_consts : constsHeld consts_1 about1 := Jvm.Lit.constsHeldB_iff.mp (by decide +kernel)
theorem w_applies : (headSpec (Jvm.Cond.code x code maxLocals ret :: tables_1) room_1).applies x e0.platform about1 = true :=
  (Spec.applies_iff w_frames).mpr ⟨w_running, w_runnable, w_alone, w_named, w_hears, w_ripe, w_room, w_tables⟩
theorem atStart : AtStart classFile x code maxLocals ret World_1 tables_1 room_1 Calls_1 rest_1 Pre_1 launch0 p0 e0 about1 theMethod args0 below0 :=
  ⟨lists_1, trivial, launch0.admits_env _ _ _, launch0.least_env, fairChoices_fair.cas, fairChoices_fair.clock, w_frames, w_args, w_heap, w_applies, ⟨w_consts, trivial⟩, w_rest, w_case⟩
end start1
theorem witness_1 : WitnessClaimed_1 := ⟨start1.p0, start1.e0, start1.about1, start1.theMethod, start1.args0, start1.below0, start1.atStart⟩
end Jvm.Pilot.@@N@@
