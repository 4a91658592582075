import JvmDerived
import JvmDerived.Pilot.@@N@@Statement
import JvmDerived.Pilot.@@N@@Code
set_option linter.unusedVariables false
set_option linter.unusedSimpArgs false
@@BLOCK:NumsL.lean.txt@@
namespace Jvm.RoadKit
open Sem ClassFile Op Lib Jvm.Stand Jvm.Free Jvm.LawKit
section New
variable {p : Program} {l : Launch} {e : Env} {R : Room} {s : State} {m : MethodId} {args : Array Value} {below : List Frame} {meth : Method} {c : Code} {T : State} {locs : List Loc} {cells slots : Nat}
theorem retI (X : Stand p l e R s m args below meth c T locs cells slots) (hx : p.tables.exec = Jvm.exec) {pc : Nat} {Ls : Array Slot} {z : Int32} {rest : List Value} (hret : meth.sig.returnType = some .int) (hd : decode c.code pc = .ok (.ireturn, 1)) {fs : List Frame}
    (hl : ∀ (f : JFrame) (acts : List Action), f.method = m → f.locked = none → f.entered = [] → (doReturn e (T.setTop f) acts (some (.int z))).1 = T.setFrames fs) : Steps p.tables e below (T.setTop (mkF m pc Ls (.int z :: rest))) (T.setFrames fs) := by
  have hm' : T.vm.method? m = some meth := X.method'
  have hn : narrow .int (.int z) = .int z := rfl
  show Steps p.tables e below (T.setTop { method := m, pc := pc, locals := Ls, stack := _ :: rest, locked := none }) _
  jvm_step X.here [X.here.top, hx, hd, hm', hret, hn]
  first | (intro acts; rw [hl _ acts rfl rfl rfl]) | rw [hl _ _ rfl rfl rfl]
  exact Steps.refl _
end New
end Jvm.RoadKit
namespace Jvm.Pilot.@@N@@
open Jvm Jvm.ClassFile Sem Op Lib Jvm.Free Jvm.Stand Jvm.LawKit Jvm.RoadKit Bundle Jvm.Pilot.@@N@@.Jvm.D
section OwnLayer
variable {p : Program} {l : Launch} {e : Env} {R : Room} {s : State} {m : MethodId} {args : Array Value} {below : List Frame} {meth : Method} {c : Code} {T T' : State} {h h' : Heap} {n0 ck sk ck' sk' : Nat} {Z : State} {a0 : Array Value} {Post : Outcome → State → Prop} {g g' : JFrame}
/-- from this state and frame the run comes to an end of the invocation of which Post holds -/
def Go (p : Program) (e : Env) (below : List Frame) (Post : Outcome → State → Prop) (T : State) (g : JFrame) : Prop :=
  ∃ s₂ o, Steps p.tables e below (T.setTop g) s₂ ∧ s₂.status = .running ∧ Ended s₂ below o ∧ Post o s₂
theorem Go.st (hs : ∀ t, Steps p.tables e below (T'.setTop g') t → Steps p.tables e below (T.setTop g) t) (k : Go p e below Post T' g') : Go p e below Post T g := by
  obtain ⟨s2, o, h1, h2⟩ := k
  exact ⟨s2, o, hs _ h1, h2⟩
/-- where the walk stands: the heap is h; what was written lies at or above n0; at most ck cells and sk slots were made -/
def Stn (p : Program) (l : Launch) (e : Env) (R : Room) (s : State) (m : MethodId) (args : Array Value) (below : List Frame) (meth : Method) (c : Code) (n0 : Nat) (T : State) (h : Heap) (ck sk : Nat) : Prop :=
  T.heap = h ∧ ∃ locs, Fr n0 locs ∧ Stand p l e R s m args below meth c T locs ck sk
theorem Stn.here (X : Stn p l e R s m args below meth c n0 T h ck sk) : At T m c below := by
  obtain ⟨_, _, _, Y⟩ := X
  exact Y.here
theorem Stn.mono (X : Stn p l e R s m args below meth c n0 T h ck sk) (h1 : ck ≤ ck') (h2 : sk ≤ sk') : Stn p l e R s m args below meth c n0 T h ck' sk' := by
  obtain ⟨e1, L, N, Y⟩ := X
  exact ⟨e1, L, N, Y.more h1 h2⟩
/-- what a body's end says -/
def PostW (s : State) (n0 C S : Nat) (Q : Option Value → Heap → Prop) (o : Outcome) (U : State) : Prop :=
  ∃ v L, o = .returned v ∧ (Fr n0 L ∧ Q v U.heap) ∧ FrameEnd s o U L C S
/-- a body's contract -/
def Con (l : Launch) (y : MethodName) (bytes : ByteArray) (maxL : Nat) (ret : Option FieldType) (rm : Room) (ws : List Jvm.Cond) (Z : State) (n0 : Nat) (as' : Array Value) (h : Heap) (Q : Option Value → Heap → Prop) : Prop :=
  MetFree l y (head1 (Jvm.Cond.code y bytes maxL ret :: ws) rm) (fun a U => a = as' ∧ Z.Warmed39 U.vm ∧ U.heap = h) (fun _ _ _ _ _ => True) (fun _ U o U' => ∃ v L, o = .returned v ∧ (Fr n0 L ∧ Q v U'.heap) ∧ FrameEnd U o U' L rm.cells rm.slots)
theorem Con.body {y : MethodName} {bytes : ByteArray} {maxL : Nat} {ret : Option FieldType} {rm : Room} {ws : List Jvm.Cond} {as' : Array Value} {Q : Option Value → Heap → Prop} (hp : plainFor y = true)
    (k : ∀ (p : Program) (e : Env) (s : State) (m : MethodId) (below : List Frame) (meth : Method) (c : Code) (s₁ : State), p.tables.exec = Jvm.exec → c.code = bytes → c.maxLocals = maxL → s.vm.findClass y.cls = some m.cls → meth.name = y.name → meth.sig.returnType = ret → meth.locks = false → Z.Warmed39 s.vm →
      Stn p l e rm s m as' below meth c n0 s₁ h 0 0 → Go p e below (PostW s n0 rm.cells rm.slots Q) s₁ (entryFrame m as' maxL)) : Con l y bytes maxL ret rm ws Z n0 as' h Q := by
  refine MetFree.of_bodySF hp hisR ?_
  intro p e s m args below meth c s₁ Bd hml0 hP hK
  obtain ⟨rfl, hZ, hh⟩ := hP
  have e0 : s₁.heap = h := by rw [← hh, Bd.state]; rfl
  exact k p e s m below meth c s₁ Bd.exec Bd.bytes hml0 (findClass_of_methodNamed Bd.named) (name_of_methodNamed Bd.named Bd.method).1 Bd.returns Bd.notSynchronized hZ ⟨e0, [], Fr.nil n0, Stand.of_body Bd⟩
theorem Con.mono {y : MethodName} {bytes : ByteArray} {maxL : Nat} {ret : Option FieldType} {rm : Room} {ws : List Jvm.Cond} {as' : Array Value} {Q Q' : Option Value → Heap → Prop} (hM : Con l y bytes maxL ret rm ws Z n0 as' h Q) (hq : ∀ v h', Q v h' → Q' v h') : Con l y bytes maxL ret rm ws Z n0 as' h Q' := by
  intro p e ha hc hk s m args below hf happ hP hK
  obtain ⟨n, o, h1, h2, h3, v, L, h4, ⟨h5, h6⟩, h7⟩ := hM p e ha hc hk s m args below hf happ hP hK
  exact ⟨n, o, h1, h2, h3, v, L, h4, ⟨h5, hq _ _ h6⟩, h7⟩
/-! a long's comparison -/
theorem lcTlt {a b : Int64} (h : a < b) : ifCond.holds .lt (lcmpW a b) = true ∧ ifCond.holds .ge (lcmpW a b) = false := by
  have q : lcmpW a b < 0 := by rw [lcW]; exact (lc_lt a b).mpr h
  exact ⟨(if0 _ _).trans (tlt q).1, (if0 _ _).trans (tlt q).2.1⟩
theorem lcFlt {a b : Int64} (h : ¬ a < b) : ifCond.holds .lt (lcmpW a b) = false ∧ ifCond.holds .ge (lcmpW a b) = true := by
  have q : ¬ lcmpW a b < 0 := fun z => h ((lc_lt a b).mp (by rw [← lcW]; exact z))
  exact ⟨(if0 _ _).trans (flt q).1, (if0 _ _).trans (flt q).2.1⟩
theorem lcTgt {a b : Int64} (h : b < a) : ifCond.holds .gt (lcmpW a b) = true ∧ ifCond.holds .le (lcmpW a b) = false := by
  have q : 0 < lcmpW a b := by rw [lcW]; exact (lc_gt a b).mpr h
  exact ⟨(if0 _ _).trans (tlt q).2.2.1, (if0 _ _).trans (tlt q).2.2.2⟩
theorem lcFgt {a b : Int64} (h : ¬ b < a) : ifCond.holds .gt (lcmpW a b) = false ∧ ifCond.holds .le (lcmpW a b) = true := by
  have q : ¬ 0 < lcmpW a b := fun z => h ((lc_gt a b).mp (by rw [← lcW]; exact z))
  exact ⟨(if0 _ _).trans (flt q).2.2.1, (if0 _ _).trans (flt q).2.2.2⟩
theorem lcTeq {a b : Int64} (h : a = b) : ifCond.holds .eq (lcmpW a b) = true ∧ ifCond.holds .ne (lcmpW a b) = false := by
  have q : lcmpW a b = 0 := by rw [lcW]; exact (lc_eq a b).mpr h
  exact ⟨(if0 _ _).trans (teq q).1, (if0 _ _).trans (teq q).2⟩
theorem lcFeq {a b : Int64} (h : ¬ a = b) : ifCond.holds .eq (lcmpW a b) = false ∧ ifCond.holds .ne (lcmpW a b) = true := by
  have q : ¬ lcmpW a b = 0 := fun z => h ((lc_eq a b).mp (by rw [← lcW]; exact z))
  exact ⟨(if0 _ _).trans (feq q).1, (if0 _ _).trans (feq q).2⟩
theorem acT {a b : Addr} (h : a = b) : if_acmp.holds .eq (some a) (some b) = true ∧ if_acmp.holds .ne (some a) (some b) = false := by subst h; simp [if_acmp.holds]
theorem acF {a b : Addr} (h : ¬ a = b) : if_acmp.holds .eq (some a) (some b) = false ∧ if_acmp.holds .ne (some a) (some b) = true := by simp [if_acmp.holds, h]
/-! returns -/
theorem goRet {v : Option Value} {Q : Option Value → Heap → Prop} {C S : Nat} (X : Stn p l e R s m args below meth c n0 T h ck sk) (hlk : meth.locks = false) (hv : meth.sig.returnType = none → v = none)
    (hst : ∀ locs fs, Stand p l e R s m args below meth c T locs ck sk → (∀ (f : JFrame) (acts : List Action), f.method = m → f.locked = none → f.entered = [] → (doReturn e (T.setTop f) acts v).1 = T.setFrames fs) → Steps p.tables e below (T.setTop g) (T.setFrames fs))
    (hq : Q v h) (h1 : ck ≤ C) (h2 : sk ≤ S) : Go p e below (PostW s n0 C S Q) T g := by
  obtain ⟨eT, locs, N, Y⟩ := X
  obtain ⟨fs, hr, hrun, hended, hW, hsame⟩ := Y.leave hv hlk
  exact ⟨_, _, hst locs fs Y hr, hrun, hended, _, _, rfl, ⟨N, (by show Q v T.heap; rw [eT]; exact hq)⟩, ⟨_, rfl⟩, hW, hsame.mono h1 h2⟩
theorem goRetI {pc : Nat} {Ls : Array Slot} {z : Int32} {rest : List Value} {Q : Option Value → Heap → Prop} {C S : Nat} (X : Stn p l e R s m args below meth c n0 T h ck sk) (hx : p.tables.exec = Jvm.exec) (hlk : meth.locks = false) (hret : meth.sig.returnType = some .int)
    (hd : decode c.code pc = .ok (.ireturn, 1)) (h1 : ck ≤ C) (h2 : sk ≤ S) (hq : Q (some (.int z)) h) : Go p e below (PostW s n0 C S Q) T (mkF m pc Ls (.int z :: rest)) :=
  goRet X hlk (fun h => by rw [hret] at h; cases h) (fun _ _ Y hr => retI Y hx hret hd hr) hq h1 h2
theorem goRetZ {pc : Nat} {Ls : Array Slot} {z : Int32} {rest : List Value} {Q : Option Value → Heap → Prop} {C S : Nat} (X : Stn p l e R s m args below meth c n0 T h ck sk) (hx : p.tables.exec = Jvm.exec) (hlk : meth.locks = false) (hret : meth.sig.returnType = some .boolean)
    (hd : decode c.code pc = .ok (.ireturn, 1)) (h1 : ck ≤ C) (h2 : sk ≤ S) (hz : z = 0 ∨ z = 1) (hq : Q (some (.int z)) h) : Go p e below (PostW s n0 C S Q) T (mkF m pc Ls (.int z :: rest)) := by
  rcases hz with rfl | rfl
  · exact goRet X hlk (fun h => by rw [hret] at h; cases h) (fun _ _ Y hr => retN Y hx (t := .boolean) hret (by simp) hd hr) hq h1 h2
  · exact goRet X hlk (fun h => by rw [hret] at h; cases h) (fun _ _ Y hr => retN Y hx (t := .boolean) hret (by simp) hd hr) hq h1 h2
theorem goRetV {pc : Nat} {Ls : Array Slot} {Q : Option Value → Heap → Prop} {C S : Nat} (X : Stn p l e R s m args below meth c n0 T h ck sk) (hx : p.tables.exec = Jvm.exec) (hlk : meth.locks = false) (hret : meth.sig.returnType = none)
    (hd : decode c.code pc = .ok (.return_, 1)) (h1 : ck ≤ C) (h2 : sk ≤ S) (hq : Q none h) : Go p e below (PostW s n0 C S Q) T (mkF m pc Ls []) :=
  goRet X hlk (fun _ => rfl) (fun _ _ Y hr => Y.returnOut hx hret hd hr) hq h1 h2
theorem goRetL {pc : Nat} {Ls : Array Slot} {z : Int64} {rest : List Value} {Q : Option Value → Heap → Prop} {C S : Nat} (X : Stn p l e R s m args below meth c n0 T h ck sk) (hx : p.tables.exec = Jvm.exec) (hlk : meth.locks = false) (hret : meth.sig.returnType = some .long)
    (hd : decode c.code pc = .ok (.lreturn, 1)) (h1 : ck ≤ C) (h2 : sk ≤ S) (hq : Q (some (.long z)) h) : Go p e below (PostW s n0 C S Q) T (mkF m pc Ls (.long z :: rest)) :=
  goRet X hlk (fun h => by rw [hret] at h; cases h) (fun _ _ Y hr => by
    jvm_step Y.here [Y.here.top, hx, hd, Y.method', hret, narrow]
    first | (intro acts; rw [hr _ acts rfl rfl rfl]) | rw [hr _ _ rfl rfl rfl]
    exact Steps.refl _) hq h1 h2
theorem goRetA {pc : Nat} {Ls : Array Slot} {z : Addr} {rest : List Value} {t : FieldType} {Q : Option Value → Heap → Prop} {C S : Nat} (X : Stn p l e R s m args below meth c n0 T h ck sk) (hx : p.tables.exec = Jvm.exec) (hlk : meth.locks = false) (hret : meth.sig.returnType = some t) (ht : t.isReference = true)
    (hd : decode c.code pc = .ok (.areturn, 1)) (h1 : ck ≤ C) (h2 : sk ≤ S) (hq : Q (some (.ref z)) h) : Go p e below (PostW s n0 C S Q) T (mkF m pc Ls (.ref z :: rest)) :=
  goRet X hlk (fun h => by rw [hret] at h; cases h) (fun _ _ Y hr => by
    jvm_step Y.here [Y.here.top, hx, hd, Y.method', hret, Value.isRef, ht]
    first | (intro acts; rw [hr _ acts rfl rfl rfl]) | rw [hr _ _ rfl rfl rfl]
    exact Steps.refl _) hq h1 h2
/-! fields, objects -/
theorem goGet (X : Stn p l e R s m args below meth c n0 T h ck sk) (hx : p.tables.exec = Jvm.exec) (hZ : Z.Warmed39 s.vm) {own R0 O n d host : String} {index : Nat} (hown : s.vm.findClass own = some m.cls) (w : (Cond.fieldLink own index R0 n d).before a0 Z = true ∨ (Cond.fieldLinkNest own index R0 n d host).before a0 Z = true) (via : Via Z R0 O n d)
    {a : Addr} {v : Value} (F : Fld Z h a O n d v) {pc : Nat} {ls : Array Slot} {rest : List Value} (hd : decode c.code pc = .ok (.getfield index, 3))
    (k : ∀ T', Stn p l e R s m args below meth c n0 T' h ck sk → Go p e below Post T' (mkF m (pc + 3) ls (v :: rest))) : Go p e below Post T (mkF m pc ls (.ref a :: rest)) := by
  obtain ⟨eT, locs, N, Y⟩ := X
  obtain ⟨T', X', e', st⟩ := getF Y hx hZ hown w via eT F (g := mkF m pc ls (.ref a :: rest)) rfl rfl hd
  exact Go.st st (k T' ⟨e', locs, N, X'⟩)
theorem goPut (X : Stn p l e R s m args below meth c n0 T h ck sk) (hx : p.tables.exec = Jvm.exec) (hZ : Z.Warmed39 s.vm) {own R0 O n d host C : String} {index kk : Nat} {ty : FieldType} (hown : s.vm.findClass own = some m.cls) (w : (Cond.fieldLink own index R0 n d).before a0 Z = true ∨ (Cond.fieldLinkNest own index R0 n d host).before a0 Z = true) (via : Via Z R0 O n d)
    {a : Addr} {v old : Value} (F : Fld Z h a O n d old) (E : Exa Z h a C) (L : (Cond.lays C O n d).before a0 Z = true ∨ ((Cond.laysFinal C O n d).before a0 Z = true ∧ own = O ∧ meth.name = "<init>")) (wi : (Cond.instantiable C kk).before a0 Z = true)
    (hty : parseFieldDescriptor d = some ty) (hn : narrow ty v = v) (hf : fits ty v = true) (ha : n0 ≤ a) {pc : Nat} {ls : Array Slot} {rest : List Value} (hd : decode c.code pc = .ok (.putfield index, 3))
    (k : ∀ T' h', Stn p l e R s m args below meth c n0 T' h' ck sk → Wr h h' a (Jvm.RoadKit.slotOf Z O n d) v → Go p e below Post T' (mkF m (pc + 3) ls rest)) : Go p e below Post T (mkF m pc ls (v :: .ref a :: rest)) := by
  obtain ⟨eT, locs, N, Y⟩ := X
  obtain ⟨T', h', X', e', W, st⟩ := putF Y hx hZ hown w via eT F E L wi hty hn hf (g := mkF m pc ls (v :: .ref a :: rest)) rfl rfl hd
  exact Go.st st (k T' h' ⟨e', _, Fr.snoc X' N ha, X'⟩ W)
theorem goPutN (X : Stn p l e R s m args below meth c n0 T h ck sk) (hx : p.tables.exec = Jvm.exec) (hZ : Z.Warmed39 s.vm) {own R0 O n d C : String} {index kk : Nat} {ty : FieldType} (hown : s.vm.findClass own = some m.cls) (w : (Cond.fieldLink own index R0 n d).before a0 Z = true) (via : Via Z R0 O n d)
    {a : Addr} {v v' old : Value} (F : Fld Z h a O n d old) (E : Exa Z h a C) (L : (Cond.lays C O n d).before a0 Z = true ∨ ((Cond.laysFinal C O n d).before a0 Z = true ∧ own = O ∧ meth.name = "<init>")) (wi : (Cond.instantiable C kk).before a0 Z = true)
    (hty : parseFieldDescriptor d = some ty) (hn : narrow ty v = v') (hf : fits ty v' = true) (ha : n0 ≤ a) {pc : Nat} {ls : Array Slot} {rest : List Value} (hd : decode c.code pc = .ok (.putfield index, 3))
    (k : ∀ T' h', Stn p l e R s m args below meth c n0 T' h' ck sk → Wr h h' a (Jvm.RoadKit.slotOf Z O n d) v' → Go p e below Post T' (mkF m (pc + 3) ls rest)) : Go p e below Post T (mkF m pc ls (v :: .ref a :: rest)) := by
  obtain ⟨eT, locs, N, Y⟩ := X
  obtain ⟨T', h', X', e', W, st⟩ := putFN Y hx hZ hown w via eT F E L wi hty hn hf (g := mkF m pc ls (v :: .ref a :: rest)) rfl rfl hd
  exact Go.st st (k T' h' ⟨e', _, Fr.snoc X' N ha, X'⟩ W)
theorem goNew (X : Stn p l e R s m args below meth c n0 T h ck sk) (hx : p.tables.exec = Jvm.exec) (hZ : Z.Warmed39 s.vm) {own C : String} {index n : Nat} (hown : s.vm.findClass own = some m.cls) (w : (Cond.classLink own index C).before a0 Z = true) (wi : (Cond.instantiable C n).before a0 Z = true) (wz : (Cond.initialized C).before a0 Z = true)
    {pc : Nat} {ls : Array Slot} {st : List Value} (hd : decode c.code pc = .ok (.new index, 3)) (hc : ck + 1 ≤ R.cells) (hl : sk + n ≤ R.slots)
    (k : ∀ T' h' a, a = h.size → Stn p l e R s m args below meth c n0 T' h' (ck + 1) (sk + n) → Ext h h' → Exa Z h' a C → (∀ {O nm d : String} {ty : FieldType}, Laid Z a0 C O nm d → parseFieldDescriptor d = some ty → Fld Z h' a O nm d (defaultValue ty)) → Go p e below Post T' (mkF m (pc + 3) ls (.ref a :: st))) : Go p e below Post T (mkF m pc ls st) := by
  obtain ⟨eT, locs, N, Y⟩ := X
  obtain ⟨T', h', X', e', E, A, D, -, stp⟩ := newO Y hx hZ hown w wi wz eT (g := mkF m pc ls st) rfl hd hc hl
  exact Go.st stp (k T' h' _ rfl ⟨e', locs, N, X'⟩ E A D)
theorem goInit (X : Stn p l e R s m args below meth c n0 T h ck sk) (hx : p.tables.exec = Jvm.exec) (hZ : Z.Warmed39 s.vm) {own : String} {idx : Nat} (hown : s.vm.findClass own = some m.cls) (w1 : (Cond.methodLink own idx Lib.objectInit).before a0 Z = true) (w2 : (Cond.instanceMethod Lib.objectInit).before a0 Z = true)
    (w3 : (Cond.code Lib.objectInit object_method_1_code 1 none).before a0 Z = true) {pc : Nat} {ls : Array Slot} {a : Addr} {rest : List Value} (hsize : ls.size = c.maxLocals) (hd : decode c.code pc = .ok (.invokespecial idx, 3))
    (hf : 1 ≤ R.frames) {W : Nat} (hW : (rest.map fun v => v.category).sum ≤ W) (hl : W + 12 ≤ R.locals)
    (k : ∀ T', Stn p l e R s m args below meth c n0 T' h ck sk → Go p e below Post T' (mkF m (pc + 3) ls rest)) : Go p e below Post T (mkF m pc ls (.ref a :: rest)) := by
  obtain ⟨eT, locs, N, Y⟩ := X
  obtain ⟨T', X', e', st⟩ := initO Y hx hZ hown w1 w2 w3 eT (g := mkF m pc ls (.ref a :: rest)) rfl hsize rfl hd hf (W := W) (by show 2 * 0 + _ ≤ _; omega) hl
  exact Go.st st (k T' ⟨e', locs, N, X'⟩)
theorem Stn.ldcI (X : Stn p l e R s m args below meth c n0 T h ck sk) (hx : p.tables.exec = Jvm.exec) (hZ : Z.Warmed39 s.vm) {own : String} {index : Nat} {v : Int32} (hown : s.vm.findClass own = some m.cls) (w : (Cond.constant own index v).before a0 Z = true)
    {pc : Nat} {ls : Array Slot} {st : List Value} (hd : decode c.code pc = .ok (.ldc index, 2)) {t : State} (k : Steps p.tables e below (T.setTop (mkF m (pc + 2) ls (.int v :: st))) t) : Steps p.tables e below (T.setTop (mkF m pc ls st)) t := by
  obtain ⟨eT, locs, N, Y⟩ := X
  exact Y.ldcInt hx hown (mvT hZ w) (g := mkF m pc ls st) rfl hd t k
theorem Stn.ldcJ (X : Stn p l e R s m args below meth c n0 T h ck sk) (hx : p.tables.exec = Jvm.exec) (hZ : Z.Warmed39 s.vm) {own : String} {index : Nat} {v : Int64} (hown : s.vm.findClass own = some m.cls) (w : (Cond.constantLong own index v).before a0 Z = true)
    {pc : Nat} {ls : Array Slot} {st : List Value} (hd : decode c.code pc = .ok (.ldc2_w index, 3)) {t : State} (k : Steps p.tables e below (T.setTop (mkF m (pc + 3) ls (.long v :: st))) t) : Steps p.tables e below (T.setTop (mkF m pc ls st)) t := by
  obtain ⟨eT, locs, N, Y⟩ := X
  exact Y.ldc2Long hx hown (mvT hZ w) (g := mkF m pc ls st) rfl hd t k
/-! arrays: of kind ty, length n, whose places hold f -/
def Ary (Z : State) (h : Heap) (a : Addr) (ty : FieldType) (n : Nat) (f : Nat → Value) : Prop := ∃ cl : Cell, Arr Z h a cl ty ∧ cl.slots.size = n ∧ ∀ i, i < n → cl.slots[i]? = some (f i)
theorem Ary.lt {a : Addr} {ty : FieldType} {n : Nat} {f : Nat → Value} (A : Ary Z h a ty n f) : a < h.size := by obtain ⟨cl, A, -⟩ := A; exact A.lt
theorem Ary.ext {a : Addr} {ty : FieldType} {n : Nat} {f : Nat → Value} (E : Ext h h') (A : Ary Z h a ty n f) : Ary Z h' a ty n f := by obtain ⟨cl, A, r⟩ := A; exact ⟨cl, A.ext E, r⟩
theorem Ary.other {a b : Addr} {ty : FieldType} {n sl : Nat} {f : Nat → Value} {v : Value} (W : Wr h h' b sl v) (A : Ary Z h a ty n f) (q : a ≠ b) : Ary Z h' a ty n f := by obtain ⟨cl, A, r⟩ := A; exact ⟨cl, A.other W q, r⟩
theorem Ary.keep {a : Addr} {ty : FieldType} {n : Nat} {f : Nat → Value} {ws : List Addr} (A : Ary Z h a ty n f) (K : Keep h h' ws) (q : a ∉ ws) : Ary Z h' a ty n f := by obtain ⟨cl, A, r⟩ := A; exact ⟨cl, ⟨K.2.1 a cl A.1 q, A.2⟩, r⟩
theorem Ary.congr {a : Addr} {ty : FieldType} {n : Nat} {f f' : Nat → Value} (A : Ary Z h a ty n f) (q : ∀ i, i < n → f i = f' i) : Ary Z h a ty n f' := by obtain ⟨cl, A, r1, r2⟩ := A; exact ⟨cl, A, r1, fun i hi => by rw [← q i hi]; exact r2 i hi⟩
theorem Ary.set {a : Addr} {ty : FieldType} {n j : Nat} {f : Nat → Value} {v : Value} (A : Ary Z h a ty n f) (W : Wr h h' a j v) : Ary Z h' a ty n (fun i => if i = j then v else f i) := by
  obtain ⟨cl, A, r1, r2⟩ := A
  have A' := A.same W
  obtain ⟨c1, q1, -, q2, -⟩ := W
  cases q1.symm.trans A.1
  refine ⟨_, A', by rw [sz_set]; exact r1, fun i hi => ?_⟩
  by_cases hij : i = j
  · subst hij
    simp [Cell.setSlot, q2]
  · have : j ≠ i := fun z => hij z.symm
    simp [Cell.setSlot, hij, Array.getElem?_setIfInBounds_ne this, r2 i hi]
theorem Ary.new {k : ClassId} {a : Addr} {ty : FieldType} {z : Int32} (A : Arr Z h a (newA k ty z) ty) : Ary Z h a ty z.toNatClampNeg (fun _ => defaultValue ty) :=
  ⟨_, A, sz_new _ _ _, fun i hi => by simp [newA, hi]⟩
theorem ne_ary {a b : Addr} {C : String} {kk n : Nat} {ty : FieldType} {f : Nat → Value} (F : Exa Z h a C) (wi : (Cond.instantiable C kk).before a0 Z = true) (G : Ary Z h b ty n f) : a ≠ b := by
  obtain ⟨cl, A, -⟩ := G
  exact ne_arr F wi A
theorem goNewA (X : Stn p l e R s m args below meth c n0 T h ck sk) (hx : p.tables.exec = Jvm.exec) (hZ : Z.Warmed39 s.vm) {aty : ArrayType} (w : (Cond.arrayClass (newarray.typeOf aty)).before a0 Z = true)
    {pc : Nat} {ls : Array Slot} {n : Int32} {rest : List Value} (hd : decode c.code pc = .ok (.newarray aty, 2)) (hn : ¬ n < 0) {cap : Nat} (hcap : n.toNatClampNeg ≤ cap) (hb : cap * 8 ≤ 536870912) (hc : ck + 1 ≤ R.cells) (hl : sk + cap ≤ R.slots) {ad : String} (had : "[" ++ (newarray.typeOf aty).toString = ad)
    (k : ∀ T' h' a, a = h.size → Stn p l e R s m args below meth c n0 T' h' (ck + 1) (sk + cap) → Ext h h' → Exa Z h' a ad → Ary Z h' a (newarray.typeOf aty) n.toNatClampNeg (fun _ => defaultValue (newarray.typeOf aty)) → Go p e below Post T' (mkF m (pc + 2) ls (.ref a :: rest))) : Go p e below Post T (mkF m pc ls (.int n :: rest)) := by
  obtain ⟨eT, locs, N, Y⟩ := X
  obtain ⟨T', h', cA, X', e', E, A, Ex, st⟩ := newPE Y hx hZ w eT (g := mkF m pc ls (.int n :: rest)) rfl hd rfl hn hcap hb hc hl had
  exact Go.st st (k T' h' _ rfl ⟨e', locs, N, X'⟩ E Ex (Ary.new A))
theorem goClone (X : Stn p l e R s m args below meth c n0 T h ck sk) (hx : p.tables.exec = Jvm.exec) (hZ : Z.Warmed39 s.vm) {own ad : String} {index : Nat} (hown : s.vm.findClass own = some m.cls)
    (w1 : (Cond.methodLink own index ⟨ad, "clone", "()Ljava/lang/Object;"⟩).before a0 Z = true) (w2 : (Cond.sameMethod ad "java/lang/Object" "clone" "()Ljava/lang/Object;").before a0 Z = true) (w3 : (Cond.native ⟨"java/lang/Object", "clone", "()Ljava/lang/Object;"⟩).before a0 Z = true)
    (w4 : (Cond.instanceMethod ⟨"java/lang/Object", "clone", "()Ljava/lang/Object;"⟩).before a0 Z = true) (w5 : (Cond.selects ad ⟨ad, "clone", "()Ljava/lang/Object;"⟩ ⟨"java/lang/Object", "clone", "()Ljava/lang/Object;"⟩).before a0 Z = true) (w6 : (Cond.castable ad "java/lang/Cloneable").before a0 Z = true)
    {a : Addr} {ty : FieldType} {n : Nat} {f : Nat → Value} (A : Ary Z h a ty n f) (E : Exa Z h a ad) (hfit : ∀ i, i < n → fits ty (f i) = true) {pc : Nat} {ls : Array Slot} {rest : List Value} (hsize : ls.size = c.maxLocals) (hd : decode c.code pc = .ok (.invokevirtual index, 3))
    (hf : 1 ≤ R.frames) {W cap : Nat} (hW : (rest.map fun v => v.category).sum = W) (hl : W + 14 ≤ R.locals) (hcap : n ≤ cap) (hc : ck + 1 ≤ R.cells) (hsl : sk + cap ≤ R.slots)
    (k : ∀ T' h' b, b = h.size → Stn p l e R s m args below meth c n0 T' h' (ck + 1) (sk + cap) → Ext h h' → Exa Z h' b ad → Ary Z h' b ty n f → Go p e below Post T' (mkF m (pc + 3) ls (.ref b :: rest))) : Go p e below Post T (mkF m pc ls (.ref a :: rest)) := by
  obtain ⟨eT, locs, N, Y⟩ := X
  obtain ⟨cl, A, r1, r2⟩ := A
  have FC : FitC Z cl := fitC_of A fun i hi v hv => by
    rw [r2 i (r1 ▸ hi)] at hv
    cases hv
    exact hfit i (r1 ▸ hi)
  obtain ⟨T', h', X', e', Ex, A', E', st⟩ := cloneA Y hx hZ hown w1 w2 w3 w4 w5 w6 eT A E FC (g := mkF m pc ls (.ref a :: rest)) rfl hsize rfl hd hf (W := W) (cap := cap) (by show 2 * 0 + _ ≤ _; omega) hl (by rw [r1]; exact hcap) hc hsl
  exact Go.st st (k T' h' _ rfl ⟨e', locs, N, X'⟩ Ex E' ⟨_, A', r1, r2⟩)
theorem goCast (X : Stn p l e R s m args below meth c n0 T h ck sk) (hx : p.tables.exec = Jvm.exec) (hZ : Z.Warmed39 s.vm) {own K : String} {index : Nat} (hown : s.vm.findClass own = some m.cls) (w : (Cond.classLink own index K).before a0 Z = true) {a : Addr} (F : Ins Z h a K true)
    {pc : Nat} {ls : Array Slot} {rest : List Value} (hd : decode c.code pc = .ok (.checkcast index, 3)) (k : ∀ T', Stn p l e R s m args below meth c n0 T' h ck sk → Go p e below Post T' (mkF m (pc + 3) ls (.ref a :: rest))) : Go p e below Post T (mkF m pc ls (.ref a :: rest)) := by
  obtain ⟨eT, locs, N, Y⟩ := X
  obtain ⟨T', X', e', st⟩ := castY Y hx hZ hown w eT F (g := mkF m pc ls (.ref a :: rest)) rfl rfl hd
  exact Go.st st (k T' ⟨e', locs, N, X'⟩)
theorem goLen (X : Stn p l e R s m args below meth c n0 T h ck sk) (hx : p.tables.exec = Jvm.exec) (hZ : Z.Warmed39 s.vm) {a : Addr} {ty : FieldType} {n : Nat} {f : Nat → Value} (A : Ary Z h a ty n f) {pc : Nat} {ls : Array Slot} {rest : List Value} (hd : decode c.code pc = .ok (.arraylength, 1))
    (k : Go p e below Post T (mkF m (pc + 1) ls (.int n.toInt32 :: rest))) : Go p e below Post T (mkF m pc ls (.ref a :: rest)) := by
  obtain ⟨eT, locs, N, Y⟩ := X
  obtain ⟨cl, A, r1, -⟩ := A
  subst r1
  exact Go.st (fun t q => Y.arraylength hx (by rw [eT]; exact A.1) (State.isArrayOf_alike hZ.alike A.2.1) (g := mkF m pc ls (.ref a :: rest)) rfl rfl hd t q) k
theorem goLdI (X : Stn p l e R s m args below meth c n0 T h ck sk) (hx : p.tables.exec = Jvm.exec) (hZ : Z.Warmed39 s.vm) {a : Addr} {n : Nat} {f : Nat → Int32} (A : Ary Z h a .int n (fun i => .int (f i))) {j : Int32} (hj : ¬ (j < 0 ∨ n ≤ j.toNatClampNeg)) {pc : Nat} {ls : Array Slot} {rest : List Value} (hd : decode c.code pc = .ok (.iaload, 1))
    (k : Go p e below Post T (mkF m (pc + 1) ls (.int (f j.toNatClampNeg) :: rest))) : Go p e below Post T (mkF m pc ls (.int j :: .ref a :: rest)) := by
  obtain ⟨eT, locs, N, Y⟩ := X
  obtain ⟨cl, A, r1, r2⟩ := A
  subst r1
  exact Go.st (fun t q => Y.iaload hx (j := j) (v := .int (f j.toNatClampNeg)) (by rw [eT]; exact A.1) (State.isArrayOf_alike hZ.alike A.2.1) A.2.2 hj (r2 _ (by omega)) (g := mkF m pc ls (.int j :: .ref a :: rest)) rfl rfl hd t q) k
theorem goLdJ (X : Stn p l e R s m args below meth c n0 T h ck sk) (hx : p.tables.exec = Jvm.exec) (hZ : Z.Warmed39 s.vm) {a : Addr} {n : Nat} {f : Nat → Int64} (A : Ary Z h a .long n (fun i => .long (f i))) {j : Int32} (hj : ¬ (j < 0 ∨ n ≤ j.toNatClampNeg)) {pc : Nat} {ls : Array Slot} {rest : List Value} (hd : decode c.code pc = .ok (.laload, 1))
    (k : Go p e below Post T (mkF m (pc + 1) ls (.long (f j.toNatClampNeg) :: rest))) : Go p e below Post T (mkF m pc ls (.int j :: .ref a :: rest)) := by
  obtain ⟨eT, locs, N, Y⟩ := X
  obtain ⟨cl, A, r1, r2⟩ := A
  subst r1
  exact Go.st (fun t q => Y.laload hx (j := j) (v := .long (f j.toNatClampNeg)) (by rw [eT]; exact A.1) (State.isArrayOf_alike hZ.alike A.2.1) A.2.2 hj (r2 _ (by omega)) (g := mkF m pc ls (.int j :: .ref a :: rest)) rfl rfl hd t q) k
theorem goStI (X : Stn p l e R s m args below meth c n0 T h ck sk) (hx : p.tables.exec = Jvm.exec) (hZ : Z.Warmed39 s.vm) {a : Addr} {n : Nat} {f : Nat → Int32} (A : Ary Z h a .int n (fun i => .int (f i))) {j x : Int32} (hj : ¬ (j < 0 ∨ n ≤ j.toNatClampNeg)) (ha : n0 ≤ a) {pc : Nat} {ls : Array Slot} {rest : List Value} (hd : decode c.code pc = .ok (.iastore, 1))
    (k : ∀ T' h', Stn p l e R s m args below meth c n0 T' h' ck sk → Wr h h' a j.toNatClampNeg (.int x) → Ary Z h' a .int n (fun i => .int (if i = j.toNatClampNeg then x else f i)) → Go p e below Post T' (mkF m (pc + 1) ls rest)) : Go p e below Post T (mkF m pc ls (.int x :: .int j :: .ref a :: rest)) := by
  obtain ⟨eT, locs, N, Y⟩ := X
  have A0 := A
  obtain ⟨cl, A, r1, r2⟩ := A
  subst r1
  obtain ⟨T', h', X', e', W, st⟩ := stI Y hx hZ eT A hj (g := mkF m pc ls (.int x :: .int j :: .ref a :: rest)) rfl rfl hd
  exact Go.st st (k T' h' ⟨e', _, Fr.snoc X' N ha, X'⟩ W ((A0.set W).congr fun i _ => by split <;> rfl))
theorem goStJ (X : Stn p l e R s m args below meth c n0 T h ck sk) (hx : p.tables.exec = Jvm.exec) (hZ : Z.Warmed39 s.vm) {a : Addr} {n : Nat} {f : Nat → Int64} (A : Ary Z h a .long n (fun i => .long (f i))) {j : Int32} {x : Int64} (hj : ¬ (j < 0 ∨ n ≤ j.toNatClampNeg)) (ha : n0 ≤ a) {pc : Nat} {ls : Array Slot} {rest : List Value} (hd : decode c.code pc = .ok (.lastore, 1))
    (k : ∀ T' h', Stn p l e R s m args below meth c n0 T' h' ck sk → Wr h h' a j.toNatClampNeg (.long x) → Ary Z h' a .long n (fun i => .long (if i = j.toNatClampNeg then x else f i)) → Go p e below Post T' (mkF m (pc + 1) ls rest)) : Go p e below Post T (mkF m pc ls (.long x :: .int j :: .ref a :: rest)) := by
  obtain ⟨eT, locs, N, Y⟩ := X
  have A0 := A
  obtain ⟨cl, A, r1, r2⟩ := A
  subst r1
  obtain ⟨T', h', X', e', W, st⟩ := stJ Y hx hZ eT A hj (g := mkF m pc ls (.long x :: .int j :: .ref a :: rest)) rfl rfl hd
  exact Go.st st (k T' h' ⟨e', _, Fr.snoc X' N ha, X'⟩ W ((A0.set W).congr fun i _ => by split <;> rfl))
/-! calls -/
theorem goStatic (X : Stn p l e R s m args below meth c n0 T h ck sk) (hx : p.tables.exec = Jvm.exec) (hZ : Z.Warmed39 s.vm) {own : String} {index : Nat} {y : MethodName} {bytes : ByteArray} {maxL : Nat} {ret : Option FieldType} {rm : Room} {as' : Array Value} {Q : Option Value → Heap → Prop}
    (hown : s.vm.findClass own = some m.cls) (w1 : (Cond.methodLink own index y).before a0 Z = true) (w2 : (Cond.static y).before a0 Z = true) (w3 : (Cond.initialized y.cls).before a0 Z = true) (w4 : (Cond.code y bytes maxL ret).before a0 Z = true)
    (hy : y.cls ≠ "java/lang/invoke/MethodHandle" ∧ y.cls ≠ "java/lang/invoke/VarHandle") (hM : Con l y bytes maxL ret rm [] Z n0 as' h Q) (W : Nat) (hf : rm.frames + 1 ≤ R.frames) (hl : W + (maxL + 11) + rm.locals ≤ R.locals)
    {pc : Nat} {ls : Array Slot} {stk : List Value} (hsize : ls.size = c.maxLocals) (argsL rest : List Value) (hlen : ∀ sig, parseMethodDescriptor y.desc = some sig → argsL.length = sig.parameters.length) (has : argsL.toArray = as') (hstk : stk = argsL.reverse ++ rest) (hW : (rest.map fun v => v.category).sum = W)
    (hd : decode c.code pc = .ok (.invokestatic index, 3)) (hc : ck + rm.cells ≤ R.cells) (hs : sk + rm.slots ≤ R.slots)
    (k : ∀ v T' h', Stn p l e R s m args below meth c n0 T' h' (ck + rm.cells) (sk + rm.slots) → Q v h' → Go p e below Post T' (mkF m (pc + 3) ls (v.toList ++ rest))) : Go p e below Post T (mkF m pc ls stk) := by
  obtain ⟨eT, locs, N, Y⟩ := X
  obtain ⟨v, _, ⟨T', L', k', n'⟩, -, X', ⟨Lc, ⟨hN, hQ⟩, l', y', z'⟩, st⟩ := Jvm.LawKit.callS Y hx (y := y) hown (mvT hZ w1) (mvT hZ w2) (mvT hZ w3) (mvT hZ w4) hy (backOf (W := W) (Q := fun v h' L => Fr n0 L ∧ Q v h') hM hZ w4 w3 hf hl) (g := mkF m pc ls stk) rfl hsize (argsL := argsL) (rest := rest) hlen hstk (by show 2 * 0 + _ ≤ _; omega) hd (fun _ _ => ⟨has, eT, hc, hs⟩)
  dsimp only [Pt.U, Pt.locs, Pt.cells, Pt.slots] at X' l' y' z' st hQ
  subst l' y' z'
  exact Go.st st (k v T' T'.heap ⟨rfl, _, Fr.app N hN, X'⟩ hQ)
theorem goCtor (X : Stn p l e R s m args below meth c n0 T h ck sk) (hx : p.tables.exec = Jvm.exec) (hZ : Z.Warmed39 s.vm) {own : String} {index : Nat} {y : MethodName} {bytes : ByteArray} {maxL : Nat} {rm : Room} {as' : Array Value} {Q : Option Value → Heap → Prop} (hy1 : y.name = "<init>")
    (hown : s.vm.findClass own = some m.cls) (w1 : (Cond.methodLink own index y).before a0 Z = true) (w2 : (Cond.instanceMethod y).before a0 Z = true) (w3 : (Cond.initialized y.cls).before a0 Z = true) (w4 : (Cond.code y bytes maxL none).before a0 Z = true)
    (hy : y.cls ≠ "java/lang/invoke/MethodHandle" ∧ y.cls ≠ "java/lang/invoke/VarHandle") (hM : Con l y bytes maxL none rm [] Z n0 as' h Q) (W : Nat) (hf : rm.frames + 1 ≤ R.frames) (hl : W + (maxL + 11) + rm.locals ≤ R.locals)
    {pc : Nat} {ls : Array Slot} {stk : List Value} (hsize : ls.size = c.maxLocals) (a : Addr) (argsL rest : List Value) (hlen : ∀ sig, parseMethodDescriptor y.desc = some sig → argsL.length = sig.parameters.length) (has : (.ref a :: argsL).toArray = as') (hstk : stk = argsL.reverse ++ .ref a :: rest) (hW : (rest.map fun v => v.category).sum = W)
    (hd : decode c.code pc = .ok (.invokespecial index, 3)) (hc : ck + rm.cells ≤ R.cells) (hs : sk + rm.slots ≤ R.slots)
    (k : ∀ v T' h', Stn p l e R s m args below meth c n0 T' h' (ck + rm.cells) (sk + rm.slots) → Q v h' → Go p e below Post T' (mkF m (pc + 3) ls (v.toList ++ rest))) : Go p e below Post T (mkF m pc ls stk) := by
  obtain ⟨eT, locs, N, Y⟩ := X
  obtain ⟨v, _, ⟨T', L', k', n'⟩, -, X', ⟨Lc, ⟨hN, hQ⟩, l', y', z'⟩, st⟩ := Y.specialBack hx (y := y) hy1 hown (mvT hZ w1) (mvT hZ w2) (mvT hZ w4) hy (backOf (W := W) (Q := fun v h' L => Fr n0 L ∧ Q v h') hM hZ w4 w3 hf hl) (g := mkF m pc ls stk) rfl hsize (Steps.refl _) (a := a) (argsL := argsL) (rest := rest) hlen hstk (by show 2 * 0 + _ ≤ _; omega) hd (fun _ _ => ⟨has, eT, hc, hs⟩)
  dsimp only [Pt.U, Pt.locs, Pt.cells, Pt.slots] at X' l' y' z' st hQ
  subst l' y' z'
  exact Go.st (fun t q => st.trans q) (k v T' T'.heap ⟨rfl, _, Fr.app N hN, X'⟩ hQ)
theorem goVirt (X : Stn p l e R s m args below meth c n0 T h ck sk) (hx : p.tables.exec = Jvm.exec) (hZ : Z.Warmed39 s.vm) {own C : String} {index : Nat} {y z : MethodName} {bytes : ByteArray} {maxL : Nat} {ret : Option FieldType} {rm : Room} {as' : Array Value} {Q : Option Value → Heap → Prop}
    (hown : s.vm.findClass own = some m.cls) (w1 : (Cond.methodLink own index y).before a0 Z = true) (w2 : (Cond.declares y).before a0 Z = true) (nf : NotFace s y) (w5 : (Cond.selects C y z).before a0 Z = true) (w6 : (Cond.instanceMethod z).before a0 Z = true) (w3 : (Cond.initialized z.cls).before a0 Z = true) (w4 : (Cond.code z bytes maxL ret).before a0 Z = true)
    (hy : y.cls ≠ "java/lang/invoke/MethodHandle" ∧ y.cls ≠ "java/lang/invoke/VarHandle") {a : Addr} (E : Exa Z h a C) (hM : Con l z bytes maxL ret rm [] Z n0 as' h Q) (W : Nat) (hf : rm.frames + 1 ≤ R.frames) (hl : W + (maxL + 11) + rm.locals ≤ R.locals)
    {pc : Nat} {ls : Array Slot} {stk : List Value} (hsize : ls.size = c.maxLocals) (argsL rest : List Value) (hlen : ∀ sig, parseMethodDescriptor y.desc = some sig → argsL.length = sig.parameters.length) (has : (.ref a :: argsL).toArray = as') (hstk : stk = argsL.reverse ++ .ref a :: rest) (hW : (rest.map fun v => v.category).sum = W)
    (hd : decode c.code pc = .ok (.invokevirtual index, 3)) (hc : ck + rm.cells ≤ R.cells) (hs : sk + rm.slots ≤ R.slots)
    (k : ∀ v T' h', Stn p l e R s m args below meth c n0 T' h' (ck + rm.cells) (sk + rm.slots) → Q v h' → Go p e below Post T' (mkF m (pc + 3) ls (v.toList ++ rest))) : Go p e below Post T (mkF m pc ls stk) := by
  obtain ⟨eT, locs, N, Y⟩ := X
  obtain ⟨cq, kq, q1, q2, q3⟩ := isOf hZ eT E
  obtain ⟨v, _, ⟨T', L', k', n'⟩, -, X', ⟨Lc, ⟨hN, hQ⟩, l', y', z'⟩, st⟩ := Y.virtualBack hx (y := y) (z := z) hown (mvT hZ w1) (mvT hZ w2) nf (mvT hZ w5) (mvT hZ w6) hy (backOf (W := W) (Q := fun v h' L => Fr n0 L ∧ Q v h') hM hZ w4 w3 hf hl) q1 q3 (g := mkF m pc ls stk) rfl hsize (Steps.refl _) (argsL := argsL) (rest := rest) hlen hstk (by show 2 * 0 + _ ≤ _; omega) hd (fun _ _ => ⟨has, eT, hc, hs⟩)
  dsimp only [Pt.U, Pt.locs, Pt.cells, Pt.slots] at X' l' y' z' st hQ
  subst l' y' z'
  exact Go.st (fun t q => st.trans q) (k v T' T'.heap ⟨rfl, _, Fr.app N hN, X'⟩ hQ)
theorem goVirtS (X : Stn p l e R s m args below meth c n0 T h ck sk) (hx : p.tables.exec = Jvm.exec) (hZ : Z.Warmed39 s.vm) {own : String} {index : Nat} {y : MethodName} {bytes : ByteArray} {maxL : Nat} {ret : Option FieldType} {rm : Room} {as' : Array Value} {Q : Option Value → Heap → Prop}
    (hown : s.vm.findClass own = some m.cls) (w1 : (Cond.methodLink own index y).before a0 Z = true) (w2 : (Cond.declares y).before a0 Z = true) (w5 : (Cond.selects y.cls y y).before a0 Z = true) (w6 : (Cond.instanceMethod y).before a0 Z = true) (w3 : (Cond.initialized y.cls).before a0 Z = true) (w4 : (Cond.code y bytes maxL ret).before a0 Z = true)
    (hy : y.cls ≠ "java/lang/invoke/MethodHandle" ∧ y.cls ≠ "java/lang/invoke/VarHandle") {a : Addr} (E : Exa Z h a y.cls) (hM : Con l y bytes maxL ret rm [] Z n0 as' h Q) (W : Nat) (hf : rm.frames + 1 ≤ R.frames) (hl : W + (maxL + 11) + rm.locals ≤ R.locals)
    {pc : Nat} {ls : Array Slot} {stk : List Value} (hsize : ls.size = c.maxLocals) (argsL rest : List Value) (hlen : ∀ sig, parseMethodDescriptor y.desc = some sig → argsL.length = sig.parameters.length) (has : (.ref a :: argsL).toArray = as') (hstk : stk = argsL.reverse ++ .ref a :: rest) (hW : (rest.map fun v => v.category).sum = W)
    (hd : decode c.code pc = .ok (.invokevirtual index, 3)) (hc : ck + rm.cells ≤ R.cells) (hs : sk + rm.slots ≤ R.slots)
    (k : ∀ v T' h', Stn p l e R s m args below meth c n0 T' h' (ck + rm.cells) (sk + rm.slots) → Q v h' → Go p e below Post T' (mkF m (pc + 3) ls (v.toList ++ rest))) : Go p e below Post T (mkF m pc ls stk) :=
  goVirt X hx hZ hown w1 w2 (notFace_of_selects (args := #[]) (mvT hZ w5)) w5 w6 w3 w4 hy E hM W hf hl hsize argsL rest hlen has hstk hW hd hc hs k
theorem goPriv (X : Stn p l e R s m args below meth c n0 T h ck sk) (hx : p.tables.exec = Jvm.exec) (hZ : Z.Warmed39 s.vm) {own C : String} {index : Nat} {y : MethodName} {bytes : ByteArray} {maxL : Nat} {ret : Option FieldType} {rm : Room} {as' : Array Value} {Q : Option Value → Heap → Prop}
    (hown : s.vm.findClass own = some m.cls) (w1 : (Cond.methodLink own index y).before a0 Z = true) (w6 : (Cond.instanceMethod y).before a0 Z = true) {kk : Nat} (wi : (Cond.instantiable y.cls kk).before a0 Z = true) (w7 : (Cond.privateMethod y).before a0 Z = true) (w3 : (Cond.initialized y.cls).before a0 Z = true) (w4 : (Cond.code y bytes maxL ret).before a0 Z = true)
    (hy : y.cls ≠ "java/lang/invoke/MethodHandle" ∧ y.cls ≠ "java/lang/invoke/VarHandle") {a : Addr} (E : Exa Z h a C) (hM : Con l y bytes maxL ret rm [] Z n0 as' h Q) (W : Nat) (hf : rm.frames + 1 ≤ R.frames) (hl : W + (maxL + 11) + rm.locals ≤ R.locals)
    {pc : Nat} {ls : Array Slot} {stk : List Value} (hsize : ls.size = c.maxLocals) (argsL rest : List Value) (hlen : ∀ sig, parseMethodDescriptor y.desc = some sig → argsL.length = sig.parameters.length) (has : (.ref a :: argsL).toArray = as') (hstk : stk = argsL.reverse ++ .ref a :: rest) (hW : (rest.map fun v => v.category).sum = W)
    (hd : decode c.code pc = .ok (.invokevirtual index, 3)) (hc : ck + rm.cells ≤ R.cells) (hs : sk + rm.slots ≤ R.slots)
    (k : ∀ v T' h', Stn p l e R s m args below meth c n0 T' h' (ck + rm.cells) (sk + rm.slots) → Q v h' → Go p e below Post T' (mkF m (pc + 3) ls (v.toList ++ rest))) : Go p e below Post T (mkF m pc ls stk) := by
  obtain ⟨eT, locs, N, Y⟩ := X
  obtain ⟨cq, q1, q2⟩ := E.cell
  have hi : (Cond.instantiable y.cls kk).before args s = true := mvT hZ wi
  obtain ⟨ci, ki, i1, i2, -, i4, -⟩ := Cond.instantiable_spec hi
  have i7 : ki.isInterface = false := by
    cases q : ki.isInterface
    · rfl
    · rw [q] at i4; cases i4
  have hsel : (Cond.selects y.cls y y).before args s = true := selects_self_of_private i1 i2 i7 (Cond.privateMethod_at (mvP hZ w7 (args := #[]))) (mvT hZ w6) hy
  obtain ⟨v, _, ⟨T', L', k', n'⟩, -, X', ⟨Lc, ⟨hN, hQ⟩, l', y', z'⟩, st⟩ := Y.privateBack hx (y := y) hown (mvT hZ w1) (mvT hZ w6) hsel (Cond.privateMethod_at (mvP hZ w7 (args := #[]))) (mvT hZ w4) hy (backOf (W := W) (Q := fun v h' L => Fr n0 L ∧ Q v h') hM hZ w4 w3 hf hl) (g := mkF m pc ls stk) rfl hsize (Steps.refl _) (a := a) (by rw [eT]; exact q1) q2 (argsL := argsL) (rest := rest) hlen hstk (by show 2 * 0 + _ ≤ _; omega) hd (fun _ _ => ⟨has, eT, hc, hs⟩)
  dsimp only [Pt.U, Pt.locs, Pt.cells, Pt.slots] at X' l' y' z' st hQ
  subst l' y' z'
  exact Go.st (fun t q => st.trans q) (k v T' T'.heap ⟨rfl, _, Fr.app N hN, X'⟩ hQ)
theorem own_i32_rem (x y : Int32) : x - (x / y) * y = x % y := by
  apply Int32.toInt_inj.mp
  rw [Int32.toInt_mod, Int32.toInt_sub, Int32.toInt_mul, Int32.toInt_div]
  have hb : x.toInt.tmod y.toInt = (x.toInt.tmod y.toInt).bmod (2 ^ 32) := by
    rw [← Int32.toInt_mod]
    exact (Int32.toInt_bmod _).symm
  rw [hb, Int.tmod_def]
  simp [Int.mul_comm]
theorem own_irem {T target : State} (X : At T m c below) (hx : p.tables.exec = Jvm.exec) {pc : Nat} {ls : Array Slot} {x y : Int32} {rest : List Value} (hd : decode c.code pc = .ok (.irem, 1)) (hy : y ≠ 0)
    (hr : Steps p.tables e below (T.setTop (mkF m (pc + 1) ls (.int (x % y) :: rest))) target) : Steps p.tables e below (T.setTop (mkF m pc ls (.int y :: .int x :: rest))) target :=
  XS.irem X hx (g := mkF m pc ls (.int y :: .int x :: rest)) rfl hd rfl hy (by rw [own_i32_rem]; exact hr)
end OwnLayer

def own_is (r : Int32) (P : Prop) : Prop := (r = 1 ∧ P) ∨ (r = 0 ∧ ¬ P)
theorem own_is_eq {r r' : Int32} {P : Prop} (h : own_is r P) (h' : own_is r' P) : r = r' := by
  rcases h with ⟨q1, q2⟩ | ⟨q1, q2⟩ <;> rcases h' with ⟨q3, q4⟩ | ⟨q3, q4⟩
  · rw [q1, q3]
  · exact absurd q2 q4
  · exact absurd q4 q2
  · rw [q1, q3]

theorem d1_0 : decode prog_9_method_1_code 0 = .ok (.aload_n 0, 1) := by decide +kernel
theorem d1_1 : decode prog_9_method_1_code 1 = .ok (.invokespecial 1, 3) := by decide +kernel
theorem d1_4 : decode prog_9_method_1_code 4 = .ok (.aload_n 0, 1) := by decide +kernel
theorem d1_5 : decode prog_9_method_1_code 5 = .ok (.iload_n 1, 1) := by decide +kernel
theorem d1_6 : decode prog_9_method_1_code 6 = .ok (.putfield 7, 3) := by decide +kernel
theorem d1_9 : decode prog_9_method_1_code 9 = .ok (.aload_n 0, 1) := by decide +kernel
theorem d1_10 : decode prog_9_method_1_code 10 = .ok (.iload_n 2, 1) := by decide +kernel
theorem d1_11 : decode prog_9_method_1_code 11 = .ok (.putfield 13, 3) := by decide +kernel
theorem d1_14 : decode prog_9_method_1_code 14 = .ok (.aload_n 0, 1) := by decide +kernel
theorem d1_15 : decode prog_9_method_1_code 15 = .ok (.iload_n 3, 1) := by decide +kernel
theorem d1_16 : decode prog_9_method_1_code 16 = .ok (.putfield 16, 3) := by decide +kernel
theorem d1_19 : decode prog_9_method_1_code 19 = .ok (.aload_n 0, 1) := by decide +kernel
theorem d1_20 : decode prog_9_method_1_code 20 = .ok (.iload 4, 2) := by decide +kernel
theorem d1_22 : decode prog_9_method_1_code 22 = .ok (.putfield 19, 3) := by decide +kernel
theorem d1_25 : decode prog_9_method_1_code 25 = .ok (.aload_n 0, 1) := by decide +kernel
theorem d1_26 : decode prog_9_method_1_code 26 = .ok (.iload 5, 2) := by decide +kernel
theorem d1_28 : decode prog_9_method_1_code 28 = .ok (.putfield 22, 3) := by decide +kernel
theorem d1_31 : decode prog_9_method_1_code 31 = .ok (.aload_n 0, 1) := by decide +kernel
theorem d1_32 : decode prog_9_method_1_code 32 = .ok (.aload 6, 2) := by decide +kernel
theorem d1_34 : decode prog_9_method_1_code 34 = .ok (.invokevirtual 25, 3) := by decide +kernel
theorem d1_37 : decode prog_9_method_1_code 37 = .ok (.checkcast 26, 3) := by decide +kernel
theorem d1_40 : decode prog_9_method_1_code 40 = .ok (.putfield 31, 3) := by decide +kernel
theorem d1_43 : decode prog_9_method_1_code 43 = .ok (.return_, 1) := by decide +kernel
theorem pn_1 : plainFor (⟨"com/example/cellsight/cellsight/analysis/Call", "<init>", "(IIIII[I)V"⟩ : MethodName) = true := plainFor_of_name (by first | (simp [plainName, overriddenIn]; done) | decide +kernel)
theorem ef_rm1 (m : MethodId) (x0 : Addr) (x1 : Int32) (x2 : Int32) (x3 : Int32) (x4 : Int32) (x5 : Int32) (x6 : Addr) : entryFrame m #[(.ref x0), (.int x1), (.int x2), (.int x3), (.int x4), (.int x5), (.ref x6)] 7 = mkF m 0 #[.val (.ref x0), .val (.int x1), .val (.int x2), .val (.int x3), .val (.int x4), .val (.int x5), .val (.ref x6)] [] := by first | (simp [entryFrame, mkF, argsToLocals, Value.category]; done) | rfl
def Q1 (Z : State) (n0 : Nat) (h0 : Heap) (a : Addr) (p1 : Int32) (p2 : Int32) (p3 : Int32) (p4 : Int32) (p5 : Int32) (b : Addr) (f : Nat → Int32) (u1 : Value) (u2 : Value) (u3 : Value) (u4 : Value) (u5 : Value) (u6 : Value) (v : Option Value) (h : Heap) : Prop := v = none ∧ Keep h0 h [a] ∧ Exa Z h a "com/example/cellsight/cellsight/analysis/Call" ∧ Fld Z h a "com/example/cellsight/cellsight/analysis/Call" "method" "I" (.int p5)
set_option maxRecDepth 65536 in
set_option maxHeartbeats 40000000 in
theorem rm1 (l : Launch) (Z : State) (a0 : Array Value) (hw : ∀ d ∈ tables_1, d.before a0 Z = true) (ws : List Jvm.Cond) (n0 : Nat) (h0 : Heap) (a : Addr) (p1 : Int32) (p2 : Int32) (p3 : Int32) (p4 : Int32) (p5 : Int32) (b : Addr) (f : Nat → Int32) (u1 : Value) (u2 : Value) (u3 : Value) (u4 : Value) (u5 : Value) (u6 : Value) (sz0 : n0 ≤ h0.size) (g0 : Exa Z h0 a "com/example/cellsight/cellsight/analysis/Call") (g1 : Exa Z h0 b "[I") (g2 : Ary Z h0 b .int 1 (fun i => .int (f i))) (g3 : Fld Z h0 a "com/example/cellsight/cellsight/analysis/Call" "index" "I" u1) (g4 : Fld Z h0 a "com/example/cellsight/cellsight/analysis/Call" "result" "I" u2) (g5 : Fld Z h0 a "com/example/cellsight/cellsight/analysis/Call" "thrown" "I" u3) (g6 : Fld Z h0 a "com/example/cellsight/cellsight/analysis/Call" "through" "I" u4) (g7 : Fld Z h0 a "com/example/cellsight/cellsight/analysis/Call" "method" "I" u5) (g8 : Fld Z h0 a "com/example/cellsight/cellsight/analysis/Call" "arguments" "[I" u6) (g9 : n0 ≤ a) :
    Con l (⟨"com/example/cellsight/cellsight/analysis/Call", "<init>", "(IIIII[I)V"⟩ : MethodName) prog_9_method_1_code 7 none ({ frames := 1, cells := 1, slots := 1, locals := 20 } : Room) ws Z n0 #[(.ref a), (.int p1), (.int p2), (.int p3), (.int p4), (.int p5), (.ref b)] h0 (Q1 Z n0 h0 a p1 p2 p3 p4 p5 b f u1 u2 u3 u4 u5 u6) := by
  refine Con.body pn_1 ?_
  intro p e s m below meth c s₁ hx hby hml hown hnm hret hlk hZ X0
  have hown : s.vm.findClass "com/example/cellsight/cellsight/analysis/Call" = some m.cls := hown
  have hnm : meth.name = "<init>" := hnm
  have K0 : Keep h0 h0 [a] := Keep.refl _ _
  rw [show entryFrame m #[(.ref a), (.int p1), (.int p2), (.int p3), (.int p4), (.int p5), (.ref b)] 7 = mkF m 0 #[.val (.ref a), .val (.int p1), .val (.int p2), .val (.int p3), .val (.int p4), .val (.int p5), .val (.ref b)] [] from ef_rm1 m a p1 p2 p3 p4 p5 b]
  show Go p e below (PostW s n0 (1 : Nat) (1 : Nat) (Q1 Z n0 h0 a p1 p2 p3 p4 p5 b f u1 u2 u3 u4 u5 u6)) s₁ (mkF m 0 #[.val (.ref a), .val (.int p1), .val (.int p2), .val (.int p3), .val (.int p4), .val (.int p5), .val (.ref b)] [])
  refine Go.st (T' := s₁) (g' := (mkF m 1 #[.val (.ref a), .val (.int p1), .val (.int p2), .val (.int p3), .val (.int p4), .val (.int p5), .val (.ref b)] [(.ref a)])) (fun t_ k_ => XS.aloadN X0.here hx rfl (hb hby d1_0) rfl rfl k_) ?_
  refine goInit X0 hx hZ hown (hw _ (List.mem_of_getElem? (i := 7) rfl)) (hw _ (List.mem_of_getElem? (i := 8) rfl)) (hw _ (List.mem_of_getElem? (i := 9) rfl)) (by rw [hml]; rfl) (hb hby d1_1) (by decide) (W := 0) (Nat.le_of_eq rfl) (by decide) fun T1 X1 => ?_
  show Go p e below _ T1 (mkF m 4 #[.val (.ref a), .val (.int p1), .val (.int p2), .val (.int p3), .val (.int p4), .val (.int p5), .val (.ref b)] [])
  refine Go.st (T' := T1) (g' := (mkF m 5 #[.val (.ref a), .val (.int p1), .val (.int p2), .val (.int p3), .val (.int p4), .val (.int p5), .val (.ref b)] [(.ref a)])) (fun t_ k_ => XS.aloadN X1.here hx rfl (hb hby d1_4) rfl rfl k_) ?_
  refine Go.st (T' := T1) (g' := (mkF m 6 #[.val (.ref a), .val (.int p1), .val (.int p2), .val (.int p3), .val (.int p4), .val (.int p5), .val (.ref b)] [(.int p1), (.ref a)])) (fun t_ k_ => XS.iloadN X1.here hx rfl (hb hby d1_5) rfl k_) ?_
  refine goPut X1 hx hZ hown (host := "") (Or.inl (hw _ (List.mem_of_getElem? (i := 10) rfl))) Via.refl g3 g0 (Or.inr ⟨(hw _ (List.mem_of_getElem? (i := 11) rfl)), rfl, hnm⟩) (hw _ (List.mem_of_getElem? (i := 1) rfl)) (ty := .int) (by decide) rfl rfl g9 (hb hby d1_6) fun T2 h2 X2 W2 => ?_
  have Fw2 := g3.same W2
  have f2_0 : Exa Z h2 a "com/example/cellsight/cellsight/analysis/Call" := g0.wr W2
  have f2_1 : Exa Z h2 b "[I" := g1.wr W2
  have f2_2 : Ary Z h2 b .int 1 (fun i => .int (f i)) := g2.other W2 (ne_exa g1 g0 (by decide))
  have f2_3 : Fld Z h2 a "com/example/cellsight/cellsight/analysis/Call" "result" "I" u2 := g4.other W2 (Or.inr (slot_ne (Or.inr (hw _ (List.mem_of_getElem? (i := 13) rfl))) (Or.inr (hw _ (List.mem_of_getElem? (i := 11) rfl))) (by decide) (t := .int) (t' := .int) (by decide) (by decide)))
  have f2_4 : Fld Z h2 a "com/example/cellsight/cellsight/analysis/Call" "thrown" "I" u3 := g5.other W2 (Or.inr (slot_ne (Or.inr (hw _ (List.mem_of_getElem? (i := 15) rfl))) (Or.inr (hw _ (List.mem_of_getElem? (i := 11) rfl))) (by decide) (t := .int) (t' := .int) (by decide) (by decide)))
  have f2_5 : Fld Z h2 a "com/example/cellsight/cellsight/analysis/Call" "through" "I" u4 := g6.other W2 (Or.inr (slot_ne (Or.inr (hw _ (List.mem_of_getElem? (i := 17) rfl))) (Or.inr (hw _ (List.mem_of_getElem? (i := 11) rfl))) (by decide) (t := .int) (t' := .int) (by decide) (by decide)))
  have f2_6 : Fld Z h2 a "com/example/cellsight/cellsight/analysis/Call" "method" "I" u5 := g7.other W2 (Or.inr (slot_ne (Or.inr (hw _ (List.mem_of_getElem? (i := 19) rfl))) (Or.inr (hw _ (List.mem_of_getElem? (i := 11) rfl))) (by decide) (t := .int) (t' := .int) (by decide) (by decide)))
  have f2_7 : Fld Z h2 a "com/example/cellsight/cellsight/analysis/Call" "arguments" "[I" u6 := g8.other W2 (Or.inr (slot_ne (Or.inr (hw _ (List.mem_of_getElem? (i := 30) rfl))) (Or.inr (hw _ (List.mem_of_getElem? (i := 11) rfl))) (by decide) (t := (.array .int)) (t' := .int) (by decide) (by decide)))
  have sz2 : n0 ≤ h2.size := Nat.le_trans sz0 (Keep.of_wr W2).1
  have K2 : Keep h0 h2 [a] := K0.wr W2 (Or.inl (List.mem_of_getElem? (i := 0) rfl))
  show Go p e below _ T2 (mkF m 9 #[.val (.ref a), .val (.int p1), .val (.int p2), .val (.int p3), .val (.int p4), .val (.int p5), .val (.ref b)] [])
  refine Go.st (T' := T2) (g' := (mkF m 10 #[.val (.ref a), .val (.int p1), .val (.int p2), .val (.int p3), .val (.int p4), .val (.int p5), .val (.ref b)] [(.ref a)])) (fun t_ k_ => XS.aloadN X2.here hx rfl (hb hby d1_9) rfl rfl k_) ?_
  refine Go.st (T' := T2) (g' := (mkF m 11 #[.val (.ref a), .val (.int p1), .val (.int p2), .val (.int p3), .val (.int p4), .val (.int p5), .val (.ref b)] [(.int p2), (.ref a)])) (fun t_ k_ => XS.iloadN X2.here hx rfl (hb hby d1_10) rfl k_) ?_
  refine goPut X2 hx hZ hown (host := "") (Or.inl (hw _ (List.mem_of_getElem? (i := 12) rfl))) Via.refl f2_3 f2_0 (Or.inr ⟨(hw _ (List.mem_of_getElem? (i := 13) rfl)), rfl, hnm⟩) (hw _ (List.mem_of_getElem? (i := 1) rfl)) (ty := .int) (by decide) rfl rfl g9 (hb hby d1_11) fun T3 h3 X3 W3 => ?_
  have Fw3 := f2_3.same W3
  have f3_0 : Exa Z h3 a "com/example/cellsight/cellsight/analysis/Call" := f2_0.wr W3
  have f3_1 : Exa Z h3 b "[I" := f2_1.wr W3
  have f3_2 : Ary Z h3 b .int 1 (fun i => .int (f i)) := f2_2.other W3 (ne_exa f2_1 f2_0 (by decide))
  have f3_3 : Fld Z h3 a "com/example/cellsight/cellsight/analysis/Call" "thrown" "I" u3 := f2_4.other W3 (Or.inr (slot_ne (Or.inr (hw _ (List.mem_of_getElem? (i := 15) rfl))) (Or.inr (hw _ (List.mem_of_getElem? (i := 13) rfl))) (by decide) (t := .int) (t' := .int) (by decide) (by decide)))
  have f3_4 : Fld Z h3 a "com/example/cellsight/cellsight/analysis/Call" "through" "I" u4 := f2_5.other W3 (Or.inr (slot_ne (Or.inr (hw _ (List.mem_of_getElem? (i := 17) rfl))) (Or.inr (hw _ (List.mem_of_getElem? (i := 13) rfl))) (by decide) (t := .int) (t' := .int) (by decide) (by decide)))
  have f3_5 : Fld Z h3 a "com/example/cellsight/cellsight/analysis/Call" "method" "I" u5 := f2_6.other W3 (Or.inr (slot_ne (Or.inr (hw _ (List.mem_of_getElem? (i := 19) rfl))) (Or.inr (hw _ (List.mem_of_getElem? (i := 13) rfl))) (by decide) (t := .int) (t' := .int) (by decide) (by decide)))
  have f3_6 : Fld Z h3 a "com/example/cellsight/cellsight/analysis/Call" "arguments" "[I" u6 := f2_7.other W3 (Or.inr (slot_ne (Or.inr (hw _ (List.mem_of_getElem? (i := 30) rfl))) (Or.inr (hw _ (List.mem_of_getElem? (i := 13) rfl))) (by decide) (t := (.array .int)) (t' := .int) (by decide) (by decide)))
  have f3_8 : Fld Z h3 a "com/example/cellsight/cellsight/analysis/Call" "index" "I" (.int p1) := Fw2.other W3 (Or.inr (slot_ne (Or.inr (hw _ (List.mem_of_getElem? (i := 11) rfl))) (Or.inr (hw _ (List.mem_of_getElem? (i := 13) rfl))) (by decide) (t := .int) (t' := .int) (by decide) (by decide)))
  have sz3 : n0 ≤ h3.size := Nat.le_trans sz2 (Keep.of_wr W3).1
  have K3 : Keep h0 h3 [a] := K2.wr W3 (Or.inl (List.mem_of_getElem? (i := 0) rfl))
  show Go p e below _ T3 (mkF m 14 #[.val (.ref a), .val (.int p1), .val (.int p2), .val (.int p3), .val (.int p4), .val (.int p5), .val (.ref b)] [])
  refine Go.st (T' := T3) (g' := (mkF m 15 #[.val (.ref a), .val (.int p1), .val (.int p2), .val (.int p3), .val (.int p4), .val (.int p5), .val (.ref b)] [(.ref a)])) (fun t_ k_ => XS.aloadN X3.here hx rfl (hb hby d1_14) rfl rfl k_) ?_
  refine Go.st (T' := T3) (g' := (mkF m 16 #[.val (.ref a), .val (.int p1), .val (.int p2), .val (.int p3), .val (.int p4), .val (.int p5), .val (.ref b)] [(.int p3), (.ref a)])) (fun t_ k_ => XS.iloadN X3.here hx rfl (hb hby d1_15) rfl k_) ?_
  refine goPut X3 hx hZ hown (host := "") (Or.inl (hw _ (List.mem_of_getElem? (i := 14) rfl))) Via.refl f3_3 f3_0 (Or.inr ⟨(hw _ (List.mem_of_getElem? (i := 15) rfl)), rfl, hnm⟩) (hw _ (List.mem_of_getElem? (i := 1) rfl)) (ty := .int) (by decide) rfl rfl g9 (hb hby d1_16) fun T4 h4 X4 W4 => ?_
  have Fw4 := f3_3.same W4
  have f4_0 : Exa Z h4 a "com/example/cellsight/cellsight/analysis/Call" := f3_0.wr W4
  have f4_1 : Exa Z h4 b "[I" := f3_1.wr W4
  have f4_2 : Ary Z h4 b .int 1 (fun i => .int (f i)) := f3_2.other W4 (ne_exa f3_1 f3_0 (by decide))
  have f4_3 : Fld Z h4 a "com/example/cellsight/cellsight/analysis/Call" "through" "I" u4 := f3_4.other W4 (Or.inr (slot_ne (Or.inr (hw _ (List.mem_of_getElem? (i := 17) rfl))) (Or.inr (hw _ (List.mem_of_getElem? (i := 15) rfl))) (by decide) (t := .int) (t' := .int) (by decide) (by decide)))
  have f4_4 : Fld Z h4 a "com/example/cellsight/cellsight/analysis/Call" "method" "I" u5 := f3_5.other W4 (Or.inr (slot_ne (Or.inr (hw _ (List.mem_of_getElem? (i := 19) rfl))) (Or.inr (hw _ (List.mem_of_getElem? (i := 15) rfl))) (by decide) (t := .int) (t' := .int) (by decide) (by decide)))
  have f4_5 : Fld Z h4 a "com/example/cellsight/cellsight/analysis/Call" "arguments" "[I" u6 := f3_6.other W4 (Or.inr (slot_ne (Or.inr (hw _ (List.mem_of_getElem? (i := 30) rfl))) (Or.inr (hw _ (List.mem_of_getElem? (i := 15) rfl))) (by decide) (t := (.array .int)) (t' := .int) (by decide) (by decide)))
  have f4_7 : Fld Z h4 a "com/example/cellsight/cellsight/analysis/Call" "index" "I" (.int p1) := f3_8.other W4 (Or.inr (slot_ne (Or.inr (hw _ (List.mem_of_getElem? (i := 11) rfl))) (Or.inr (hw _ (List.mem_of_getElem? (i := 15) rfl))) (by decide) (t := .int) (t' := .int) (by decide) (by decide)))
  have f4_8 : Fld Z h4 a "com/example/cellsight/cellsight/analysis/Call" "result" "I" (.int p2) := Fw3.other W4 (Or.inr (slot_ne (Or.inr (hw _ (List.mem_of_getElem? (i := 13) rfl))) (Or.inr (hw _ (List.mem_of_getElem? (i := 15) rfl))) (by decide) (t := .int) (t' := .int) (by decide) (by decide)))
  have sz4 : n0 ≤ h4.size := Nat.le_trans sz3 (Keep.of_wr W4).1
  have K4 : Keep h0 h4 [a] := K3.wr W4 (Or.inl (List.mem_of_getElem? (i := 0) rfl))
  show Go p e below _ T4 (mkF m 19 #[.val (.ref a), .val (.int p1), .val (.int p2), .val (.int p3), .val (.int p4), .val (.int p5), .val (.ref b)] [])
  refine Go.st (T' := T4) (g' := (mkF m 20 #[.val (.ref a), .val (.int p1), .val (.int p2), .val (.int p3), .val (.int p4), .val (.int p5), .val (.ref b)] [(.ref a)])) (fun t_ k_ => XS.aloadN X4.here hx rfl (hb hby d1_19) rfl rfl k_) ?_
  refine Go.st (T' := T4) (g' := (mkF m 22 #[.val (.ref a), .val (.int p1), .val (.int p2), .val (.int p3), .val (.int p4), .val (.int p5), .val (.ref b)] [(.int p4), (.ref a)])) (fun t_ k_ => XS.iload X4.here hx rfl (hb hby d1_20) rfl k_) ?_
  refine goPut X4 hx hZ hown (host := "") (Or.inl (hw _ (List.mem_of_getElem? (i := 16) rfl))) Via.refl f4_3 f4_0 (Or.inr ⟨(hw _ (List.mem_of_getElem? (i := 17) rfl)), rfl, hnm⟩) (hw _ (List.mem_of_getElem? (i := 1) rfl)) (ty := .int) (by decide) rfl rfl g9 (hb hby d1_22) fun T5 h5 X5 W5 => ?_
  have Fw5 := f4_3.same W5
  have f5_0 : Exa Z h5 a "com/example/cellsight/cellsight/analysis/Call" := f4_0.wr W5
  have f5_1 : Exa Z h5 b "[I" := f4_1.wr W5
  have f5_2 : Ary Z h5 b .int 1 (fun i => .int (f i)) := f4_2.other W5 (ne_exa f4_1 f4_0 (by decide))
  have f5_3 : Fld Z h5 a "com/example/cellsight/cellsight/analysis/Call" "method" "I" u5 := f4_4.other W5 (Or.inr (slot_ne (Or.inr (hw _ (List.mem_of_getElem? (i := 19) rfl))) (Or.inr (hw _ (List.mem_of_getElem? (i := 17) rfl))) (by decide) (t := .int) (t' := .int) (by decide) (by decide)))
  have f5_4 : Fld Z h5 a "com/example/cellsight/cellsight/analysis/Call" "arguments" "[I" u6 := f4_5.other W5 (Or.inr (slot_ne (Or.inr (hw _ (List.mem_of_getElem? (i := 30) rfl))) (Or.inr (hw _ (List.mem_of_getElem? (i := 17) rfl))) (by decide) (t := (.array .int)) (t' := .int) (by decide) (by decide)))
  have f5_6 : Fld Z h5 a "com/example/cellsight/cellsight/analysis/Call" "index" "I" (.int p1) := f4_7.other W5 (Or.inr (slot_ne (Or.inr (hw _ (List.mem_of_getElem? (i := 11) rfl))) (Or.inr (hw _ (List.mem_of_getElem? (i := 17) rfl))) (by decide) (t := .int) (t' := .int) (by decide) (by decide)))
  have f5_7 : Fld Z h5 a "com/example/cellsight/cellsight/analysis/Call" "result" "I" (.int p2) := f4_8.other W5 (Or.inr (slot_ne (Or.inr (hw _ (List.mem_of_getElem? (i := 13) rfl))) (Or.inr (hw _ (List.mem_of_getElem? (i := 17) rfl))) (by decide) (t := .int) (t' := .int) (by decide) (by decide)))
  have f5_8 : Fld Z h5 a "com/example/cellsight/cellsight/analysis/Call" "thrown" "I" (.int p3) := Fw4.other W5 (Or.inr (slot_ne (Or.inr (hw _ (List.mem_of_getElem? (i := 15) rfl))) (Or.inr (hw _ (List.mem_of_getElem? (i := 17) rfl))) (by decide) (t := .int) (t' := .int) (by decide) (by decide)))
  have sz5 : n0 ≤ h5.size := Nat.le_trans sz4 (Keep.of_wr W5).1
  have K5 : Keep h0 h5 [a] := K4.wr W5 (Or.inl (List.mem_of_getElem? (i := 0) rfl))
  show Go p e below _ T5 (mkF m 25 #[.val (.ref a), .val (.int p1), .val (.int p2), .val (.int p3), .val (.int p4), .val (.int p5), .val (.ref b)] [])
  refine Go.st (T' := T5) (g' := (mkF m 26 #[.val (.ref a), .val (.int p1), .val (.int p2), .val (.int p3), .val (.int p4), .val (.int p5), .val (.ref b)] [(.ref a)])) (fun t_ k_ => XS.aloadN X5.here hx rfl (hb hby d1_25) rfl rfl k_) ?_
  refine Go.st (T' := T5) (g' := (mkF m 28 #[.val (.ref a), .val (.int p1), .val (.int p2), .val (.int p3), .val (.int p4), .val (.int p5), .val (.ref b)] [(.int p5), (.ref a)])) (fun t_ k_ => XS.iload X5.here hx rfl (hb hby d1_26) rfl k_) ?_
  refine goPut X5 hx hZ hown (host := "") (Or.inl (hw _ (List.mem_of_getElem? (i := 18) rfl))) Via.refl f5_3 f5_0 (Or.inr ⟨(hw _ (List.mem_of_getElem? (i := 19) rfl)), rfl, hnm⟩) (hw _ (List.mem_of_getElem? (i := 1) rfl)) (ty := .int) (by decide) rfl rfl g9 (hb hby d1_28) fun T6 h6 X6 W6 => ?_
  have Fw6 := f5_3.same W6
  have f6_0 : Exa Z h6 a "com/example/cellsight/cellsight/analysis/Call" := f5_0.wr W6
  have f6_1 : Exa Z h6 b "[I" := f5_1.wr W6
  have f6_2 : Ary Z h6 b .int 1 (fun i => .int (f i)) := f5_2.other W6 (ne_exa f5_1 f5_0 (by decide))
  have f6_3 : Fld Z h6 a "com/example/cellsight/cellsight/analysis/Call" "arguments" "[I" u6 := f5_4.other W6 (Or.inr (slot_ne (Or.inr (hw _ (List.mem_of_getElem? (i := 30) rfl))) (Or.inr (hw _ (List.mem_of_getElem? (i := 19) rfl))) (by decide) (t := (.array .int)) (t' := .int) (by decide) (by decide)))
  have f6_5 : Fld Z h6 a "com/example/cellsight/cellsight/analysis/Call" "index" "I" (.int p1) := f5_6.other W6 (Or.inr (slot_ne (Or.inr (hw _ (List.mem_of_getElem? (i := 11) rfl))) (Or.inr (hw _ (List.mem_of_getElem? (i := 19) rfl))) (by decide) (t := .int) (t' := .int) (by decide) (by decide)))
  have f6_6 : Fld Z h6 a "com/example/cellsight/cellsight/analysis/Call" "result" "I" (.int p2) := f5_7.other W6 (Or.inr (slot_ne (Or.inr (hw _ (List.mem_of_getElem? (i := 13) rfl))) (Or.inr (hw _ (List.mem_of_getElem? (i := 19) rfl))) (by decide) (t := .int) (t' := .int) (by decide) (by decide)))
  have f6_7 : Fld Z h6 a "com/example/cellsight/cellsight/analysis/Call" "thrown" "I" (.int p3) := f5_8.other W6 (Or.inr (slot_ne (Or.inr (hw _ (List.mem_of_getElem? (i := 15) rfl))) (Or.inr (hw _ (List.mem_of_getElem? (i := 19) rfl))) (by decide) (t := .int) (t' := .int) (by decide) (by decide)))
  have f6_8 : Fld Z h6 a "com/example/cellsight/cellsight/analysis/Call" "through" "I" (.int p4) := Fw5.other W6 (Or.inr (slot_ne (Or.inr (hw _ (List.mem_of_getElem? (i := 17) rfl))) (Or.inr (hw _ (List.mem_of_getElem? (i := 19) rfl))) (by decide) (t := .int) (t' := .int) (by decide) (by decide)))
  have sz6 : n0 ≤ h6.size := Nat.le_trans sz5 (Keep.of_wr W6).1
  have K6 : Keep h0 h6 [a] := K5.wr W6 (Or.inl (List.mem_of_getElem? (i := 0) rfl))
  show Go p e below _ T6 (mkF m 31 #[.val (.ref a), .val (.int p1), .val (.int p2), .val (.int p3), .val (.int p4), .val (.int p5), .val (.ref b)] [])
  refine Go.st (T' := T6) (g' := (mkF m 32 #[.val (.ref a), .val (.int p1), .val (.int p2), .val (.int p3), .val (.int p4), .val (.int p5), .val (.ref b)] [(.ref a)])) (fun t_ k_ => XS.aloadN X6.here hx rfl (hb hby d1_31) rfl rfl k_) ?_
  refine Go.st (T' := T6) (g' := (mkF m 34 #[.val (.ref a), .val (.int p1), .val (.int p2), .val (.int p3), .val (.int p4), .val (.int p5), .val (.ref b)] [(.ref b), (.ref a)])) (fun t_ k_ => XS.aload X6.here hx rfl (hb hby d1_32) rfl rfl k_) ?_
  refine goClone X6 hx hZ hown (hw _ (List.mem_of_getElem? (i := 20) rfl)) (hw _ (List.mem_of_getElem? (i := 21) rfl)) (hw _ (List.mem_of_getElem? (i := 25) rfl)) (hw _ (List.mem_of_getElem? (i := 23) rfl)) (hw _ (List.mem_of_getElem? (i := 24) rfl)) (hw _ (List.mem_of_getElem? (i := 26) rfl)) f6_2 f6_1 (fun i _ => rfl) (by rw [hml]; rfl) (hb hby d1_34) (by decide) (W := 1) (cap := 1) rfl (by decide) (by decide) (by decide) (by decide) fun T7 h7 b7 gb7 X7 E7 A7 B7 => ?_
  have ge7 : n0 ≤ b7 := gb7 ▸ sz6
  have ne7_a : a ≠ b7 := gb7 ▸ Nat.ne_of_lt f6_0.lt
  have ne7_b : b ≠ b7 := gb7 ▸ Nat.ne_of_lt f6_1.lt
  have fr7 : h0.size ≤ b7 := gb7 ▸ K6.1
  have f7_0 : Exa Z h7 a "com/example/cellsight/cellsight/analysis/Call" := f6_0.ext E7
  have f7_1 : Exa Z h7 b "[I" := f6_1.ext E7
  have f7_2 : Ary Z h7 b .int 1 (fun i => .int (f i)) := f6_2.ext E7
  have f7_3 : Fld Z h7 a "com/example/cellsight/cellsight/analysis/Call" "arguments" "[I" u6 := f6_3.ext E7
  have f7_5 : Fld Z h7 a "com/example/cellsight/cellsight/analysis/Call" "index" "I" (.int p1) := f6_5.ext E7
  have f7_6 : Fld Z h7 a "com/example/cellsight/cellsight/analysis/Call" "result" "I" (.int p2) := f6_6.ext E7
  have f7_7 : Fld Z h7 a "com/example/cellsight/cellsight/analysis/Call" "thrown" "I" (.int p3) := f6_7.ext E7
  have f7_8 : Fld Z h7 a "com/example/cellsight/cellsight/analysis/Call" "through" "I" (.int p4) := f6_8.ext E7
  have f7_9 : Fld Z h7 a "com/example/cellsight/cellsight/analysis/Call" "method" "I" (.int p5) := Fw6.ext E7
  have sz7 : n0 ≤ h7.size := Nat.le_trans sz6 E7.1
  have K7 : Keep h0 h7 [a] := K6.ext E7
  show Go p e below _ T7 (mkF m 37 #[.val (.ref a), .val (.int p1), .val (.int p2), .val (.int p3), .val (.int p4), .val (.int p5), .val (.ref b)] [(.ref b7), (.ref a)])
  refine goCast X7 hx hZ hown (hw _ (List.mem_of_getElem? (i := 27) rfl)) (Ins.self A7) (hb hby d1_37) fun T8 X8 => ?_
  show Go p e below _ T8 (mkF m 40 #[.val (.ref a), .val (.int p1), .val (.int p2), .val (.int p3), .val (.int p4), .val (.int p5), .val (.ref b)] [(.ref b7), (.ref a)])
  refine goPut X8 hx hZ hown (host := "") (Or.inl (hw _ (List.mem_of_getElem? (i := 29) rfl))) Via.refl f7_3 f7_0 (Or.inr ⟨(hw _ (List.mem_of_getElem? (i := 30) rfl)), rfl, hnm⟩) (hw _ (List.mem_of_getElem? (i := 1) rfl)) (ty := (.array .int)) (by decide) rfl rfl g9 (hb hby d1_40) fun T9 h9 X9 W9 => ?_
  have Fw9 := f7_3.same W9
  have f9_0 : Exa Z h9 a "com/example/cellsight/cellsight/analysis/Call" := f7_0.wr W9
  have f9_1 : Exa Z h9 b "[I" := f7_1.wr W9
  have f9_2 : Ary Z h9 b .int 1 (fun i => .int (f i)) := f7_2.other W9 (ne_exa f7_1 f7_0 (by decide))
  have f9_4 : Fld Z h9 a "com/example/cellsight/cellsight/analysis/Call" "index" "I" (.int p1) := f7_5.other W9 (Or.inr (slot_ne (Or.inr (hw _ (List.mem_of_getElem? (i := 11) rfl))) (Or.inr (hw _ (List.mem_of_getElem? (i := 30) rfl))) (by decide) (t := .int) (t' := (.array .int)) (by decide) (by decide)))
  have f9_5 : Fld Z h9 a "com/example/cellsight/cellsight/analysis/Call" "result" "I" (.int p2) := f7_6.other W9 (Or.inr (slot_ne (Or.inr (hw _ (List.mem_of_getElem? (i := 13) rfl))) (Or.inr (hw _ (List.mem_of_getElem? (i := 30) rfl))) (by decide) (t := .int) (t' := (.array .int)) (by decide) (by decide)))
  have f9_6 : Fld Z h9 a "com/example/cellsight/cellsight/analysis/Call" "thrown" "I" (.int p3) := f7_7.other W9 (Or.inr (slot_ne (Or.inr (hw _ (List.mem_of_getElem? (i := 15) rfl))) (Or.inr (hw _ (List.mem_of_getElem? (i := 30) rfl))) (by decide) (t := .int) (t' := (.array .int)) (by decide) (by decide)))
  have f9_7 : Fld Z h9 a "com/example/cellsight/cellsight/analysis/Call" "through" "I" (.int p4) := f7_8.other W9 (Or.inr (slot_ne (Or.inr (hw _ (List.mem_of_getElem? (i := 17) rfl))) (Or.inr (hw _ (List.mem_of_getElem? (i := 30) rfl))) (by decide) (t := .int) (t' := (.array .int)) (by decide) (by decide)))
  have f9_8 : Fld Z h9 a "com/example/cellsight/cellsight/analysis/Call" "method" "I" (.int p5) := f7_9.other W9 (Or.inr (slot_ne (Or.inr (hw _ (List.mem_of_getElem? (i := 19) rfl))) (Or.inr (hw _ (List.mem_of_getElem? (i := 30) rfl))) (by decide) (t := .int) (t' := (.array .int)) (by decide) (by decide)))
  have f9_13 : Exa Z h9 b7 "[I" := A7.wr W9
  have f9_14 : Ary Z h9 b7 .int 1 (fun i => .int (f i)) := B7.other W9 ne7_a.symm
  have sz9 : n0 ≤ h9.size := Nat.le_trans sz7 (Keep.of_wr W9).1
  have K9 : Keep h0 h9 [a] := K7.wr W9 (Or.inl (List.mem_of_getElem? (i := 0) rfl))
  show Go p e below _ T9 (mkF m 43 #[.val (.ref a), .val (.int p1), .val (.int p2), .val (.int p3), .val (.int p4), .val (.int p5), .val (.ref b)] [])
  refine goRetV X9 hx hlk hret (hb hby d1_43) (by decide) (by decide) ?_
  refine ⟨rfl, K9, f9_0, f9_8⟩
theorem d3_0 : decode prog_9_method_6_code 0 = .ok (.aload_n 0, 1) := by decide +kernel
theorem d3_1 : decode prog_9_method_6_code 1 = .ok (.getfield 22, 3) := by decide +kernel
theorem d3_4 : decode prog_9_method_6_code 4 = .ok (.iconst (-1), 1) := by decide +kernel
theorem d3_5 : decode prog_9_method_6_code 5 = .ok (.if_icmp .eq 7, 3) := by decide +kernel
theorem d3_8 : decode prog_9_method_6_code 8 = .ok (.iconst 1, 1) := by decide +kernel
theorem d3_9 : decode prog_9_method_6_code 9 = .ok (.goto 4, 3) := by decide +kernel
theorem d3_12 : decode prog_9_method_6_code 12 = .ok (.iconst 0, 1) := by decide +kernel
theorem d3_13 : decode prog_9_method_6_code 13 = .ok (.ireturn, 1) := by decide +kernel
theorem pn_3 : plainFor (⟨"com/example/cellsight/cellsight/analysis/Call", "dispatches", "()Z"⟩ : MethodName) = true := plainFor_of_name (by first | (simp [plainName, overriddenIn]; done) | decide +kernel)
theorem ef_rm3 (m : MethodId) (x0 : Addr) : entryFrame m #[(.ref x0)] 1 = mkF m 0 #[.val (.ref x0)] [] := by first | (simp [entryFrame, mkF, argsToLocals, Value.category]; done) | rfl
def Q3 (Z : State) (n0 : Nat) (h0 : Heap) (a : Addr) (w : Int32) (v : Option Value) (h : Heap) : Prop := ∃ (r : Int32), v = some (.int r) ∧ h = h0 ∧ (own_is r (¬ w = (-1 : Int32)))
set_option maxRecDepth 65536 in
set_option maxHeartbeats 40000000 in
theorem rm3 (l : Launch) (Z : State) (a0 : Array Value) (hw : ∀ d ∈ tables_1, d.before a0 Z = true) (ws : List Jvm.Cond) (n0 : Nat) (h0 : Heap) (a : Addr) (w : Int32) (sz0 : n0 ≤ h0.size) (g0 : Fld Z h0 a "com/example/cellsight/cellsight/analysis/Call" "method" "I" (.int w)) :
    Con l (⟨"com/example/cellsight/cellsight/analysis/Call", "dispatches", "()Z"⟩ : MethodName) prog_9_method_6_code 1 (some .boolean) ({ frames := 0, cells := 0, slots := 0, locals := 0 } : Room) ws Z n0 #[(.ref a)] h0 (Q3 Z n0 h0 a w) := by
  refine Con.body pn_3 ?_
  intro p e s m below meth c s₁ hx hby hml hown hnm hret hlk hZ X0
  have hown : s.vm.findClass "com/example/cellsight/cellsight/analysis/Call" = some m.cls := hown
  have hnm : meth.name = "dispatches" := hnm
  rw [show entryFrame m #[(.ref a)] 1 = mkF m 0 #[.val (.ref a)] [] from ef_rm3 m a]
  show Go p e below (PostW s n0 (0 : Nat) (0 : Nat) (Q3 Z n0 h0 a w)) s₁ (mkF m 0 #[.val (.ref a)] [])
  refine Go.st (T' := s₁) (g' := (mkF m 1 #[.val (.ref a)] [(.ref a)])) (fun t_ k_ => XS.aloadN X0.here hx rfl (hb hby d3_0) rfl rfl k_) ?_
  refine goGet X0 hx hZ hown (host := "") (Or.inl (hw _ (List.mem_of_getElem? (i := 18) rfl))) Via.refl g0 (hb hby d3_1) fun T1 X1 => ?_
  show Go p e below _ T1 (mkF m 4 #[.val (.ref a)] [(.int w)])
  refine Go.st (T' := T1) (g' := (mkF m 5 #[.val (.ref a)] [(.int (-1 : Int32)), (.int w)])) (fun t_ k_ => XS.iconst X1.here hx rfl (hb hby d3_4) k_) ?_
  by_cases hc5 : w = (-1 : Int32)
  · skip
    refine Go.st (T' := T1) (g' := (mkF m 12 #[.val (.ref a)] [])) (fun t_ k_ => XS.icmpYes X1.here hx rfl (pc0 := 5) (pc' := 12) rfl (hb hby d3_5) rfl (teq hc5).1 (by decide) (by decide) k_) ?_
    refine Go.st (T' := T1) (g' := (mkF m 13 #[.val (.ref a)] [(.int (0 : Int32))])) (fun t_ k_ => XS.iconst X1.here hx rfl (hb hby d3_12) k_) ?_
    refine goRetZ X1 hx hlk hret (hb hby d3_13) (by decide) (by decide) (Or.inl rfl) ?_
    refine ⟨(0 : Int32), rfl, rfl, ?_⟩
    · first | exact Or.inl ⟨rfl, hc5⟩ | exact Or.inr ⟨rfl, fun z => z hc5⟩
  · skip
    refine Go.st (T' := T1) (g' := (mkF m 8 #[.val (.ref a)] [])) (fun t_ k_ => XS.icmpNo X1.here hx rfl (hb hby d3_5) rfl (feq hc5).1 k_) ?_
    refine Go.st (T' := T1) (g' := (mkF m 9 #[.val (.ref a)] [(.int (1 : Int32))])) (fun t_ k_ => XS.iconst X1.here hx rfl (hb hby d3_8) k_) ?_
    refine Go.st (T' := T1) (g' := (mkF m 13 #[.val (.ref a)] [(.int (1 : Int32))])) (fun t_ k_ => XS.goto X1.here hx rfl (pc0 := 9) (pc' := 13) rfl (hb hby d3_9) (by decide) (by decide) k_) ?_
    refine goRetZ X1 hx hlk hret (hb hby d3_13) (by decide) (by decide) (Or.inr rfl) ?_
    refine ⟨(1 : Int32), rfl, rfl, ?_⟩
    · first | exact Or.inl ⟨rfl, hc5⟩ | exact Or.inr ⟨rfl, fun z => z hc5⟩
theorem d4_0 : decode prog_9_method_7_code 0 = .ok (.aload_n 0, 1) := by decide +kernel
theorem d4_1 : decode prog_9_method_7_code 1 = .ok (.getfield 22, 3) := by decide +kernel
theorem d4_4 : decode prog_9_method_7_code 4 = .ok (.ireturn, 1) := by decide +kernel
theorem pn_4 : plainFor (⟨"com/example/cellsight/cellsight/analysis/Call", "method", "()I"⟩ : MethodName) = true := plainFor_of_name (by first | (simp [plainName, overriddenIn]; done) | decide +kernel)
theorem ef_rm4 (m : MethodId) (x0 : Addr) : entryFrame m #[(.ref x0)] 1 = mkF m 0 #[.val (.ref x0)] [] := by first | (simp [entryFrame, mkF, argsToLocals, Value.category]; done) | rfl
def Q4 (Z : State) (n0 : Nat) (h0 : Heap) (a : Addr) (w : Int32) (v : Option Value) (h : Heap) : Prop := v = some (.int w) ∧ h = h0
set_option maxRecDepth 65536 in
set_option maxHeartbeats 40000000 in
theorem rm4 (l : Launch) (Z : State) (a0 : Array Value) (hw : ∀ d ∈ tables_1, d.before a0 Z = true) (ws : List Jvm.Cond) (n0 : Nat) (h0 : Heap) (a : Addr) (w : Int32) (sz0 : n0 ≤ h0.size) (g0 : Fld Z h0 a "com/example/cellsight/cellsight/analysis/Call" "method" "I" (.int w)) :
    Con l (⟨"com/example/cellsight/cellsight/analysis/Call", "method", "()I"⟩ : MethodName) prog_9_method_7_code 1 (some .int) ({ frames := 0, cells := 0, slots := 0, locals := 0 } : Room) ws Z n0 #[(.ref a)] h0 (Q4 Z n0 h0 a w) := by
  refine Con.body pn_4 ?_
  intro p e s m below meth c s₁ hx hby hml hown hnm hret hlk hZ X0
  have hown : s.vm.findClass "com/example/cellsight/cellsight/analysis/Call" = some m.cls := hown
  have hnm : meth.name = "method" := hnm
  rw [show entryFrame m #[(.ref a)] 1 = mkF m 0 #[.val (.ref a)] [] from ef_rm4 m a]
  show Go p e below (PostW s n0 (0 : Nat) (0 : Nat) (Q4 Z n0 h0 a w)) s₁ (mkF m 0 #[.val (.ref a)] [])
  refine Go.st (T' := s₁) (g' := (mkF m 1 #[.val (.ref a)] [(.ref a)])) (fun t_ k_ => XS.aloadN X0.here hx rfl (hb hby d4_0) rfl rfl k_) ?_
  refine goGet X0 hx hZ hown (host := "") (Or.inl (hw _ (List.mem_of_getElem? (i := 18) rfl))) Via.refl g0 (hb hby d4_1) fun T1 X1 => ?_
  show Go p e below _ T1 (mkF m 4 #[.val (.ref a)] [(.int w)])
  refine goRetI X1 hx hlk hret (hb hby d4_4) (by decide) (by decide) ?_
  refine ⟨rfl, rfl⟩
theorem pn_0 : plainFor x = true := plainFor_of_name (by first | (simp [plainName, overriddenIn]; done) | decide +kernel)
theorem pd_f2cd4338 : parseMethodDescriptor "(IIIII[I)V" = some ⟨[.int, .int, .int, .int, .int, (.array .int)], none⟩ := by decide +kernel
theorem pd_06e7e94b : parseMethodDescriptor "()Z" = some ⟨[], some .boolean⟩ := by decide +kernel
theorem pd_8259a895 : parseMethodDescriptor "()I" = some ⟨[], some .int⟩ := by decide +kernel
theorem ef_rm0 (m : MethodId) (x0 : Int32) (x1 : Int32) (x2 : Int32) (x3 : Int32) (x4 : Int32) (x5 : Int32) : entryFrame m #[(.int x0), (.int x1), (.int x2), (.int x3), (.int x4), (.int x5)] maxLocals = mkF m 0 #[.val (.int x0), .val (.int x1), .val (.int x2), .val (.int x3), .val (.int x4), .val (.int x5), .unset, .unset, .unset, .unset, .unset] [] := by first | (simp [entryFrame, mkF, argsToLocals, Value.category, maxLocals]; done) | rfl
def Q0 (Z : State) (n0 : Nat) (h0 : Heap) (p1 : Int32) (p2 : Int32) (p3 : Int32) (p4 : Int32) (p5 : Int32) (p6 : Int32) (v : Option Value) (h : Heap) : Prop := v = some (.int (1 : Int32))
set_option maxRecDepth 65536 in
set_option maxHeartbeats 40000000 in
theorem rm0 (l : Launch) (Z : State) (a0 : Array Value) (hw : ∀ d ∈ tables_1, d.before a0 Z = true) (ws : List Jvm.Cond) (n0 : Nat) (h0 : Heap) (p1 : Int32) (p2 : Int32) (p3 : Int32) (p4 : Int32) (p5 : Int32) (p6 : Int32) (sz0 : n0 ≤ h0.size) :
    Con l x code maxLocals ret room_1 ws Z n0 #[(.int p1), (.int p2), (.int p3), (.int p4), (.int p5), (.int p6)] h0 (Q0 Z n0 h0 p1 p2 p3 p4 p5 p6) := by
  refine Con.body pn_0 ?_
  intro p e s m below meth c s₁ hx hby hml hown hnm hret hlk hZ X0
  have hown : s.vm.findClass "com/example/cellsight/cellsight/analysis/CallDispatchesPinLaw" = some m.cls := hown
  have hnm : meth.name = "law" := hnm
  have hml : c.maxLocals = 11 := hml
  have hret : meth.sig.returnType = some .boolean := hret
  rw [show entryFrame m #[(.int p1), (.int p2), (.int p3), (.int p4), (.int p5), (.int p6)] maxLocals = mkF m 0 #[.val (.int p1), .val (.int p2), .val (.int p3), .val (.int p4), .val (.int p5), .val (.int p6), .unset, .unset, .unset, .unset, .unset] [] from ef_rm0 m p1 p2 p3 p4 p5 p6]
  show Go p e below (PostW s n0 room_1.cells room_1.slots (Q0 Z n0 h0 p1 p2 p3 p4 p5 p6)) s₁ (mkF m 0 #[.val (.int p1), .val (.int p2), .val (.int p3), .val (.int p4), .val (.int p5), .val (.int p6), .unset, .unset, .unset, .unset, .unset] [])
  refine Go.st (T' := s₁) (g' := (mkF m 2 #[.val (.int p1), .val (.int p2), .val (.int p3), .val (.int p4), .val (.int p5), .val (.int p6), .unset, .unset, .unset, .unset, .unset] [(.int p6)])) (fun t_ k_ => XS.iload X0.here hx rfl (hb hby at_0) rfl k_) ?_
  refine Go.st (T' := s₁) (g' := (mkF m 3 #[.val (.int p1), .val (.int p2), .val (.int p3), .val (.int p4), .val (.int p5), .val (.int p6), .unset, .unset, .unset, .unset, .unset] [(.int (3 : Int32)), (.int p6)])) (fun t_ k_ => XS.iconst X0.here hx rfl (hb hby at_2) k_) ?_
  refine Go.st (T' := s₁) (g' := (mkF m 4 #[.val (.int p1), .val (.int p2), .val (.int p3), .val (.int p4), .val (.int p5), .val (.int p6), .unset, .unset, .unset, .unset, .unset] [(.int (p6 &&& (3 : Int32)))])) (fun t_ k_ => XS.iand X0.here hx rfl (hb hby at_3) rfl k_) ?_
  have J13_1 : ∀ (mm : Int32), mm = (if (p6 &&& (3 : Int32)) = (0 : Int32) then (-1 : Int32) else p5) → Go p e below (PostW s n0 room_1.cells room_1.slots (Q0 Z n0 h0 p1 p2 p3 p4 p5 p6)) s₁ (mkF m 13 #[.val (.int p1), .val (.int p2), .val (.int p3), .val (.int p4), .val (.int p5), .val (.int p6), .unset, .unset, .unset, .unset, .unset] [(.int mm)]) := by
    intro mm h_mm
    refine Go.st (T' := s₁) (g' := (mkF m 15 #[.val (.int p1), .val (.int p2), .val (.int p3), .val (.int p4), .val (.int p5), .val (.int p6), .val (.int mm), .unset, .unset, .unset, .unset] [])) (fun t_ k_ => XS.istore X0.here hx rfl (hb hby at_13) rfl (l' := #[.val (.int p1), .val (.int p2), .val (.int p3), .val (.int p4), .val (.int p5), .val (.int p6), .val (.int mm), .unset, .unset, .unset, .unset]) rfl k_) ?_
    refine Go.st (T' := s₁) (g' := (mkF m 17 #[.val (.int p1), .val (.int p2), .val (.int p3), .val (.int p4), .val (.int p5), .val (.int p6), .val (.int mm), .unset, .unset, .unset, .unset] [(.int p6)])) (fun t_ k_ => XS.iload X0.here hx rfl (hb hby at_15) rfl k_) ?_
    refine Go.st (T' := s₁) (g' := (mkF m 18 #[.val (.int p1), .val (.int p2), .val (.int p3), .val (.int p4), .val (.int p5), .val (.int p6), .val (.int mm), .unset, .unset, .unset, .unset] [(.int (4 : Int32)), (.int p6)])) (fun t_ k_ => XS.iconst X0.here hx rfl (hb hby at_17) k_) ?_
    refine Go.st (T' := s₁) (g' := (mkF m 19 #[.val (.int p1), .val (.int p2), .val (.int p3), .val (.int p4), .val (.int p5), .val (.int p6), .val (.int mm), .unset, .unset, .unset, .unset] [(.int (p6 &&& (4 : Int32)))])) (fun t_ k_ => XS.iand X0.here hx rfl (hb hby at_18) rfl k_) ?_
    have J27_2 : ∀ (tt : Int32), tt = (if (p6 &&& (4 : Int32)) = (0 : Int32) then p3 else (-1 : Int32)) → Go p e below (PostW s n0 room_1.cells room_1.slots (Q0 Z n0 h0 p1 p2 p3 p4 p5 p6)) s₁ (mkF m 27 #[.val (.int p1), .val (.int p2), .val (.int p3), .val (.int p4), .val (.int p5), .val (.int p6), .val (.int mm), .unset, .unset, .unset, .unset] [(.int tt)]) := by
      intro tt h_tt
      refine Go.st (T' := s₁) (g' := (mkF m 29 #[.val (.int p1), .val (.int p2), .val (.int p3), .val (.int p4), .val (.int p5), .val (.int p6), .val (.int mm), .val (.int tt), .unset, .unset, .unset] [])) (fun t_ k_ => XS.istore X0.here hx rfl (hb hby at_27) rfl (l' := #[.val (.int p1), .val (.int p2), .val (.int p3), .val (.int p4), .val (.int p5), .val (.int p6), .val (.int mm), .val (.int tt), .unset, .unset, .unset]) rfl k_) ?_
      refine Go.st (T' := s₁) (g' := (mkF m 31 #[.val (.int p1), .val (.int p2), .val (.int p3), .val (.int p4), .val (.int p5), .val (.int p6), .val (.int mm), .val (.int tt), .unset, .unset, .unset] [(.int p6)])) (fun t_ k_ => XS.iload X0.here hx rfl (hb hby at_29) rfl k_) ?_
      refine Go.st (T' := s₁) (g' := (mkF m 33 #[.val (.int p1), .val (.int p2), .val (.int p3), .val (.int p4), .val (.int p5), .val (.int p6), .val (.int mm), .val (.int tt), .unset, .unset, .unset] [(.int (8 : Int32)), (.int p6)])) (fun t_ k_ => XS.bipush X0.here hx rfl (hb hby at_31) k_) ?_
      refine Go.st (T' := s₁) (g' := (mkF m 34 #[.val (.int p1), .val (.int p2), .val (.int p3), .val (.int p4), .val (.int p5), .val (.int p6), .val (.int mm), .val (.int tt), .unset, .unset, .unset] [(.int (p6 &&& (8 : Int32)))])) (fun t_ k_ => XS.iand X0.here hx rfl (hb hby at_33) rfl k_) ?_
      have J42_3 : ∀ (th : Int32), th = (if (p6 &&& (8 : Int32)) = (0 : Int32) then p4 else (-1 : Int32)) → Go p e below (PostW s n0 room_1.cells room_1.slots (Q0 Z n0 h0 p1 p2 p3 p4 p5 p6)) s₁ (mkF m 42 #[.val (.int p1), .val (.int p2), .val (.int p3), .val (.int p4), .val (.int p5), .val (.int p6), .val (.int mm), .val (.int tt), .unset, .unset, .unset] [(.int th)]) := by
        intro th h_th
        refine Go.st (T' := s₁) (g' := (mkF m 44 #[.val (.int p1), .val (.int p2), .val (.int p3), .val (.int p4), .val (.int p5), .val (.int p6), .val (.int mm), .val (.int tt), .val (.int th), .unset, .unset] [])) (fun t_ k_ => XS.istore X0.here hx rfl (hb hby at_42) rfl (l' := #[.val (.int p1), .val (.int p2), .val (.int p3), .val (.int p4), .val (.int p5), .val (.int p6), .val (.int mm), .val (.int tt), .val (.int th), .unset, .unset]) rfl k_) ?_
        refine goNew X0 hx hZ hown (hw _ (List.mem_of_getElem? (i := 0) rfl)) (hw _ (List.mem_of_getElem? (i := 1) rfl)) (hw _ (List.mem_of_getElem? (i := 2) rfl)) (hb hby at_44) (by decide) (by decide) fun T4 h4 b4 gb4 X4 E4 A4 D4 => ?_
        have ge4 : n0 ≤ b4 := gb4 ▸ sz0
        have sz4 : n0 ≤ h4.size := Nat.le_trans sz0 E4.1
        have F4_index : Fld Z h4 b4 "com/example/cellsight/cellsight/analysis/Call" "index" "I" (.int (0 : Int32)) := D4 (Or.inr (hw _ (List.mem_of_getElem? (i := 11) rfl))) (ty := .int) (by decide)
        have F4_result : Fld Z h4 b4 "com/example/cellsight/cellsight/analysis/Call" "result" "I" (.int (0 : Int32)) := D4 (Or.inr (hw _ (List.mem_of_getElem? (i := 13) rfl))) (ty := .int) (by decide)
        have F4_thrown : Fld Z h4 b4 "com/example/cellsight/cellsight/analysis/Call" "thrown" "I" (.int (0 : Int32)) := D4 (Or.inr (hw _ (List.mem_of_getElem? (i := 15) rfl))) (ty := .int) (by decide)
        have F4_through : Fld Z h4 b4 "com/example/cellsight/cellsight/analysis/Call" "through" "I" (.int (0 : Int32)) := D4 (Or.inr (hw _ (List.mem_of_getElem? (i := 17) rfl))) (ty := .int) (by decide)
        have F4_method : Fld Z h4 b4 "com/example/cellsight/cellsight/analysis/Call" "method" "I" (.int (0 : Int32)) := D4 (Or.inr (hw _ (List.mem_of_getElem? (i := 19) rfl))) (ty := .int) (by decide)
        have F4_arguments : Fld Z h4 b4 "com/example/cellsight/cellsight/analysis/Call" "arguments" "[I" .null := D4 (Or.inr (hw _ (List.mem_of_getElem? (i := 30) rfl))) (ty := (.array .int)) (by decide)
        show Go p e below _ T4 (mkF m 47 #[.val (.int p1), .val (.int p2), .val (.int p3), .val (.int p4), .val (.int p5), .val (.int p6), .val (.int mm), .val (.int tt), .val (.int th), .unset, .unset] [(.ref b4)])
        refine Go.st (T' := T4) (g' := (mkF m 48 #[.val (.int p1), .val (.int p2), .val (.int p3), .val (.int p4), .val (.int p5), .val (.int p6), .val (.int mm), .val (.int tt), .val (.int th), .unset, .unset] [(.ref b4), (.ref b4)])) (fun t_ k_ => XS.dup X4.here hx rfl (hb hby at_47) rfl rfl k_) ?_
        refine Go.st (T' := T4) (g' := (mkF m 49 #[.val (.int p1), .val (.int p2), .val (.int p3), .val (.int p4), .val (.int p5), .val (.int p6), .val (.int mm), .val (.int tt), .val (.int th), .unset, .unset] [(.int p1), (.ref b4), (.ref b4)])) (fun t_ k_ => XS.iloadN X4.here hx rfl (hb hby at_48) rfl k_) ?_
        refine Go.st (T' := T4) (g' := (mkF m 50 #[.val (.int p1), .val (.int p2), .val (.int p3), .val (.int p4), .val (.int p5), .val (.int p6), .val (.int mm), .val (.int tt), .val (.int th), .unset, .unset] [(.int p2), (.int p1), (.ref b4), (.ref b4)])) (fun t_ k_ => XS.iloadN X4.here hx rfl (hb hby at_49) rfl k_) ?_
        refine Go.st (T' := T4) (g' := (mkF m 52 #[.val (.int p1), .val (.int p2), .val (.int p3), .val (.int p4), .val (.int p5), .val (.int p6), .val (.int mm), .val (.int tt), .val (.int th), .unset, .unset] [(.int tt), (.int p2), (.int p1), (.ref b4), (.ref b4)])) (fun t_ k_ => XS.iload X4.here hx rfl (hb hby at_50) rfl k_) ?_
        refine Go.st (T' := T4) (g' := (mkF m 54 #[.val (.int p1), .val (.int p2), .val (.int p3), .val (.int p4), .val (.int p5), .val (.int p6), .val (.int mm), .val (.int tt), .val (.int th), .unset, .unset] [(.int th), (.int tt), (.int p2), (.int p1), (.ref b4), (.ref b4)])) (fun t_ k_ => XS.iload X4.here hx rfl (hb hby at_52) rfl k_) ?_
        refine Go.st (T' := T4) (g' := (mkF m 56 #[.val (.int p1), .val (.int p2), .val (.int p3), .val (.int p4), .val (.int p5), .val (.int p6), .val (.int mm), .val (.int tt), .val (.int th), .unset, .unset] [(.int mm), (.int th), (.int tt), (.int p2), (.int p1), (.ref b4), (.ref b4)])) (fun t_ k_ => XS.iload X4.here hx rfl (hb hby at_54) rfl k_) ?_
        refine Go.st (T' := T4) (g' := (mkF m 57 #[.val (.int p1), .val (.int p2), .val (.int p3), .val (.int p4), .val (.int p5), .val (.int p6), .val (.int mm), .val (.int tt), .val (.int th), .unset, .unset] [(.int (1 : Int32)), (.int mm), (.int th), (.int tt), (.int p2), (.int p1), (.ref b4), (.ref b4)])) (fun t_ k_ => XS.iconst X4.here hx rfl (hb hby at_56) k_) ?_
        refine goNewA (aty := .int) X4 hx hZ (hw _ (List.mem_of_getElem? (i := 3) rfl)) (hb hby at_57) (by decide) (cap := 1) (by decide) (by decide) (by decide) (by decide) (ad := "[I") (by decide) fun T5 h5 b5 gb5 X5 E5 A5 B5 => ?_
        have ge5 : n0 ≤ b5 := gb5 ▸ sz4
        have ne5_b4 : b4 ≠ b5 := gb5 ▸ Nat.ne_of_lt A4.lt
        have f5_1 : Exa Z h5 b4 "com/example/cellsight/cellsight/analysis/Call" := A4.ext E5
        have f5_2 : Fld Z h5 b4 "com/example/cellsight/cellsight/analysis/Call" "index" "I" (.int (0 : Int32)) := F4_index.ext E5
        have f5_3 : Fld Z h5 b4 "com/example/cellsight/cellsight/analysis/Call" "result" "I" (.int (0 : Int32)) := F4_result.ext E5
        have f5_4 : Fld Z h5 b4 "com/example/cellsight/cellsight/analysis/Call" "thrown" "I" (.int (0 : Int32)) := F4_thrown.ext E5
        have f5_5 : Fld Z h5 b4 "com/example/cellsight/cellsight/analysis/Call" "through" "I" (.int (0 : Int32)) := F4_through.ext E5
        have f5_6 : Fld Z h5 b4 "com/example/cellsight/cellsight/analysis/Call" "method" "I" (.int (0 : Int32)) := F4_method.ext E5
        have f5_7 : Fld Z h5 b4 "com/example/cellsight/cellsight/analysis/Call" "arguments" "[I" .null := F4_arguments.ext E5
        have sz5 : n0 ≤ h5.size := Nat.le_trans sz4 E5.1
        have B5' : Ary Z h5 b5 .int 1 (fun _ => .int 0) := B5
        show Go p e below _ T5 (mkF m 59 #[.val (.int p1), .val (.int p2), .val (.int p3), .val (.int p4), .val (.int p5), .val (.int p6), .val (.int mm), .val (.int tt), .val (.int th), .unset, .unset] [(.ref b5), (.int mm), (.int th), (.int tt), (.int p2), (.int p1), (.ref b4), (.ref b4)])
        refine Go.st (T' := T5) (g' := (mkF m 60 #[.val (.int p1), .val (.int p2), .val (.int p3), .val (.int p4), .val (.int p5), .val (.int p6), .val (.int mm), .val (.int tt), .val (.int th), .unset, .unset] [(.ref b5), (.ref b5), (.int mm), (.int th), (.int tt), (.int p2), (.int p1), (.ref b4), (.ref b4)])) (fun t_ k_ => XS.dup X5.here hx rfl (hb hby at_59) rfl rfl k_) ?_
        refine Go.st (T' := T5) (g' := (mkF m 61 #[.val (.int p1), .val (.int p2), .val (.int p3), .val (.int p4), .val (.int p5), .val (.int p6), .val (.int mm), .val (.int tt), .val (.int th), .unset, .unset] [(.int (0 : Int32)), (.ref b5), (.ref b5), (.int mm), (.int th), (.int tt), (.int p2), (.int p1), (.ref b4), (.ref b4)])) (fun t_ k_ => XS.iconst X5.here hx rfl (hb hby at_60) k_) ?_
        refine Go.st (T' := T5) (g' := (mkF m 63 #[.val (.int p1), .val (.int p2), .val (.int p3), .val (.int p4), .val (.int p5), .val (.int p6), .val (.int mm), .val (.int tt), .val (.int th), .unset, .unset] [(.int p6), (.int (0 : Int32)), (.ref b5), (.ref b5), (.int mm), (.int th), (.int tt), (.int p2), (.int p1), (.ref b4), (.ref b4)])) (fun t_ k_ => XS.iload X5.here hx rfl (hb hby at_61) rfl k_) ?_
        refine goStI X5 hx hZ (f := (fun _ => 0)) B5' (j := (0 : Int32)) (by decide) ge5 (hb hby at_63) fun T6 h6 X6 W6 A6 => ?_
        have f6_1 : Exa Z h6 b4 "com/example/cellsight/cellsight/analysis/Call" := f5_1.wr W6
        have f6_2 : Fld Z h6 b4 "com/example/cellsight/cellsight/analysis/Call" "index" "I" (.int (0 : Int32)) := f5_2.other W6 (Or.inl ne5_b4)
        have f6_3 : Fld Z h6 b4 "com/example/cellsight/cellsight/analysis/Call" "result" "I" (.int (0 : Int32)) := f5_3.other W6 (Or.inl ne5_b4)
        have f6_4 : Fld Z h6 b4 "com/example/cellsight/cellsight/analysis/Call" "thrown" "I" (.int (0 : Int32)) := f5_4.other W6 (Or.inl ne5_b4)
        have f6_5 : Fld Z h6 b4 "com/example/cellsight/cellsight/analysis/Call" "through" "I" (.int (0 : Int32)) := f5_5.other W6 (Or.inl ne5_b4)
        have f6_6 : Fld Z h6 b4 "com/example/cellsight/cellsight/analysis/Call" "method" "I" (.int (0 : Int32)) := f5_6.other W6 (Or.inl ne5_b4)
        have f6_7 : Fld Z h6 b4 "com/example/cellsight/cellsight/analysis/Call" "arguments" "[I" .null := f5_7.other W6 (Or.inl ne5_b4)
        have f6_10 : Exa Z h6 b5 "[I" := A5.wr W6
        have sz6 : n0 ≤ h6.size := Nat.le_trans sz5 (Keep.of_wr W6).1
        show Go p e below _ T6 (mkF m 64 #[.val (.int p1), .val (.int p2), .val (.int p3), .val (.int p4), .val (.int p5), .val (.int p6), .val (.int mm), .val (.int tt), .val (.int th), .unset, .unset] [(.ref b5), (.int mm), (.int th), (.int tt), (.int p2), (.int p1), (.ref b4), (.ref b4)])
        refine goCtor X6 hx hZ (y := (⟨"com/example/cellsight/cellsight/analysis/Call", "<init>", "(IIIII[I)V"⟩ : MethodName)) rfl hown (hw _ (List.mem_of_getElem? (i := 4) rfl)) (hw _ (List.mem_of_getElem? (i := 5) rfl)) (hw _ (List.mem_of_getElem? (i := 2) rfl)) (hw _ (List.mem_of_getElem? (i := 6) rfl)) (by decide) (rm1 l Z a0 hw [] n0 h6 b4 p1 p2 tt th mm b5 (fun i => if i = ((0 : Int32)).toNatClampNeg then p6 else (fun _ => 0) i) (.int (0 : Int32)) (.int (0 : Int32)) (.int (0 : Int32)) (.int (0 : Int32)) (.int (0 : Int32)) .null sz6 f6_1 f6_10 A6 f6_2 f6_3 f6_4 f6_5 f6_6 f6_7 ge4) 1 (by decide) (by decide) (by rw [hml]; rfl) b4 [(.int p1), (.int p2), (.int tt), (.int th), (.int mm), (.ref b5)] [(.ref b4)] (lenOf pd_f2cd4338 rfl) rfl rfl rfl (hb hby at_64) (by decide) (by decide) fun v7 T7 h7 X7 hq7 => ?_
        obtain ⟨rfl, K7c, p7_0, p7_1⟩ := hq7
        have f7_1 : Exa Z h7 b4 "com/example/cellsight/cellsight/analysis/Call" := f6_1.keep K7c
        have f7_4 : Exa Z h7 b5 "[I" := f6_10.keep K7c
        have f7_5 : Ary Z h7 b5 .int 1 (fun i => .int (if i = ((0 : Int32)).toNatClampNeg then p6 else (fun _ => 0) i)) := A6.keep K7c (ninS ne5_b4.symm nin0)
        have sz7 : n0 ≤ h7.size := Nat.le_trans sz6 K7c.1
        show Go p e below _ T7 (mkF m 67 #[.val (.int p1), .val (.int p2), .val (.int p3), .val (.int p4), .val (.int p5), .val (.int p6), .val (.int mm), .val (.int tt), .val (.int th), .unset, .unset] [(.ref b4)])
        refine Go.st (T' := T7) (g' := (mkF m 69 #[.val (.int p1), .val (.int p2), .val (.int p3), .val (.int p4), .val (.int p5), .val (.int p6), .val (.int mm), .val (.int tt), .val (.int th), .val (.ref b4), .unset] [])) (fun t_ k_ => XS.astore X7.here hx rfl (hb hby at_67) rfl rfl (l' := #[.val (.int p1), .val (.int p2), .val (.int p3), .val (.int p4), .val (.int p5), .val (.int p6), .val (.int mm), .val (.int tt), .val (.int th), .val (.ref b4), .unset]) rfl k_) ?_
        refine Go.st (T' := T7) (g' := (mkF m 71 #[.val (.int p1), .val (.int p2), .val (.int p3), .val (.int p4), .val (.int p5), .val (.int p6), .val (.int mm), .val (.int tt), .val (.int th), .val (.ref b4), .unset] [(.int mm)])) (fun t_ k_ => XS.iload X7.here hx rfl (hb hby at_69) rfl k_) ?_
        refine Go.st (T' := T7) (g' := (mkF m 72 #[.val (.int p1), .val (.int p2), .val (.int p3), .val (.int p4), .val (.int p5), .val (.int p6), .val (.int mm), .val (.int tt), .val (.int th), .val (.ref b4), .unset] [(.int (-1 : Int32)), (.int mm)])) (fun t_ k_ => XS.iconst X7.here hx rfl (hb hby at_71) k_) ?_
        have J80_8 : ∀ (ex : Int32), ex = (if mm = (-1 : Int32) then (0 : Int32) else (1 : Int32)) → Go p e below (PostW s n0 room_1.cells room_1.slots (Q0 Z n0 h0 p1 p2 p3 p4 p5 p6)) T7 (mkF m 80 #[.val (.int p1), .val (.int p2), .val (.int p3), .val (.int p4), .val (.int p5), .val (.int p6), .val (.int mm), .val (.int tt), .val (.int th), .val (.ref b4), .unset] [(.int ex)]) := by
          intro ex h_ex
          refine Go.st (T' := T7) (g' := (mkF m 82 #[.val (.int p1), .val (.int p2), .val (.int p3), .val (.int p4), .val (.int p5), .val (.int p6), .val (.int mm), .val (.int tt), .val (.int th), .val (.ref b4), .val (.int ex)] [])) (fun t_ k_ => XS.istore X7.here hx rfl (hb hby at_80) rfl (l' := #[.val (.int p1), .val (.int p2), .val (.int p3), .val (.int p4), .val (.int p5), .val (.int p6), .val (.int mm), .val (.int tt), .val (.int th), .val (.ref b4), .val (.int ex)]) rfl k_) ?_
          refine Go.st (T' := T7) (g' := (mkF m 84 #[.val (.int p1), .val (.int p2), .val (.int p3), .val (.int p4), .val (.int p5), .val (.int p6), .val (.int mm), .val (.int tt), .val (.int th), .val (.ref b4), .val (.int ex)] [(.ref b4)])) (fun t_ k_ => XS.aload X7.here hx rfl (hb hby at_82) rfl rfl k_) ?_
          refine goVirtS X7 hx hZ (y := (⟨"com/example/cellsight/cellsight/analysis/Call", "dispatches", "()Z"⟩ : MethodName)) hown (hw _ (List.mem_of_getElem? (i := 31) rfl)) (hw _ (List.mem_of_getElem? (i := 32) rfl)) (hw _ (List.mem_of_getElem? (i := 34) rfl)) (hw _ (List.mem_of_getElem? (i := 33) rfl)) (hw _ (List.mem_of_getElem? (i := 2) rfl)) (hw _ (List.mem_of_getElem? (i := 35) rfl)) (by decide) p7_0 (rm3 l Z a0 hw [] n0 h7 b4 mm sz7 p7_1) 0 (by decide) (by decide) (by rw [hml]; rfl) [] [] (lenOf pd_06e7e94b rfl) rfl rfl rfl (hb hby at_84) (by decide) (by decide) fun v9 T9 h9 X9 hq9 => ?_
          obtain ⟨r1, rfl, eh9, t1⟩ := hq9
          rw [eh9] at X9
          show Go p e below _ T9 (mkF m 87 #[.val (.int p1), .val (.int p2), .val (.int p3), .val (.int p4), .val (.int p5), .val (.int p6), .val (.int mm), .val (.int tt), .val (.int th), .val (.ref b4), .val (.int ex)] [(.int r1)])
          refine Go.st (T' := T9) (g' := (mkF m 89 #[.val (.int p1), .val (.int p2), .val (.int p3), .val (.int p4), .val (.int p5), .val (.int p6), .val (.int mm), .val (.int tt), .val (.int th), .val (.ref b4), .val (.int ex)] [(.int ex), (.int r1)])) (fun t_ k_ => XS.iload X9.here hx rfl (hb hby at_87) rfl k_) ?_
          have hc89 : r1 = ex := own_is_eq t1 (by rw [h_ex]; by_cases z : mm = (-1 : Int32) <;> simp [own_is, z])
          refine Go.st (T' := T9) (g' := (mkF m 92 #[.val (.int p1), .val (.int p2), .val (.int p3), .val (.int p4), .val (.int p5), .val (.int p6), .val (.int mm), .val (.int tt), .val (.int th), .val (.ref b4), .val (.int ex)] [])) (fun t_ k_ => XS.icmpNo X9.here hx rfl (hb hby at_89) rfl (teq hc89).2 k_) ?_
          refine Go.st (T' := T9) (g' := (mkF m 94 #[.val (.int p1), .val (.int p2), .val (.int p3), .val (.int p4), .val (.int p5), .val (.int p6), .val (.int mm), .val (.int tt), .val (.int th), .val (.ref b4), .val (.int ex)] [(.ref b4)])) (fun t_ k_ => XS.aload X9.here hx rfl (hb hby at_92) rfl rfl k_) ?_
          refine goVirtS X9 hx hZ (y := (⟨"com/example/cellsight/cellsight/analysis/Call", "method", "()I"⟩ : MethodName)) hown (hw _ (List.mem_of_getElem? (i := 36) rfl)) (hw _ (List.mem_of_getElem? (i := 37) rfl)) (hw _ (List.mem_of_getElem? (i := 39) rfl)) (hw _ (List.mem_of_getElem? (i := 38) rfl)) (hw _ (List.mem_of_getElem? (i := 2) rfl)) (hw _ (List.mem_of_getElem? (i := 40) rfl)) (by decide) p7_0 (rm4 l Z a0 hw [] n0 h7 b4 mm sz7 p7_1) 0 (by decide) (by decide) (by rw [hml]; rfl) [] [] (lenOf pd_8259a895 rfl) rfl rfl rfl (hb hby at_94) (by decide) (by decide) fun v10 T10 h10 X10 hq10 => ?_
          obtain ⟨rfl, eh10⟩ := hq10
          rw [eh10] at X10
          show Go p e below _ T10 (mkF m 97 #[.val (.int p1), .val (.int p2), .val (.int p3), .val (.int p4), .val (.int p5), .val (.int p6), .val (.int mm), .val (.int tt), .val (.int th), .val (.ref b4), .val (.int ex)] [(.int mm)])
          refine Go.st (T' := T10) (g' := (mkF m 99 #[.val (.int p1), .val (.int p2), .val (.int p3), .val (.int p4), .val (.int p5), .val (.int p6), .val (.int mm), .val (.int tt), .val (.int th), .val (.ref b4), .val (.int ex)] [(.int mm), (.int mm)])) (fun t_ k_ => XS.iload X10.here hx rfl (hb hby at_97) rfl k_) ?_
          have hc99 : mm = mm := rfl
          refine Go.st (T' := T10) (g' := (mkF m 102 #[.val (.int p1), .val (.int p2), .val (.int p3), .val (.int p4), .val (.int p5), .val (.int p6), .val (.int mm), .val (.int tt), .val (.int th), .val (.ref b4), .val (.int ex)] [])) (fun t_ k_ => XS.icmpNo X10.here hx rfl (hb hby at_99) rfl (teq hc99).2 k_) ?_
          refine Go.st (T' := T10) (g' := (mkF m 103 #[.val (.int p1), .val (.int p2), .val (.int p3), .val (.int p4), .val (.int p5), .val (.int p6), .val (.int mm), .val (.int tt), .val (.int th), .val (.ref b4), .val (.int ex)] [(.int (1 : Int32))])) (fun t_ k_ => XS.iconst X10.here hx rfl (hb hby at_102) k_) ?_
          refine Go.st (T' := T10) (g' := (mkF m 107 #[.val (.int p1), .val (.int p2), .val (.int p3), .val (.int p4), .val (.int p5), .val (.int p6), .val (.int mm), .val (.int tt), .val (.int th), .val (.ref b4), .val (.int ex)] [(.int (1 : Int32))])) (fun t_ k_ => XS.goto X10.here hx rfl (pc0 := 103) (pc' := 107) rfl (hb hby at_103) (by decide) (by decide) k_) ?_
          refine goRetZ X10 hx hlk hret (hb hby at_107) (by decide) (by decide) (Or.inr rfl) ?_
          exact rfl
        by_cases hc72 : mm = (-1 : Int32)
        · skip
          refine Go.st (T' := T7) (g' := (mkF m 79 #[.val (.int p1), .val (.int p2), .val (.int p3), .val (.int p4), .val (.int p5), .val (.int p6), .val (.int mm), .val (.int tt), .val (.int th), .val (.ref b4), .unset] [])) (fun t_ k_ => XS.icmpYes X7.here hx rfl (pc0 := 72) (pc' := 79) rfl (hb hby at_72) rfl (teq hc72).1 (by decide) (by decide) k_) ?_
          refine Go.st (T' := T7) (g' := (mkF m 80 #[.val (.int p1), .val (.int p2), .val (.int p3), .val (.int p4), .val (.int p5), .val (.int p6), .val (.int mm), .val (.int tt), .val (.int th), .val (.ref b4), .unset] [(.int (0 : Int32))])) (fun t_ k_ => XS.iconst X7.here hx rfl (hb hby at_79) k_) ?_
          exact J80_8 (0 : Int32) (by rw [if_pos hc72])
        · skip
          refine Go.st (T' := T7) (g' := (mkF m 75 #[.val (.int p1), .val (.int p2), .val (.int p3), .val (.int p4), .val (.int p5), .val (.int p6), .val (.int mm), .val (.int tt), .val (.int th), .val (.ref b4), .unset] [])) (fun t_ k_ => XS.icmpNo X7.here hx rfl (hb hby at_72) rfl (feq hc72).1 k_) ?_
          refine Go.st (T' := T7) (g' := (mkF m 76 #[.val (.int p1), .val (.int p2), .val (.int p3), .val (.int p4), .val (.int p5), .val (.int p6), .val (.int mm), .val (.int tt), .val (.int th), .val (.ref b4), .unset] [(.int (1 : Int32))])) (fun t_ k_ => XS.iconst X7.here hx rfl (hb hby at_75) k_) ?_
          refine Go.st (T' := T7) (g' := (mkF m 80 #[.val (.int p1), .val (.int p2), .val (.int p3), .val (.int p4), .val (.int p5), .val (.int p6), .val (.int mm), .val (.int tt), .val (.int th), .val (.ref b4), .unset] [(.int (1 : Int32))])) (fun t_ k_ => XS.goto X7.here hx rfl (pc0 := 76) (pc' := 80) rfl (hb hby at_76) (by decide) (by decide) k_) ?_
          exact J80_8 (1 : Int32) (by rw [if_neg hc72])
      by_cases hc34 : (p6 &&& (8 : Int32)) = (0 : Int32)
      · skip
        refine Go.st (T' := s₁) (g' := (mkF m 41 #[.val (.int p1), .val (.int p2), .val (.int p3), .val (.int p4), .val (.int p5), .val (.int p6), .val (.int mm), .val (.int tt), .unset, .unset, .unset] [])) (fun t_ k_ => XS.ifYes X0.here hx rfl (pc0 := 34) (pc' := 41) rfl (hb hby at_34) rfl ((if0 _ _).trans (teq hc34).1) (by decide) (by decide) k_) ?_
        refine Go.st (T' := s₁) (g' := (mkF m 42 #[.val (.int p1), .val (.int p2), .val (.int p3), .val (.int p4), .val (.int p5), .val (.int p6), .val (.int mm), .val (.int tt), .unset, .unset, .unset] [(.int p4)])) (fun t_ k_ => XS.iloadN X0.here hx rfl (hb hby at_41) rfl k_) ?_
        exact J42_3 p4 (by rw [if_pos hc34])
      · skip
        refine Go.st (T' := s₁) (g' := (mkF m 37 #[.val (.int p1), .val (.int p2), .val (.int p3), .val (.int p4), .val (.int p5), .val (.int p6), .val (.int mm), .val (.int tt), .unset, .unset, .unset] [])) (fun t_ k_ => XS.ifNo X0.here hx rfl (hb hby at_34) rfl ((if0 _ _).trans (feq hc34).1) k_) ?_
        refine Go.st (T' := s₁) (g' := (mkF m 38 #[.val (.int p1), .val (.int p2), .val (.int p3), .val (.int p4), .val (.int p5), .val (.int p6), .val (.int mm), .val (.int tt), .unset, .unset, .unset] [(.int (-1 : Int32))])) (fun t_ k_ => XS.iconst X0.here hx rfl (hb hby at_37) k_) ?_
        refine Go.st (T' := s₁) (g' := (mkF m 42 #[.val (.int p1), .val (.int p2), .val (.int p3), .val (.int p4), .val (.int p5), .val (.int p6), .val (.int mm), .val (.int tt), .unset, .unset, .unset] [(.int (-1 : Int32))])) (fun t_ k_ => XS.goto X0.here hx rfl (pc0 := 38) (pc' := 42) rfl (hb hby at_38) (by decide) (by decide) k_) ?_
        exact J42_3 (-1 : Int32) (by rw [if_neg hc34])
    by_cases hc19 : (p6 &&& (4 : Int32)) = (0 : Int32)
    · skip
      refine Go.st (T' := s₁) (g' := (mkF m 26 #[.val (.int p1), .val (.int p2), .val (.int p3), .val (.int p4), .val (.int p5), .val (.int p6), .val (.int mm), .unset, .unset, .unset, .unset] [])) (fun t_ k_ => XS.ifYes X0.here hx rfl (pc0 := 19) (pc' := 26) rfl (hb hby at_19) rfl ((if0 _ _).trans (teq hc19).1) (by decide) (by decide) k_) ?_
      refine Go.st (T' := s₁) (g' := (mkF m 27 #[.val (.int p1), .val (.int p2), .val (.int p3), .val (.int p4), .val (.int p5), .val (.int p6), .val (.int mm), .unset, .unset, .unset, .unset] [(.int p3)])) (fun t_ k_ => XS.iloadN X0.here hx rfl (hb hby at_26) rfl k_) ?_
      exact J27_2 p3 (by rw [if_pos hc19])
    · skip
      refine Go.st (T' := s₁) (g' := (mkF m 22 #[.val (.int p1), .val (.int p2), .val (.int p3), .val (.int p4), .val (.int p5), .val (.int p6), .val (.int mm), .unset, .unset, .unset, .unset] [])) (fun t_ k_ => XS.ifNo X0.here hx rfl (hb hby at_19) rfl ((if0 _ _).trans (feq hc19).1) k_) ?_
      refine Go.st (T' := s₁) (g' := (mkF m 23 #[.val (.int p1), .val (.int p2), .val (.int p3), .val (.int p4), .val (.int p5), .val (.int p6), .val (.int mm), .unset, .unset, .unset, .unset] [(.int (-1 : Int32))])) (fun t_ k_ => XS.iconst X0.here hx rfl (hb hby at_22) k_) ?_
      refine Go.st (T' := s₁) (g' := (mkF m 27 #[.val (.int p1), .val (.int p2), .val (.int p3), .val (.int p4), .val (.int p5), .val (.int p6), .val (.int mm), .unset, .unset, .unset, .unset] [(.int (-1 : Int32))])) (fun t_ k_ => XS.goto X0.here hx rfl (pc0 := 23) (pc' := 27) rfl (hb hby at_23) (by decide) (by decide) k_) ?_
      exact J27_2 (-1 : Int32) (by rw [if_neg hc19])
  by_cases hc4 : (p6 &&& (3 : Int32)) = (0 : Int32)
  · skip
    refine Go.st (T' := s₁) (g' := (mkF m 7 #[.val (.int p1), .val (.int p2), .val (.int p3), .val (.int p4), .val (.int p5), .val (.int p6), .unset, .unset, .unset, .unset, .unset] [])) (fun t_ k_ => XS.ifNo X0.here hx rfl (hb hby at_4) rfl ((if0 _ _).trans (teq hc4).2) k_) ?_
    refine Go.st (T' := s₁) (g' := (mkF m 8 #[.val (.int p1), .val (.int p2), .val (.int p3), .val (.int p4), .val (.int p5), .val (.int p6), .unset, .unset, .unset, .unset, .unset] [(.int (-1 : Int32))])) (fun t_ k_ => XS.iconst X0.here hx rfl (hb hby at_7) k_) ?_
    refine Go.st (T' := s₁) (g' := (mkF m 13 #[.val (.int p1), .val (.int p2), .val (.int p3), .val (.int p4), .val (.int p5), .val (.int p6), .unset, .unset, .unset, .unset, .unset] [(.int (-1 : Int32))])) (fun t_ k_ => XS.goto X0.here hx rfl (pc0 := 8) (pc' := 13) rfl (hb hby at_8) (by decide) (by decide) k_) ?_
    exact J13_1 (-1 : Int32) (by rw [if_pos hc4])
  · skip
    refine Go.st (T' := s₁) (g' := (mkF m 11 #[.val (.int p1), .val (.int p2), .val (.int p3), .val (.int p4), .val (.int p5), .val (.int p6), .unset, .unset, .unset, .unset, .unset] [])) (fun t_ k_ => XS.ifYes X0.here hx rfl (pc0 := 4) (pc' := 11) rfl (hb hby at_4) rfl ((if0 _ _).trans (feq hc4).2) (by decide) (by decide) k_) ?_
    refine Go.st (T' := s₁) (g' := (mkF m 13 #[.val (.int p1), .val (.int p2), .val (.int p3), .val (.int p4), .val (.int p5), .val (.int p6), .unset, .unset, .unset, .unset, .unset] [(.int p5)])) (fun t_ k_ => XS.iload X0.here hx rfl (hb hby at_11) rfl k_) ?_
    exact J13_1 p5 (by rw [if_neg hc4])
set_option maxRecDepth 65536 in
set_option maxHeartbeats 40000000 in
theorem comes_1 {Post : Tables → Env → Array Value → State → Outcome → State → Prop} (hpost : ∀ tb e args s v u, (limb_1_1.after args s (.returned v) u = true ∧ limb_1_2.after args s (.returned v) u = true ∧ True) → FrameEnd s (.returned v) u (Jvm.fieldLocs frame_1_writes args s ++ Jvm.arrayLocs frame_1_arrays args s ++ Jvm.staticLocs frame_1_statics s) 16 128 → Post tb e args s (.returned v) u) :
    ArmFor flags0 classFile x code maxLocals ret World_1 tables_1 room_1 Calls_1 rest_1 Pre_1 Post := by
  intro l hfl _ _ p e ha hc hk s m args below hf hA hF happ hP
  obtain ⟨hcalls, hrest, hpre⟩ := hP
  obtain ⟨-, -, -, hnamed, -, -, -, hat⟩ := (Spec.applies_iff hf).mp happ
  obtain ⟨hg, hn⟩ := and_e (Cond.before_iff.mp (show (Jvm.Cond.and given_1 narrow_1).before args s = true from hpre))
  obtain ⟨hcnt, hg⟩ := and_e hg
  obtain ⟨ha0, hg⟩ := and_e hg
  obtain ⟨ha1, hg⟩ := and_e hg
  obtain ⟨ha2, hg⟩ := and_e hg
  obtain ⟨ha3, hg⟩ := and_e hg
  obtain ⟨ha4, hg⟩ := and_e hg
  have ha5 := hg
  obtain ⟨w0, w1, w2, w3, w4, w5, rfl⟩ : ∃ w0 w1 w2 w3 w4 w5 : Value, args = #[w0, w1, w2, w3, w4, w5] := by
    have hs : args.size = 6 := by simpa [Cond.value, given_1] using hcnt
    obtain ⟨L⟩ := args
    match L, hs with
    | [w0, w1, w2, w3, w4, w5], _ => exact ⟨w0, w1, w2, w3, w4, w5, rfl⟩
  have hw := fun d (hd : d ∈ tables_1) => atoms_spec (ws := Jvm.Cond.code x code maxLocals ret :: tables_1) hat d (List.mem_cons_of_mem _ hd)
  have hfit : Fit s := fun {y c} hc i hi => by
    obtain ⟨ha, rfl⟩ := Array.getElem?_eq_some_iff.mp hc
    have q := List.all_eq_true.mp ((Array.all_eq_true_iff_forall_mem.mp hF) _ (Array.getElem_mem ha)) i (List.mem_range.mpr hi)
    simpa [Array.getElem?_eq_getElem hi] using q
  obtain ⟨i0, ei0⟩ := is_v ha0
  obtain rfl : w0 = (.int i0) := Option.some.inj ei0
  obtain ⟨i1, ei1⟩ := is_v ha1
  obtain rfl : w1 = (.int i1) := Option.some.inj ei1
  obtain ⟨i2, ei2⟩ := is_v ha2
  obtain rfl : w2 = (.int i2) := Option.some.inj ei2
  obtain ⟨i3, ei3⟩ := is_v ha3
  obtain rfl : w3 = (.int i3) := Option.some.inj ei3
  obtain ⟨i4, ei4⟩ := is_v ha4
  obtain rfl : w4 = (.int i4) := Option.some.inj ei4
  obtain ⟨i5, ei5⟩ := is_v ha5
  obtain rfl : w5 = (.int i5) := Option.some.inj ei5
  obtain ⟨n, o, h1, h2, h3, v, L, rfl, ⟨N, hv⟩, hq⟩ := rm0 l s _ hw tables_1 s.heap.size s.heap i0 i1 i2 i3 i4 i5 (Nat.le_refl _) p e ha hc hk s m _ below hf ((Spec.applies_iff_loose hf).mp happ).1 ⟨rfl, State.Warmed39.refl s, rfl⟩ trivial
  obtain rfl : v = some (.int 1) := hv
  refine ⟨n, _, h1, h2, h3, hpost _ _ _ _ _ _ ⟨Cond.after_iff.mpr rfl, Cond.after_iff.mpr (eq_i res_at (Term.int_eval (1)) rfl), trivial⟩ ⟨hq.1, hq.2.1, (hq.2.2.sift fun y hy => Or.inr (N y hy)).mono (by decide) (by decide)⟩⟩
theorem main_1_1 : Claimed_1_1 := comes_1 fun _ _ _ _ _ _ h hF => ⟨h.1, hF⟩
theorem main_1_2 : Claimed_1_2 := comes_1 fun _ _ _ _ _ _ h hF => ⟨h.2.1, hF⟩
end Jvm.Pilot.@@N@@
namespace Jvm.Pilot.@@N@@
open Jvm Jvm.ClassFile Sem Op Lib Jvm.Free Jvm.Stand Jvm.Pilot.@@N@@.Jvm.D
/-! MADE BY PROGRAM (witnessworld.py) out of the Statement's table words and the real class files: 9 classes; the members and pool entries that the words name. The judged class is class 1, her method 1. -/
namespace start1
open Jvm.ClassFile
def u (s : String) : CpInfo := .utf8 (stringToUtf16 s)
/-- a pool by its gaps: so many unusable entries, then the entry; so many at the end -/
def gap : Nat → List CpInfo → List CpInfo
  | 0, r => r
  | n + 1, r => .unusable :: gap n r
def poolList (es : List (Nat × CpInfo)) (last : Nat) : List CpInfo := es.foldr (fun e r => gap e.1 (e.2 :: r)) (gap last [])
def pool (es : List (Nat × CpInfo)) (last : Nat) : Array CpInfo := ⟨poolList es last⟩
def fileOf (pool : Array CpInfo) (this : Nat) (attrs : Array Attribute := #[]) (ms : Array MethodInfo := #[]) (fl : Nat := 33) (sup : Nat := 0) (ifs : Array Nat := #[]) (fds : Array FieldInfo := #[]) : ClassFile where
  minorVersion := 0
  majorVersion := 65
  constantPool := pool
  accessFlags := fl
  thisClass := this
  superClass := sup
  interfaces := ifs
  fields := fds
  methods := ms
  attributes := attrs
def plain (name : String) (sup : Option ClassId) : Class where
  name := name
  kind := .ordinary
  loader := none
  accessFlags := 33
  super := sup
  interfaces := #[]
  cf := none
  fields := #[]
  methods := #[]
  instanceTypes := #[]
  staticTypes := #[]
  resolved := #[]
  callSites := []
  init := .initialized
  statics := none
  mirror := none

def pool0 : Array CpInfo := pool [(5, u "<init>"), (0, u "()V"), (1, .class_ 10), (1, u "java/lang/Object"), (85, u "clone"), (0, u "()Ljava/lang/Object;")] 26

def k0c0 : Code := { maxStack := 0, maxLocals := 1, code := object_method_1_code, exceptionTable := #[], attributes := #[] }
def k0m0 : Method := { name := "<init>", desc := "()V", sig := { parameters := [], returnType := none }, accessFlags := 1, code := some k0c0 }
def k0m1 : Method := { name := "clone", desc := "()Ljava/lang/Object;", sig := { parameters := [], returnType := some (.object "java/lang/Object") }, accessFlags := 260, code := none }
/-- java/lang/Object -/
def k0 : Class := { plain "java/lang/Object" none with
  accessFlags := 33
  interfaces := #[]
  cf := some (fileOf pool0 8 #[] #[{ accessFlags := 1, nameIndex := 5, descriptorIndex := 6, attributes := #[] }, { accessFlags := 260, nameIndex := 96, descriptorIndex := 97, attributes := #[] }] 33 0 #[] #[])
  fields := #[]
  methods := #[k0m0, k0m1]
  instanceTypes := #[]
  staticTypes := #[]
  resolved := Array.replicate 124 none
  statics := none }

def pool1 : Array CpInfo := pool [(2, .class_ 4), (1, u "java/lang/Object"), (0, u "<init>"), (0, u "()V"), (2, .class_ 10), (0, u "com/example/cellsight/cellsight/analysis/Call"), (0, .methodref 9 12), (0, .nameAndType 5 13), (0, u "(IIIII[I)V"), (0, .methodref 9 15), (0, .nameAndType 16 17), (0, u "dispatches"), (0, u "()Z"), (0, .methodref 9 19), (0, .nameAndType 20 21), (0, u "method"), (0, u "()I"), (0, .class_ 23), (0, u "com/example/cellsight/cellsight/analysis/CallDispatchesPinLaw"), (2, u "law"), (0, u "(IIIIII)Z")] 3

def k1m0 : Method := { name := "<init>", desc := "()V", sig := { parameters := [], returnType := none }, accessFlags := 1, code := none }
def k1c1 : Code := { maxStack := 11, maxLocals := 11, code := code, exceptionTable := #[], attributes := #[] }
def k1m1 : Method := { name := "law", desc := "(IIIIII)Z", sig := { parameters := [.int, .int, .int, .int, .int, .int], returnType := some .boolean }, accessFlags := 9, code := some k1c1 }
/-- com/example/cellsight/cellsight/analysis/CallDispatchesPinLaw -/
def k1 : Class := { plain "com/example/cellsight/cellsight/analysis/CallDispatchesPinLaw" (some 0) with
  accessFlags := 49
  interfaces := #[]
  cf := some (fileOf pool1 22 #[] #[{ accessFlags := 1, nameIndex := 5, descriptorIndex := 6, attributes := #[] }, { accessFlags := 9, nameIndex := 26, descriptorIndex := 27, attributes := #[] }] 49 2 #[] #[])
  fields := #[]
  methods := #[k1m0, k1m1]
  instanceTypes := #[]
  staticTypes := #[]
  resolved := Array.replicate 31 none
  statics := none }

def pool2 : Array CpInfo := pool [(1, .methodref 2 3), (0, .class_ 4), (0, .nameAndType 5 6), (0, u "java/lang/Object"), (0, u "<init>"), (0, u "()V"), (0, .fieldref 8 9), (0, .class_ 10), (0, .nameAndType 11 12), (0, u "com/example/cellsight/cellsight/analysis/Call"), (0, u "index"), (0, u "I"), (0, .fieldref 8 14), (0, .nameAndType 15 12), (0, u "result"), (0, .fieldref 8 17), (0, .nameAndType 18 12), (0, u "thrown"), (0, .fieldref 8 20), (0, .nameAndType 21 12), (0, u "through"), (0, .fieldref 8 23), (0, .nameAndType 24 12), (0, u "method"), (0, .methodref 26 27), (0, .class_ 28), (0, .nameAndType 29 30), (0, u "[I"), (0, u "clone"), (0, u "()Ljava/lang/Object;"), (0, .fieldref 8 32), (0, .nameAndType 33 28), (0, u "arguments"), (2, u "(IIIII[I)V"), (2, u "()I"), (0, u "dispatches"), (0, u "()Z")] 6

def k2c0 : Code := { maxStack := 2, maxLocals := 7, code := prog_9_method_1_code, exceptionTable := #[], attributes := #[] }
def k2m0 : Method := { name := "<init>", desc := "(IIIII[I)V", sig := { parameters := [.int, .int, .int, .int, .int, (.array .int)], returnType := none }, accessFlags := 0, code := some k2c0 }
def k2c1 : Code := { maxStack := 2, maxLocals := 1, code := prog_9_method_6_code, exceptionTable := #[], attributes := #[] }
def k2m1 : Method := { name := "dispatches", desc := "()Z", sig := { parameters := [], returnType := some .boolean }, accessFlags := 0, code := some k2c1 }
def k2c2 : Code := { maxStack := 1, maxLocals := 1, code := prog_9_method_7_code, exceptionTable := #[], attributes := #[] }
def k2m2 : Method := { name := "method", desc := "()I", sig := { parameters := [], returnType := some .int }, accessFlags := 0, code := some k2c2 }
/-- com/example/cellsight/cellsight/analysis/Call -/
def k2 : Class := { plain "com/example/cellsight/cellsight/analysis/Call" (some 0) with
  accessFlags := 32
  interfaces := #[]
  cf := some (fileOf pool2 8 #[] #[{ accessFlags := 0, nameIndex := 5, descriptorIndex := 36, attributes := #[] }, { accessFlags := 0, nameIndex := 40, descriptorIndex := 41, attributes := #[] }, { accessFlags := 0, nameIndex := 24, descriptorIndex := 39, attributes := #[] }] 32 2 #[] #[{ accessFlags := 18, nameIndex := 11, descriptorIndex := 12, attributes := #[] }, { accessFlags := 18, nameIndex := 15, descriptorIndex := 12, attributes := #[] }, { accessFlags := 18, nameIndex := 18, descriptorIndex := 12, attributes := #[] }, { accessFlags := 18, nameIndex := 21, descriptorIndex := 12, attributes := #[] }, { accessFlags := 18, nameIndex := 24, descriptorIndex := 12, attributes := #[] }, { accessFlags := 18, nameIndex := 33, descriptorIndex := 28, attributes := #[] }])
  fields := #[{ name := "index", type := .int, accessFlags := 18, slot := 0, constantValue := 0 }, { name := "result", type := .int, accessFlags := 18, slot := 1, constantValue := 0 }, { name := "thrown", type := .int, accessFlags := 18, slot := 2, constantValue := 0 }, { name := "through", type := .int, accessFlags := 18, slot := 3, constantValue := 0 }, { name := "method", type := .int, accessFlags := 18, slot := 4, constantValue := 0 }, { name := "arguments", type := (.array .int), accessFlags := 18, slot := 5, constantValue := 0 }]
  methods := #[k2m0, k2m1, k2m2]
  instanceTypes := #[.int, .int, .int, .int, .int, (.array .int)]
  staticTypes := #[]
  resolved := Array.replicate 48 none
  statics := none }

def pool3 : Array CpInfo := pool [(1, .class_ 2), (0, u "java/lang/Cloneable"), (0, .class_ 4), (0, u "java/lang/Object")] 2

/-- java/lang/Cloneable -/
def k3 : Class := { plain "java/lang/Cloneable" (some 0) with
  accessFlags := 1537
  interfaces := #[]
  cf := some (fileOf pool3 1 #[] #[] 1537 3 #[] #[])
  fields := #[]
  methods := #[]
  instanceTypes := #[]
  staticTypes := #[]
  resolved := Array.replicate 7 none
  statics := none }

def pool4 : Array CpInfo := pool [(1, u "java/io/Serializable"), (0, .class_ 1), (0, u "java/lang/Object"), (0, .class_ 3)] 3

/-- java/io/Serializable -/
def k4 : Class := { plain "java/io/Serializable" (some 0) with
  accessFlags := 1537
  interfaces := #[]
  cf := some (fileOf pool4 2 #[] #[] 1537 4 #[] #[])
  fields := #[]
  methods := #[]
  instanceTypes := #[]
  staticTypes := #[]
  resolved := Array.replicate 8 none
  statics := none }

/-- the primitive byte -/
def k5 : Class := { plain "byte" none with kind := .primitive 'B', accessFlags := 0x411 }
/-- [B -/
def k6 : Class := { plain "[B" (some 0) with kind := .array 5 .byte, interfaces := #[3, 4], accessFlags := 1041 }

/-- the primitive int -/
def k7 : Class := { plain "int" none with kind := .primitive 'I', accessFlags := 0x411 }
/-- [I -/
def k8 : Class := { plain "[I" (some 0) with kind := .array 7 .int, interfaces := #[3, 4], accessFlags := 1041 }

def heap : Heap := #[]
def classes : Array Class := #[k0, k1, k2, k3, k4, k5, k6, k7, k8]
def interned : List (Array UInt16 × Addr) := []
def slotsUsed : Nat := 0
def theMethod : MethodId := ⟨1, 1⟩
def args0 : Array Value := #[.int 5, .int 5, .int 5, .int 5, .int 5, .int 5]
def aboutOver (below : List Frame) : State where
  vm := { classes := classes, interned := interned.toArray }
  heap := heap
  slotsUsed := slotsUsed
  threads := #[{ frames := .invoking theMethod args0 :: below }]
def below0 : List Frame := [.native { method := ⟨0, 0⟩, args := #[] }]
def about1 : State := aboutOver below0
def p0 : Program := .bare "" "" ""
def e0 : Env := launch0.env 0 0 0
theorem w_frames : about1.frames = Frame.invoking theMethod args0 :: below0 := rfl
set_option maxRecDepth 65536 in
theorem w_args : argsFit about1.vm theMethod args0 = true := by decide +kernel
set_option maxRecDepth 65536 in
theorem w_heap : heapFits about1 = true := by decide +kernel
set_option maxRecDepth 65536 in
theorem w_runnable : about1.curStatus? = some .runnable := by decide +kernel
set_option maxRecDepth 65536 in
theorem w_alone : about1.alone = true := by decide +kernel
set_option maxRecDepth 65536 in
theorem w_named : about1.methodNamed? x = some theMethod := by decide +kernel
set_option maxRecDepth 65536 in
theorem w_hears : about1.hears theMethod below0 = true := by decide +kernel
set_option maxRecDepth 65536 in
theorem w_ripe : about1.ripe theMethod args0 below0 = true := by decide +kernel
theorem w_running : about1.status = .running := rfl
set_option maxRecDepth 65536 in
theorem w_room : about1.hasRoom e0.platform room_1 = true :=
  launch0.hasRoom_least _ room_1 (by decide +kernel) (by decide +kernel) (by decide +kernel) (by decide +kernel) (by decide +kernel) (by decide +kernel)
theorem allAtoms_all (ts : List Jvm.Cond) (a : Array Jvm.Value) (st : Jvm.State) : (allAtoms ts).before a st = ts.all (fun c => c.before a st) := by
  induction ts with
  | nil => rfl
  | cons c t ih =>
    show (Jvm.Cond.and c (allAtoms t)).before a st = _
    rw [Jvm.Cond.before_and, ih, List.all_cons]
def words1 : List Jvm.Cond := Jvm.Cond.code x code maxLocals ret :: tables_1
/-- a 'code' word, met by the world's own term for the bytes: nothing is compared byte by byte -/
theorem code_word {y : MethodName} {bytes : ByteArray} {mx : Nat} {rt : Option FieldType} {a : Array Value} {s : State} {m : MethodId} {meth : Method} {c : Code} (h1 : s.methodNamed? y = some m) (h2 : s.vm.method? m = some meth) (h3 : meth.code = some c) (h4 : c.code = bytes)
    (h5 : (c.maxLocals == mx && c.exceptionTable.isEmpty && decide (c.maxStack ≤ mostOperands) && decide (meth.sig.returnType = rt) && !meth.locks && decide (parseMethodDescriptor y.desc = some meth.sig)) = true) : (Jvm.Cond.code y bytes mx rt).before a s = true := by
  simp only [Bool.and_eq_true, beq_iff_eq, Bool.not_eq_true', decide_eq_true_eq] at h5
  obtain ⟨⟨⟨⟨⟨g1, g2⟩, g3⟩, g4⟩, g5⟩, g6⟩ := h5
  simp [Cond.before, Cond.holds, Cond.value, h1, h2, h3, h4, g1, g2, g3, g4, g5, g6]
def isCode : Jvm.Cond → Bool
  | .code _ _ _ _ => true
  | _ => false
theorem all_split {L : List Jvm.Cond} {P : Jvm.Cond → Bool} (h1 : L.all (fun c => isCode c || P c) = true) (h2 : ∀ c ∈ L.filter isCode, P c = true) : L.all P = true := by
  refine List.all_eq_true.mpr fun c hc => ?_
  have h := List.all_eq_true.mp h1 c hc
  rcases Bool.eq_false_or_eq_true (isCode c) with hi | hi
  · exact h2 c (List.mem_filter.mpr ⟨hc, hi⟩)
  · simpa [hi] using h
set_option maxRecDepth 65536 in
theorem w_c0 : (Jvm.Cond.code x code maxLocals ret).before args0 about1 = true := code_word (m := ⟨1, 1⟩) (meth := k1m1) (c := k1c1) (by decide +kernel) rfl rfl rfl (by decide +kernel)
set_option maxRecDepth 65536 in
theorem w_c1 : (Jvm.Cond.code ({ cls := "com/example/cellsight/cellsight/analysis/Call", name := "<init>", desc := "(IIIII[I)V" } : Jvm.MethodName) prog_9_method_1_code (7 : Nat) (Option.none : Option Jvm.ClassFile.FieldType)).before args0 about1 = true := code_word (m := ⟨2, 0⟩) (meth := k2m0) (c := k2c0) (by decide +kernel) rfl rfl rfl (by decide +kernel)
set_option maxRecDepth 65536 in
theorem w_c2 : (Jvm.Cond.code ({ cls := "java/lang/Object", name := "<init>", desc := "()V" } : Jvm.MethodName) object_method_1_code (1 : Nat) (Option.none : Option Jvm.ClassFile.FieldType)).before args0 about1 = true := code_word (m := ⟨0, 0⟩) (meth := k0m0) (c := k0c0) (by decide +kernel) rfl rfl rfl (by decide +kernel)
set_option maxRecDepth 65536 in
theorem w_c3 : (Jvm.Cond.code ({ cls := "com/example/cellsight/cellsight/analysis/Call", name := "dispatches", desc := "()Z" } : Jvm.MethodName) prog_9_method_6_code (1 : Nat) (Option.some Jvm.ClassFile.FieldType.boolean)).before args0 about1 = true := code_word (m := ⟨2, 1⟩) (meth := k2m1) (c := k2c1) (by decide +kernel) rfl rfl rfl (by decide +kernel)
set_option maxRecDepth 65536 in
theorem w_c4 : (Jvm.Cond.code ({ cls := "com/example/cellsight/cellsight/analysis/Call", name := "method", desc := "()I" } : Jvm.MethodName) prog_9_method_7_code (1 : Nat) (Option.some Jvm.ClassFile.FieldType.int)).before args0 about1 = true := code_word (m := ⟨2, 2⟩) (meth := k2m2) (c := k2c2) (by decide +kernel) rfl rfl rfl (by decide +kernel)
def codes1 : List Jvm.Cond := [Jvm.Cond.code x code maxLocals ret, Jvm.Cond.code ({ cls := "com/example/cellsight/cellsight/analysis/Call", name := "<init>", desc := "(IIIII[I)V" } : Jvm.MethodName) prog_9_method_1_code (7 : Nat) (Option.none : Option Jvm.ClassFile.FieldType), Jvm.Cond.code ({ cls := "java/lang/Object", name := "<init>", desc := "()V" } : Jvm.MethodName) object_method_1_code (1 : Nat) (Option.none : Option Jvm.ClassFile.FieldType), Jvm.Cond.code ({ cls := "com/example/cellsight/cellsight/analysis/Call", name := "dispatches", desc := "()Z" } : Jvm.MethodName) prog_9_method_6_code (1 : Nat) (Option.some Jvm.ClassFile.FieldType.boolean), Jvm.Cond.code ({ cls := "com/example/cellsight/cellsight/analysis/Call", name := "method", desc := "()I" } : Jvm.MethodName) prog_9_method_7_code (1 : Nat) (Option.some Jvm.ClassFile.FieldType.int)]
set_option maxRecDepth 65536 in
theorem codes_eq : words1.filter isCode = codes1 := rfl
theorem w_codes : ∀ c ∈ words1.filter isCode, c.before args0 about1 = true := by
  rw [codes_eq]
  intro c hc
  simp only [codes1, List.mem_cons, List.not_mem_nil, or_false] at hc
  rcases hc with rfl | rfl | rfl | rfl | rfl
  · exact w_c0
  · exact w_c1
  · exact w_c2
  · exact w_c3
  · exact w_c4
set_option maxRecDepth 65536 in
theorem w_t1 : (words1.take 24).all (fun c => isCode c || c.before args0 about1) = true := by decide +kernel
set_option maxRecDepth 65536 in
theorem w_t2 : (words1.drop 24).all (fun c => isCode c || c.before args0 about1) = true := by decide +kernel
theorem w_tables : (allAtoms (Jvm.Cond.code x code maxLocals ret :: tables_1)).before args0 about1 = true := by
  rw [allAtoms_all]
  show words1.all (fun c => c.before args0 about1) = true
  refine all_split ?_ w_codes
  rw [← List.take_append_drop 24 words1, List.all_append, w_t1, w_t2]
  rfl
set_option maxRecDepth 65536 in
theorem w_case : (Jvm.Cond.and given_1 narrow_1).before args0 about1 = true := by decide +kernel
theorem w_applies : (headSpec (Jvm.Cond.code x code maxLocals ret :: tables_1) room_1).applies x e0.platform about1 = true :=
  (Spec.applies_iff w_frames).mpr ⟨w_running, w_runnable, w_alone, w_named, w_hears, w_ripe, w_room, w_tables⟩
theorem atStart : AtStart classFile x code maxLocals ret World_1 tables_1 room_1 Calls_1 rest_1 Pre_1 launch0 p0 e0 about1 theMethod args0 below0 :=
  ⟨lists_1, trivial, launch0.admits_env _ _ _, launch0.least_env, fairChoices_fair.cas, fairChoices_fair.clock, w_frames, w_args, w_heap, w_applies, trivial, trivial, w_case⟩
end start1
theorem witness_1 : WitnessClaimed_1 := ⟨start1.p0, start1.e0, start1.about1, start1.theMethod, start1.args0, start1.below0, start1.atStart⟩
end Jvm.Pilot.@@N@@
